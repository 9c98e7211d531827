import PyProof.Rows.All
import Wide.All
import OpenK.AllK
import Wide.FinOn
import PySem.Challenge.RW_dm0050_02
-- part XR
open PySem PySem.W PySem.W.X PyProof.Rows PySem.Calls PySem.Spec PySem.SeqAt
set_option Elab.async false
set_option maxRecDepth 100000
set_option maxHeartbeats 400000
set_option linter.all false
namespace Mine
section
variable {prog : Program} {w : World} {A : Around} {E : Value → Shared → Prop} {s : Shared} {env : Env}
theorem entry_unchain : entryFor table "proto.unchain" = some Builtin.«proto.unchain» := entryFor_of_tree (by kernel_rfl)

/-- a raise while k is handled, and k has no context of its own -/
theorem w_raiseNew_in {α : Type} {e k : Addr} {ok oe : Obj} {kvs evs : Array Value} {Q : α → Shared → Prop} (hh : A.handled = some (.ref k)) (hne : k ≠ e) (hk : s.heap.get? k = some ok) (hkd : ok.data = .fields kvs) (hk2 : kvs[2]? = some .none)
    (he : s.heap.get? e = some oe) (hed : oe.data = .fields evs) (hsz : 2 < evs.size)
    (h : E (.ref e) { s with heap := s.heap.update e (Obj.mapFields (·.setIfInBounds 2 (.ref k))) }) : wpAny (model prog w) A (raiseNew (.ref e) : Sem α) Q E s := by
  unfold raiseNew
  refine wpAny_bind (wpAny_handled ?_)
  rw [hh]
  dsimp only
  rw [if_pos (by simpa using hne)]
  refine wpAny_bind (wpAny_holding (wpAny_runValue (codeAny_builtin entry_unchain ?_)))
  unfold Builtin.«proto.unchain»
  refine wpAny_bind (wpAny_field hk hkd hk2 ?_)
  rw [if_pos (by decide)]
  refine wpAny_pure ?_
  show wpAny _ A (updateField e 2 (.ref k) >>= fun _ => throw (.ref e)) _ _ _
  unfold updateField
  refine wpAny_bind (wpAny_bind (wpAny_load he ?_))
  rw [hed]
  dsimp only
  rw [if_pos hsz]
  exact wpAny_update he (wpAny_throw h)

/-- raise .. from None, while k is handled -/
theorem w_raiseFrom {cls : String} (F : ExcRaiseFacts cls) {x c : Sem Value} {k : Addr} {Q : Flow → Shared → Prop} (hh : A.handled = some (.ref k)) (hc : ∀ (s : Shared) (Q : Value → Shared → Prop), Q .none s → wpAny (model prog w) A c Q E s)
    (h : wpAny (model prog w) A x (fun v s₁ => ∃ e t ok kvs, v = .ref e ∧ k ≠ e ∧ s₁.heap.get? e = some { cls := .type cls, data := .fields #[.ref t, .none, .none, .none, .bool false, .none] } ∧ s₁.heap.get? k = some ok ∧ ok.data = .fields kvs ∧ kvs[2]? = some .none ∧
      ∀ h', Heap.SameBut e s₁.heap h' → h'.get? e = some { cls := .type cls, data := .fields #[.ref t, .none, .ref k, .none, .bool true, .none] } → E (.ref e) { s₁ with heap := h' }) E s) :
    wpAny (model prog w) A (raiseStmt env (some x) (some c)) Q E s := by
  unfold raiseStmt
  refine wpAny_bind (wpAny_mono h (fun v s₁ h₁ => ?_) fun _ _ x => x)
  obtain ⟨e, t, ok, kvs, rfl, hne, he, hk, hkd, hk2, hE⟩ := h₁
  refine wpAny_bind (wpAny_holding (hc _ _ ?_))
  refine wpAny_bind (wpAny_pure ?_)
  obtain ⟨hp, g, d, tk, os⟩ := s₁
  have hsub := F.isExc
  have hmeta := F.plainMeta
  repeat (first | refine wpAny_loadPart he ?_ | wp_step)
  have he1 := Heap.get?_update_self (Obj.mapFields (·.setIfInBounds 3 Value.none)) he rfl
  have he2 := Heap.get?_update_self (Obj.mapFields (·.setIfInBounds 4 (Value.bool true))) he1 rfl
  refine w_raiseNew_in hh hne ((Heap.get?_update_other _ _ (Ne.symm hne)).trans ((Heap.get?_update_other _ _ (Ne.symm hne)).trans hk)) hkd hk2 he2 rfl (by show (2 : Nat) < 6; decide) ?_
  exact hE _ (((Heap.SameBut.update ..).trans (Heap.SameBut.update ..)).trans (Heap.SameBut.update ..)) (Heap.get?_update_self _ he2 rfl)
end
end Mine

-- part Lg
open PySem PySem.W PyProof.Rows PySem.Calls
set_option Elab.async false
namespace Mine

/-! the ledger: what the call has made, address by address, each with a word about the object there -/
abbrev Cell := Obj → Prop
abbrev Ledger := List (Addr × Cell)
abbrev GLedger := List (Nat × (GenState → Prop))

structure St (b s : Shared) (L : Ledger) (G : GLedger) : Prop where
  keep : ∀ a o, b.heap.get? a = some o → s.heap.get? a = some o
  own : ∀ p ∈ L, b.heap.get? p.1 = none ∧ ∃ o, s.heap.get? p.1 = some o ∧ p.2 o
  nodup : (L.map (·.1)).Nodup
  os : s.os = b.os
  bare : AllBare s.gens
  gens : ∀ p ∈ G, ∃ gs, s.gens[p.1]? = some gs ∧ p.2 gs
  gnodup : (G.map (·.1)).Nodup

inductive Upd {α β : Type} : List (α × β) → α → β → List (α × β) → Prop
  | head {a P P' r} : Upd ((a, P) :: r) a P' ((a, P') :: r)
  | tail {e a P' r r'} : Upd r a P' r' → Upd (e :: r) a P' (e :: r')

theorem Upd.keys {α β : Type} {L L' : List (α × β)} {a : α} {P' : β} (u : Upd L a P' L') : L'.map (·.1) = L.map (·.1) := by
  induction u with
  | head => rfl
  | tail _ ih => simp [ih]
theorem Upd.has {α β : Type} {L L' : List (α × β)} {a : α} {P' : β} (u : Upd L a P' L') : ∃ P, (a, P) ∈ L := by
  induction u with
  | head => exact ⟨_, .head _⟩
  | tail _ ih => exact let ⟨P, h⟩ := ih; ⟨P, .tail _ h⟩
theorem Upd.mem {α β : Type} {L L' : List (α × β)} {a : α} {P' : β} (u : Upd L a P' L') (hn : (L.map (·.1)).Nodup) : ∀ p ∈ L', p = (a, P') ∨ (p ∈ L ∧ p.1 ≠ a) := by
  induction u with
  | @head a P P' r =>
    intro p hp
    rcases List.mem_cons.mp hp with rfl | hp
    · exact .inl rfl
    · refine .inr ⟨.tail _ hp, fun e => ?_⟩
      have := (List.nodup_cons.mp hn).1
      exact this (List.mem_map.mpr ⟨p, hp, e⟩)
  | @tail e a P' r r' u ih =>
    intro p hp
    rcases List.mem_cons.mp hp with rfl | hp
    · by_cases h : p.1 = a
      · exfalso
        obtain ⟨P, hm⟩ := u.has
        exact (List.nodup_cons.mp hn).1 (List.mem_map.mpr ⟨_, hm, h.symm⟩)
      · exact .inr ⟨.head _, h⟩
    · rcases ih (List.nodup_cons.mp hn).2 p hp with h | ⟨h, h'⟩
      · exact .inl h
      · exact .inr ⟨.tail _ h, h'⟩

section
variable {b s s' : Shared} {L L' : Ledger} {G G' : GLedger}

theorem St.get (S : St b s L G) {a : Addr} {P : Cell} (h : (a, P) ∈ L) : ∃ o, s.heap.get? a = some o ∧ P o := (S.own _ h).2
theorem St.lt (S : St b s L G) {a : Addr} {P : Cell} (h : (a, P) ∈ L) : a < s.heap.objs.size := let ⟨_, e, _⟩ := S.get h; Heap.lt_size e

theorem St.keeps (S : St b s L G) (hk : ∀ a o, s.heap.get? a = some o → s'.heap.get? a = some o) (hg : s'.gens = s.gens := by rfl) (ho : s'.os = s.os := by rfl) : St b s' L G :=
  ⟨fun a o e => hk a o (S.keep a o e), fun p hp => ⟨(S.own p hp).1, let ⟨o, e, h⟩ := (S.own p hp).2; ⟨o, hk _ _ e, h⟩⟩, S.nodup, ho.trans S.os, hg ▸ S.bare, fun p hp => hg ▸ S.gens p hp, S.gnodup⟩

theorem St.new (S : St b s L G) {a : Addr} {o : Obj} {P : Cell} (hn : s.heap.get? a = none) (hk : ∀ a o, s.heap.get? a = some o → s'.heap.get? a = some o) (ha : s'.heap.get? a = some o) (hP : P o)
    (hg : s'.gens = s.gens := by rfl) (ho : s'.os = s.os := by rfl) : St b s' ((a, P) :: L) G := by
  have S' := S.keeps hk hg ho
  have hb : b.heap.get? a = none := by
    cases e : b.heap.get? a with
    | none => rfl
    | some o' => rw [S.keep _ _ e] at hn; cases hn
  refine ⟨S'.keep, fun p hp => ?_, ?_, S'.os, S'.bare, S'.gens, S'.gnodup⟩
  · rcases List.mem_cons.mp hp with rfl | hp
    · exact ⟨hb, o, ha, hP⟩
    · exact S'.own p hp
  · refine List.nodup_cons.mpr ⟨fun hm => ?_, S.nodup⟩
    obtain ⟨p, hp, rfl⟩ := List.mem_map.mp hm
    obtain ⟨_, o', e, _⟩ := S.own p hp
    rw [hn] at e; cases e

theorem heap_get_size (h : Heap) : h.get? h.objs.size = none := by
  cases e : h.get? h.objs.size with
  | none => rfl
  | some o => exact absurd (Heap.lt_size e) (Nat.lt_irrefl _)

theorem St.alloc (S : St b s L G) {o : Obj} {P : Cell} (hP : P o) (tk : Nat := s.toks) (hf : o.isFreed = false := by rfl) : St b { s with heap := s.heap.push o, toks := tk } ((s.heap.objs.size, P) :: L) G :=
  S.new (heap_get_size _) (fun _ _ e => Heap.get?_push_of_some _ e) (Heap.get?_push_size _ hf) hP

theorem St.sub (S : St b s L G) (h : L'.Sublist L) : St b s L' G :=
  ⟨S.keep, fun p hp => S.own p (h.subset hp), (h.map _).nodup S.nodup, S.os, S.bare, S.gens, S.gnodup⟩
theorem St.perm (S : St b s L G) (h : L'.Perm L) : St b s L' G :=
  ⟨S.keep, fun p hp => S.own p (h.subset hp), (h.map _).nodup_iff.mpr S.nodup, S.os, S.bare, S.gens, S.gnodup⟩
theorem St.gsub (S : St b s L G) (h : G'.Sublist G) : St b s L G' :=
  ⟨S.keep, S.own, S.nodup, S.os, S.bare, fun p hp => S.gens p (h.subset hp), (h.map _).nodup S.gnodup⟩

theorem St.set (S : St b s L G) {a : Addr} {P' : Cell} (u : Upd L a P' L') (ha : ∃ P, (a, P) ∈ L) {h' : Heap} (hs : Heap.ExtBut a s.heap h') {o : Obj} (hget : h'.get? a = some o) (hP : P' o) (tk : Nat := s.toks) :
    St b { s with heap := h', toks := tk } L' G := by
  obtain ⟨P, hm⟩ := ha
  have hb := (S.own _ hm).1
  refine ⟨fun c oc e => hs c oc (fun h => ?_) (S.keep c oc e), fun p hp => ?_, by rw [u.keys]; exact S.nodup, S.os, S.bare, S.gens, S.gnodup⟩
  · subst h; rw [hb] at e; cases e
  · rcases u.mem S.nodup p hp with rfl | ⟨h, hne⟩
    · exact ⟨hb, o, hget, hP⟩
    · obtain ⟨h1, op, e, hq⟩ := S.own p h
      exact ⟨h1, op, hs _ _ hne e, hq⟩


theorem St.weaken (S : St b s L G) {a : Addr} {P' : Cell} (u : Upd L a P' L') (hP : ∀ P o, (a, P) ∈ L → P o → P' o) : St b s L' G := by
  obtain ⟨P, hm⟩ := u.has
  obtain ⟨o, e, h⟩ := S.get hm
  exact S.set u ⟨P, hm⟩ (Heap.ExtBut.refl _ _) e (hP P o hm h)
end

/-! values, by what is known of them -/
abbrev VP := Value → Prop
def vE (v : Value) : VP := fun y => y = v
def vI (i : Int) : VP := fun y => ∃ t, y = .int i t
def vS (x : Str) : VP := fun y => ∃ t, y = .str x t

/-! a frame, by the names that are known in it -/
def frC (fl : List (Str × VP)) : Cell := fun o => ∃ es ep, o.data = .dict es ep ∧ StrKeys es ∧ ∀ p ∈ fl, ∃ v, nsFind es p.1 = some v ∧ p.2 v

theorem frC_ns {fl : List (Str × VP)} {h : Heap} {a : Addr} {o : Obj} (ho : h.get? a = some o) (hc : frC fl o) : ∃ m, h.Ns a m ∧ ∀ p ∈ fl, ∃ v, m p.1 = some v ∧ p.2 v :=
  let ⟨es, ep, hd, hk, hf⟩ := hc
  ⟨fun x => nsFind es x, ⟨o, es, ep, ho, hd, hk, fun _ => rfl⟩, hf⟩
theorem frC_of {fl : List (Str × VP)} {h : Heap} {a : Addr} {m : Str → Option Value} (hn : h.Ns a m) (hf : ∀ p ∈ fl, ∃ v, m p.1 = some v ∧ p.2 v) : ∃ o, h.get? a = some o ∧ frC fl o :=
  let ⟨o, es, ep, ho, hd, hk, hm⟩ := hn
  ⟨o, ho, es, ep, hd, hk, fun p hp => let ⟨v, e, hv⟩ := hf p hp; ⟨v, (hm _).trans e, hv⟩⟩

/-- a name stored -/
inductive SetN : List (Str × VP) → Str → VP → List (Str × VP) → Prop
  | nil {x P} : SetN [] x P [(x, P)]
  | hit {x P P' r} (h : (r.all fun p => !(p.1 == x)) = true) : SetN ((x, P) :: r) x P' ((x, P') :: r)
  | skip {y P x P' r r'} (h : (y == x) = false) : SetN r x P' r' → SetN ((y, P) :: r) x P' ((y, P) :: r')
theorem SetN.mem {fl fl' : List (Str × VP)} {x : Str} {P' : VP} (u : SetN fl x P' fl') : ∀ p ∈ fl', p = (x, P') ∨ (p ∈ fl ∧ p.1 ≠ x) := by
  induction u with
  | nil => intro p hp; exact .inl (List.mem_singleton.mp hp)
  | @hit x P P' r h =>
    intro p hp
    rcases List.mem_cons.mp hp with rfl | hp
    · exact .inl rfl
    · refine .inr ⟨.tail _ hp, fun e => ?_⟩
      have := List.all_eq_true.mp h p hp
      simp [e] at this
  | @skip y P₀ x P' r r' h u ih =>
    intro p hp
    rcases List.mem_cons.mp hp with rfl | hp
    · exact .inr ⟨.head _, by simpa using h⟩
    · rcases ih p hp with h | ⟨h, h'⟩
      · exact .inl h
      · exact .inr ⟨.tail _ h, h'⟩

section
variable {prog : Program} {w : World} {A : Around} {E : Value → Shared → Prop} {b s : Shared} {L L' : Ledger} {G : GLedger} {env : Env}

theorem r_load {x : Str} {fl : List (Str × VP)} {P : VP} {Q : Value → Shared → Prop} (S : St b s L G) (hf : (env.locals, frC fl) ∈ L) (hx : (x, P) ∈ fl) (h : ∀ v, P v → Q v s)
    (hk : env.scope.kind = .function := by kernel_rfl) (hl : env.kindOf x = some .local := by kernel_rfl) : wpAny (model prog w) A (loadName env x) Q E s := by
  obtain ⟨o, ho, hc⟩ := S.get hf
  obtain ⟨m, hn, hm⟩ := frC_ns ho hc
  obtain ⟨v, e, hv⟩ := hm _ hx
  exact wpAny_loadName_local hk hl hn e (h v hv)

theorem r_store {x : Str} {fl fl' : List (Str × VP)} {v : Value} {P : VP} {Q : Unit → Shared → Prop} (S : St b s L G) (hf : (env.locals, frC fl) ∈ L) (hv : P v) (hs : SetN fl x P fl') (hu : Upd L env.locals (frC fl') L')
    (h : ∀ s', St b s' L' G → Q () s') (hl : env.kindOf x = some .local := by kernel_rfl)
    (hp : (env.scope.kind == .class || (env.scope.kind == .module && env.locals != env.globals)) = false := by kernel_rfl) : wpAny (model prog w) A (storeName env x v) Q E s := by
  obtain ⟨o, ho, hc⟩ := S.get hf
  obtain ⟨m, hn, hm⟩ := frC_ns ho hc
  refine wpAny_storeName_local hl hn (fun h' hn' hsb => ?_) hp
  obtain ⟨o', ho', hc'⟩ := frC_of (fl := fl') hn' (fun p hp => by
    rcases hs.mem p hp with rfl | ⟨hp', hne⟩
    · exact ⟨v, by simp, hv⟩
    · obtain ⟨u, e, hu⟩ := hm p hp'
      exact ⟨u, by simp [hne, e], hu⟩)
  exact h _ (S.set hu ⟨_, hf⟩ hsb.extBut ho' hc' _)
end
end Mine

-- part Lg2
open PySem PySem.W PyProof.Rows PySem.Calls
set_option Elab.async false
set_option maxRecDepth 100000
namespace Mine

/-- what is known of the heap ahead of the call -/
structure Bs (b : Shared) (mg mb : Str → Option Value) (names : List Str) : Prop where
  g : b.heap.Ns mainGlobals mg
  bn : b.heap.Ns builtinsNs mb
  nolimit : b.heap.NoLimit
  builtins : ∀ x : Str, x ≠ "__name__" → mb x = bootBuiltins x
  free : ∀ x : Str, x ∉ names → mg x = none

/-- a def of the text's, at its place -/
structure FnAt (b : Shared) (mg : Str → Option Value) (f : Addr) (name : Str) (params : Arguments) (body : List Stmt) (scope : Scope) (cd : Value) : Prop where
  at_ : mg name = some (.ref f)
  obj : ∃ o pm doc, b.heap.get? f = some o ∧ o.data = .func (docDef name params body scope pm cd doc)
  code : b.heap.CodeRec cd name

abbrev lstObj (vs : Array Value) (n : Nat) : Obj := { cls := .type "list", data := .seq vs n }
abbrev tupObj (vs : Array Value) (n : Nat) : Obj := { cls := .type "tuple", data := .seq vs n }
def lstV (vs : List Value) : Cell := fun o => ∃ n, o = lstObj vs.toArray n
def tupV (vs : List Value) : Cell := fun o => ∃ n, o = tupObj vs.toArray n
def tupS (ys : List Str) : Cell := fun o => ∃ vs n, o = tupObj vs n ∧ StrsAre vs.toList ys
def lstS (ys : List Str) : Cell := fun o => ∃ vs n, o = lstObj vs n ∧ StrsAre vs.toList ys
theorem lst_push {vs : Array Value} {n : Nat} (f : Array Value → Array Value) : ∃ n', (lstObj vs n).mapSeq f = lstObj (f vs) n' := ⟨_, rfl⟩

section
variable {prog : Program} {w : World} {A : Around} {E : Value → Shared → Prop} {b s : Shared} {L L' : Ledger} {G : GLedger} {env : Env} {mg mb : Str → Option Value} {names : List Str}

theorem St.push (S : St b s L G) (o : Obj) (tk : Nat) : St b { s with heap := s.heap.push o, toks := tk } L G := S.keeps fun _ _ e => Heap.get?_push_of_some _ e
theorem St.toks (S : St b s L G) (tk : Nat) : St b { s with toks := tk } L G := S.keeps fun _ _ e => e
theorem St.tup (S : St b s L G) {a : Addr} {ys : List Str} (h : (a, tupS ys) ∈ L) : ∃ vs, IsTup s.heap a vs ∧ StrsAre vs.toList ys :=
  let ⟨_, e, vs, n, ho, hs⟩ := S.get h; ⟨vs, ⟨_, ho ▸ e, rfl, n, rfl⟩, hs⟩
theorem St.lst (S : St b s L G) {a : Addr} {ys : List Str} (h : (a, lstS ys) ∈ L) : ∃ vs, s.heap.IsList a vs ∧ StrsAre vs.toList ys :=
  let ⟨_, e, vs, n, ho, hs⟩ := S.get h; ⟨vs, ⟨_, ho ▸ e, rfl, n, rfl⟩, hs⟩
theorem St.lstv (S : St b s L G) {a : Addr} {vs : List Value} (h : (a, lstV vs) ∈ L) : s.heap.IsList a vs.toArray :=
  let ⟨_, e, n, ho⟩ := S.get h; ⟨_, ho ▸ e, rfl, n, rfl⟩

theorem r_name {x : Str} {pos : Pos} {fl : List (Str × VP)} {P : VP} {Q : Value → Shared → Prop} (S : St b s L G) (hf : (env.locals, frC fl) ∈ L) (hx : (x, P) ∈ fl) (h : ∀ v, P v → Q v s)
    (hk : env.scope.kind = .function := by kernel_rfl) (hl : env.kindOf x = some .local := by kernel_rfl) (hd : (x == ("__debug__" : Str)) = false := by decide) :
    wpAny (model prog w) A (eval (.Name x pos) env) Q E s := wpAny_Name (r_load S hf hx h hk hl) hd
theorem r_bname {x : Str} {pos : Pos} {v : Value} {Q : Value → Shared → Prop} (B : Bs b mg mb names) (S : St b s L G) (hv : bootBuiltins x = some v) (h : Q v s)
    (hfree : x ∉ names := by decide) (hn : x ≠ "__name__" := by decide) (hg : env.globals = mainGlobals := by kernel_rfl) (hb : env.builtins = builtinsNs := by kernel_rfl)
    (hk : env.scope.kind = .function := by kernel_rfl) (hx : env.kindOf x = some .globalImplicit := by kernel_rfl) (hd : (x == ("__debug__" : Str)) = false := by decide) :
    wpAny (model prog w) A (eval (.Name x pos) env) Q E s :=
  Name_function_global hk hx (loadGlobal_builtin (hg ▸ B.g.keeps S.keep) (B.free x hfree) (hb ▸ B.bn.keeps S.keep) ((B.builtins x hn).trans hv) h) hd
theorem r_gname {x : Str} {pos : Pos} {v : Value} {Q : Value → Shared → Prop} (B : Bs b mg mb names) (S : St b s L G) (hv : mg x = some v) (h : Q v s)
    (hg : env.globals = mainGlobals := by kernel_rfl) (hk : env.scope.kind = .function := by kernel_rfl) (hx : env.kindOf x = some .globalImplicit := by kernel_rfl) (hd : (x == ("__debug__" : Str)) = false := by decide) :
    wpAny (model prog w) A (eval (.Name x pos) env) Q E s :=
  Name_function_global hk hx (loadGlobal_global (hg ▸ B.g.keeps S.keep) hv h) hd

theorem r_int {i : Int} {k : Nat} {pos : Pos} {Q : Value → Shared → Prop} (S : St b s L G) (h : ∀ t s', St b s' L G → Q (.int i t) s') : wpAny (model prog w) A (eval (.Constant (.int i) k pos) env) Q E s :=
  wpAny_Constant_int (h _ _ (S.toks _))
theorem r_str {x : Str} {k : Nat} {pos : Pos} {Q : Value → Shared → Prop} (S : St b s L G) (h : ∀ t s', St b s' L G → Q (.str x t) s') : wpAny (model prog w) A (eval (.Constant (.str x) k pos) env) Q E s :=
  Constant_str (h _ _ (S.toks _))

theorem r_newList {vs : List Value} {P : Cell} {Q : Value → Shared → Prop} (S : St b s L G) (hP : P (lstObj vs.toArray 0)) (h : ∀ a s', St b s' ((a, P) :: L) G → Q (.ref a) s') (hz : vs.length ≤ sizeLine := by first | decide | size_fits) :
    wpAny (model prog w) A (newList vs) Q E s :=
  wpAny_newObj_type (h _ _ (S.alloc hP)) (by show vs.toArray.size ≤ sizeLine; rw [List.size_toArray]; exact hz)
theorem r_newTuple {vs : List Value} {P : Cell} {Q : Value → Shared → Prop} (S : St b s L G) (hP : P (tupObj vs.toArray 0)) (h : ∀ a s', St b s' ((a, P) :: L) G → Q (.ref a) s') (hz : vs.length ≤ sizeLine := by first | decide | size_fits) :
    wpAny (model prog w) A (newTuple vs) Q E s :=
  wpAny_newObj_type (h _ _ (S.alloc hP)) (by show vs.toArray.size ≤ sizeLine; rw [List.size_toArray]; exact hz)
theorem lstV_mk {vs : List Value} : lstV vs (lstObj vs.toArray 0) := ⟨0, rfl⟩
theorem lstS_mk {vs : List Value} {ys : List Str} (hs : StrsAre vs ys) : lstS ys (lstObj vs.toArray 0) := ⟨_, 0, rfl, by simpa using hs⟩
theorem tupS_mk {vs : List Value} {ys : List Str} (hs : StrsAre vs ys) : tupS ys (tupObj vs.toArray 0) := ⟨_, 0, rfl, by simpa using hs⟩
theorem tupV_mk {vs : List Value} : tupV vs (tupObj vs.toArray 0) := ⟨0, rfl⟩

theorem r_slice_ns {value : Expr} {p pos : Pos} {upper : Expr} {Q : Value → Shared → Prop}
    (h : wpAny (model prog w) A (eval value env) (fun o s₁ => ∃ x t, o = .str x t ∧ x.length ≤ sizeLine ∧ wpAny (model prog w) A (eval upper env) (fun u s₂ => ∃ j tj, u = .int j tj ∧
      ∃ L G, St b s₂ L G ∧ ∀ s' t', St b s' L G → Q (.str (Txt.slice x none (some j)) t') s') E s₁) E s)
    (ht : ∀ o r, letTemporaryGo value o r = pure () := by intro _ _; rfl) :
    wpAny (model prog w) A (eval (.Subscript value (.Slice none (some upper) none p) pos) env) Q E s := by
  refine wpAny_Subscript_str_slice (wpAny_mono h (fun o s₁ h₁ => ?_) fun _ _ x => x) ht
  obtain ⟨x, t, rfl, hx, h₁⟩ := h₁
  refine wpAny_evalPart_none (wpAny_evalPart_some (wpAny_mono h₁ (fun u s₂ h₂ => ?_) fun _ _ x => x))
  obtain ⟨j, tj, rfl, L, G, S, hQ⟩ := h₂
  refine ⟨x, t, none, some (j, tj), rfl, rfl, rfl, ?_⟩
  exact post_val_or_str ⟨Nat.le_trans (Txt.slice_le x none (some j)) hx, fun t' k => hQ _ t' (S.push _ k)⟩
theorem r_slice_sn {value : Expr} {p pos : Pos} {lower : Expr} {Q : Value → Shared → Prop}
    (h : wpAny (model prog w) A (eval value env) (fun o s₁ => ∃ x t, o = .str x t ∧ x.length ≤ sizeLine ∧ wpAny (model prog w) A (eval lower env) (fun u s₂ => ∃ j tj, u = .int j tj ∧
      ∃ L G, St b s₂ L G ∧ ∀ s' t', St b s' L G → Q (.str (Txt.slice x (some j) none) t') s') E s₁) E s)
    (ht : ∀ o r, letTemporaryGo value o r = pure () := by intro _ _; rfl) :
    wpAny (model prog w) A (eval (.Subscript value (.Slice (some lower) none none p) pos) env) Q E s := by
  refine wpAny_Subscript_str_slice (wpAny_mono h (fun o s₁ h₁ => ?_) fun _ _ x => x) ht
  obtain ⟨x, t, rfl, hx, h₁⟩ := h₁
  refine wpAny_evalPart_some (wpAny_mono h₁ (fun u s₂ h₂ => ?_) fun _ _ x => x)
  obtain ⟨j, tj, rfl, L, G, S, hQ⟩ := h₂
  refine wpAny_evalPart_none ?_
  refine ⟨x, t, some (j, tj), none, rfl, rfl, rfl, ?_⟩
  exact post_val_or_str ⟨Nat.le_trans (Txt.slice_le x (some j) none) hx, fun t' k => hQ _ t' (S.push _ k)⟩
end
end Mine

-- part RG
open PySem PySem.W PySem.W.X PyProof.Rows PySem.Calls
set_option Elab.async false
set_option maxRecDepth 100000
namespace Mine

/-! the text's own parts, by their places -/
def rDef : Stmt := match PySem.Challenge.pw_dm0050_02.main.body with | _ :: d :: _ => d | _ => .Pass default
def rBody : List Stmt := match rDef with | .FunctionDef _ _ b .. => b | _ => []
def rScope : Scope := match rDef with | .FunctionDef _ _ _ _ _ _ sc .. => sc | _ => default
def rParams : Arguments := match rDef with | .FunctionDef _ a .. => a | _ => default
def rForS : Stmt := match rBody with | [_, _, f] => f | _ => .Pass default
def rTarget : Expr := match rForS with | .For t .. => t | _ => default
def rLoop : List Stmt := match rForS with | .For _ _ b .. => b | _ => []
def rTest : Expr := match rLoop with | [.If t ..] => t | _ => default
def rYield : Expr := match rLoop with | [.If _ [.Expr (.Yield (some e) _) _] ..] => e | _ => default

abbrev rEnv (C f : Addr) (cd : Value) : Env := envOf "restore" rScope C f cd
abbrev FL (it : Value) (env : Env) : Code := .forLoop rTarget it rLoop [] env

section
variable {prog : Program} {w : World} {A : Around} {s : Shared} {P : End → Shared → Prop} {c : Code} {fs : List Frame}

theorem sx_wrap {α : Type} {m : Sem α} {K : α → Sem Fin} {H : Value → Sem Fin} {gd lv}
    (h : wpAny (model prog w) (A.over c fs) m (fun a s' => SegX (model prog w) A c (K a) fs s' P) (fun x s' => SegX (model prog w) A c (H x) fs s' P) s) :
    SegX (model prog w) A c (m.wrap K H gd lv) fs s P := by
  rintro Γ p rfl hΓ
  obtain ⟨e, s', hr, hq⟩ := runs_wrap_of_wp (Φ := fun e s' => e.quiet = true ∧ P e s') K H gd lv m (h (Γ.over fs) p (hΓ.over fs)) (fun a p' s' h' => h' Γ p' rfl hΓ) (fun x p' s' h' => h' Γ p' rfl hΓ)
  exact ⟨e, s', hr, hq⟩
theorem sx_at {q : Pos} {k : Unit → Sem Fin} (h : SegX (model prog w) A c (k ()) fs s P) : SegX (model prog w) A c (.at q k) fs s P :=
  s_skim prog w A c fs P s (.at q k) 1 h
theorem sx_point {l : List Value} {k : Unit → Sem Fin} (h : SegX (model prog w) A c (k ()) fs s P) : SegX (model prog w) A c (.point l k) fs s P :=
  s_skim prog w A c fs P s (.point l k) 1 h
theorem bind_wrap {α β γ : Type} (m : Sem α) (f : α → Sem β) (K : β → Sem γ) (H : Value → Sem γ) (gd lv) : (m >>= f).wrap K H gd lv = m.wrap (fun a => (f a).wrap K H gd lv) H gd lv := by
  rw [Sem.bind_eq_wrap', Sem.wrap_wrap]; rfl
end

/-- the frame of the def under its loop -/
def fsR (env : Env) (p : Pos) : List Frame :=
  [.ret (fun r => ((match r with | .ok f => (.pure f : Sem Flow) | .error e => .raise e).onRaise fun (x : Value) => do
        if (← field x 1) == Value.none then unsupported "frame.own-activation:exception-without-traceback"
        setFlight x env.frame).wrap (fun (f : Flow) => match f with | .next => (execs [] env).wrap (fun (f : Flow) => .pure (.done (.ret (match f with | .ret v => v | _ => .none)))) (fun e => (leaving env e).wrap (fun _ => .raise e) .raise id id) id id | f => .pure (.done (.ret (match f with | .ret v => v | _ => .none))))
          (fun e => (leaving env e).wrap (fun _ => .raise e) .raise id id) id id) none false [] (.func rBody env) p []]

def AtLoop (it : Value) (env : Env) (gs : GenState) : Prop :=
  ∃ k l p p', gs = .suspended k l (FL it env) p (fsR env p') false ∧ k (.send .none) = .pure (.again (FL it env))

section
variable {prog : Program} {w : World} {A : Around} {s : Shared} {P : End → Shared → Prop} {env : Env}

theorem sx_done {c : Code} {p : Pos} (h : P (.ret (.ok (.ret .none))) s) : SegX (model prog w) A c (leafOf (.ok .next)) (fsR env p) s P := by
  refine s_pop _ _ _ _ _ _ s (.ok .next) _ rfl _ _ _ _ _ _ _ ?_
  exact s_end _ _ _ _ _ s (.ok (.ret .none)) _ rfl h

def rRaise (env : Env) (x : Value) : Sem Fin := (do noteFrame x env; theTreesLotGoes x : Sem Unit).bind fun _ => .raise x

theorem rLoop_eq : ∃ a b c, rLoop = [.If rTest [.Expr (.Yield (some rYield) a) b] [] c] := ⟨_, _, _, rfl⟩

/-- one turn of the loop -/
theorem sx_turn {it : Value} {p : Pos}
    (h : wpAny (model prog w) (A.over (FL it env) (fsR env p)) (pyNext it) (fun r s₁ => match r with
      | none => P (.ret (.ok (.ret .none))) s₁
      | some v => wpAny (model prog w) (A.over (FL it env) (fsR env p)) (assign rTarget env v) (fun _ s₂ =>
          wpAny (model prog w) (A.over (FL it env) (fsR env p)) (isTrue rTest env (eval rTest env)) (fun b s₃ =>
            if b = true then wpAny (model prog w) (A.over (FL it env) (fsR env p)) (eval rYield env) (fun y s₄ =>
                ∀ e : End, AtLoop it env e.genState → e.genState.bare = true → e.result = .yielded y → P e s₄)
                (fun x s₄ => SegX (model prog w) A (FL it env) (rRaise env x) (fsR env p) s₄ P) s₃
            else SegX (model prog w) A (FL it env) (.pure (.again (FL it env))) (fsR env p) s₃ P)
            (fun x s₃ => SegX (model prog w) A (FL it env) (rRaise env x) (fsR env p) s₃ P) s₂)
            (fun x s₂ => SegX (model prog w) A (FL it env) (rRaise env x) (fsR env p) s₂ P) s₁)
      (fun x s₁ => SegX (model prog w) A (FL it env) (rRaise env x) (fsR env p) s₁ P) s)
    (hco : env.scope.isCoroutine = false := by rfl) (hi : interactive env = false := by rfl) :
    SegX (model prog w) A (FL it env) (denote table (FL it env)) (fsR env p) s P := by
  show SegX _ A _ ((forTurn rTarget it rLoop [] env).onRaise (fun x => do noteFrame x env; theTreesLotGoes x)) _ s P
  unfold forTurn
  rw [Sem.onRaise_eq_wrap, bind_wrap]
  refine sx_wrap (wpAny_standAt ?_)
  rw [bind_wrap]
  refine sx_wrap (wpAny_onRaise (wpAny_mono h (fun r s₁ h₁ => ?_) fun x s₁ hx => wpAny_standAt hx))
  cases r with
  | none =>
    refine s_again _ _ _ _ _ _ s₁ _ rfl ?_
    exact sx_done h₁
  | some v =>
    show SegX _ A _ (Sem.wrap _ _ _ _ (letOwnedTupleGo rTarget it v >>= fun _ => (assign rTarget env v >>= fun _ => execs rLoop env >>= _))) _ _ _
    rw [bind_wrap]
    refine sx_wrap (wpAny_of_eq (a := ()) rfl ?_)
    rw [bind_wrap]
    refine sx_wrap (wpAny_mono h₁ (fun _ s₂ h₂ => ?_) fun _ _ x => x)
    rw [bind_wrap]
    obtain ⟨ya, yb, yc, hloop⟩ := rLoop_eq
    have hx : execs rLoop env = execs [.If rTest [.Expr (.Yield (some rYield) ya) yb] [] yc] env := by rw [hloop]
    rw [hx, execs_cons_wrap]
    show SegX _ A _ (Sem.wrap _ _ _ _ (standAt yc >>= fun _ => (isTrue rTest env (eval rTest env) >>= fun b => if b = true then execs [.Expr (.Yield (some rYield) ya) yb] env else execs [] env))) _ _ _
    rw [bind_wrap]
    refine sx_wrap (wpAny_standAt ?_)
    rw [bind_wrap]
    refine sx_wrap (wpAny_mono h₂ (fun bb s₃ h₃ => ?_) fun _ _ x => x)
    cases bb with
    | false => rw [if_neg Bool.false_ne_true] at h₃; exact h₃
    | true =>
      rw [if_pos rfl] at h₃
      rw [if_pos rfl, execs_cons_wrap, exec_Expr env _ yb hi rfl]
      show SegX _ A _ (.at yb fun _ => ((eval rYield env >>= fun v => (standAt ya >>= fun _ => yieldOut env v)) >>= fun x => dropValue (.Yield (some rYield) ya) yb x).wrap _ _ _ _) _ _ _
      have hy : ∀ v, yieldOut env v = yieldValue v := fun v => by simp only [yieldOut, hco, Bool.false_eq_true, if_false]
      simp only [hy]
      refine sx_at ?_
      rw [bind_wrap, bind_wrap]
      refine sx_wrap (wpAny_mono h₃ (fun y s₄ h₄ => ?_) fun _ _ x => x)
      refine sx_at (s_yield _ _ _ _ _ _ _ _ _ _ rfl rfl fun q => h₄ _ ?_ rfl rfl)
      refine ⟨_, _, _, p, rfl, ?_⟩
      rfl
end
end Mine

-- part RG2
open PySem PySem.W PySem.W.X PyProof.Rows PySem.Calls
set_option Elab.async false
set_option maxRecDepth 100000
namespace Mine

section
variable {prog : Program} {w : World} {A : Around} {E : Value → Shared → Prop} {b s : Shared} {L L' : Ledger} {G : GLedger} {env : Env}

theorem rg_test {C f tp : Addr} {cd : Value} {fl : List (Str × VP)} {x tag : Str} {Q : Bool → Shared → Prop} {whole : Sem Value} (S : St b s L G) (hf : (C, frC fl) ∈ L) (hl : (("line" : Str), vS x) ∈ fl) (hp : (("prefixes" : Str), vE (.ref tp)) ∈ fl)
    (ht : (tp, tupS ["  ", tag]) ∈ L) (hx : x.length ≤ sizeLine)
    (h : ∀ s', St b s' L G → Q (([("  " : Str), tag] : List Str).any (· == Txt.slice x none (some 2))) s') : wpAny (model prog w) A (isTrue rTest (rEnv C f cd) whole) Q E s := by
  refine wpAny_isTrue_Compare1 (r_slice_ns (b := b) (r_name S hf hl fun v hv => ?_))
  obtain ⟨t, rfl⟩ := hv
  refine ⟨x, t, rfl, hx, wpAny_Constant_int ⟨2, _, rfl, L, G, S.toks _, fun s₁ t' S₁ => ?_⟩⟩
  refine r_name S₁ hf hp fun v hv => ?_
  cases hv
  obtain ⟨vs, htup, hs⟩ := S₁.tup ht
  exact in_tuple_strs htup hs (wpAny_truthy_bool (h _ S₁))

theorem rg_yield {C f : Addr} {cd : Value} {fl : List (Str × VP)} {x : Str} {Q : Value → Shared → Prop} (S : St b s L G) (hf : (C, frC fl) ∈ L) (hl : (("line" : Str), vS x) ∈ fl) (hx : x.length ≤ sizeLine)
    (h : ∀ s' t', St b s' L G → Q (.str (Txt.slice x (some 2) none) t') s') : wpAny (model prog w) A (eval rYield (rEnv C f cd)) Q E s := by
  refine r_slice_sn (b := b) (r_name S hf hl fun v hv => ?_)
  obtain ⟨t, rfl⟩ := hv
  exact ⟨x, t, rfl, hx, wpAny_Constant_int ⟨2, _, rfl, L, G, S.toks _, fun s₁ t' S₁ => h s₁ t' S₁⟩⟩
end
end Mine

-- part RG3
open PySem PySem.W PySem.W.X PyProof.Rows PySem.Calls
set_option Elab.async false
set_option maxRecDepth 100000
namespace Mine

def WakeOf (gs : GenState) (c : Code) (t : Sem Fin) (fs : List Frame) : Prop :=
  (gs = .fresh c ∧ t = denote table c ∧ fs = []) ∨ (∃ k l p cl, gs = .suspended k l c p fs cl ∧ t = k (.send .none))

section
variable {prog : Program} {w : World} {A : Around} {E : Value → Shared → Prop} {s : Shared}

theorem WakeOf.not {gs : GenState} {c : Code} {t : Sem Fin} {fs : List Frame} (h : WakeOf gs c t fs) : gs.status = .fresh ∨ gs.status = .suspended := by
  rcases h with ⟨rfl, _⟩ | ⟨_, _, _, _, rfl, _⟩
  · exact .inl rfl
  · exact .inr rfl

/-- a generator woken -/
theorem g_wake {a : Addr} {g : Nat} {gs : GenState} {Q : Fin → Shared → Prop} {c₀ : Code} {t₀ : Sem Fin} {fs₀ : List Frame} (hl : s.heap.NoLimit) (hroom : A.depth < recursionLimit) (hg : s.heap.IsGen a g) (hgs : s.gens[g]? = some gs)
    (hw : WakeOf gs c₀ t₀ fs₀)
    (hgo : SegX (model prog w) A c₀ t₀ fs₀ (s.setGen g .running) (fun e s₁ => match e.result with
      | .yielded v => Q (.done (.ret v)) (s₁.setGen g e.genState)
      | .returned v => v = .none ∧ wpAny (model prog w) A (newExc (.type "StopIteration") [] >>= fun x => (raiseNew x : Sem Unit)) (fun _ _ => False) E (s₁.setGen g e.genState)
      | .raised x => wpAny (model prog w) A (Builtin.Generator.genLeft (.ref a) x) Q E (s₁.setGen g e.genState)
      | _ => False)) :
    wpAny (model prog w) A (Builtin.Generator.genWake (.ref a) (.send .none)) Q E s := by
  unfold Builtin.Generator.genWake
  refine wpAny_bind (wpAny_holding (wpAny_genNumber hg (wpAny_bind (wpAny_genState hgs ?_))))
  have key : wpAny (model prog w) A (resume g (.send .none) >>= fun x => match x with
      | .yielded v => ret v
      | .returned v => do
        if v == .none then raiseNew (← newExc (.type "StopIteration") [])
        rule "generator.return-value"; throw (← newExc (.type "StopIteration") [v])
      | .raised e => Builtin.Generator.genLeft (.ref a) e
      | .running => do rule "generator.already-executing"; raiseError "ValueError" "generator already executing"
      | .justStarted => do rule "generator.send-to-fresh"; raiseError "TypeError" "can't send non-None value to a just-started generator"
      | .finished => do raiseNew (← newExc (.type "StopIteration") [])) Q E s := by
    show wpAny (model prog w) A (.resume g (.send .none) [] _) Q E s
    have hgs' : (gs = .fresh c₀ ∧ (Resume.send .none) = .send .none ∧ t₀ = denote table c₀ ∧ fs₀ = []) ∨ (∃ k₀ l₀ p₀ cl, gs = .suspended k₀ l₀ c₀ p₀ fs₀ cl ∧ t₀ = k₀ (.send .none)) := by
      rcases hw with ⟨h1, h2, h3⟩ | h
      · exact .inl ⟨h1, rfl, h2, h3⟩
      · exact .inr h
    refine fun Γ p hΓ => wake_any Fin prog w hgs hgs' (fun Γ => Γ.In A) (fun _ h => h) (hgo.mono fun e s₁ h Γ p hC => ?_) Γ p hΓ
    revert h
    cases e.result with
    | yielded v => intro h; exact h
    | returned v =>
      rintro ⟨rfl, h⟩
      have h := h Γ p hC
      show Sem.wp (model prog w) Γ (newExc (.type "StopIteration") [] >>= fun x => raiseNew x >>= fun _ => _) _ _ p _
      rw [Sem.wp_bind'] at h ⊢
      refine Sem.wp_mono _ Γ _ (fun x p' s' h' => ?_) (fun _ _ _ h' => h') _ _ h
      rw [Sem.wp_bind']
      exact Sem.wp_mono _ Γ _ (fun _ _ _ h'' => h''.elim) (fun _ _ _ h' => h') _ _ h'
    | raised x => intro h; exact h Γ p hC
    | running => intro h; exact h.elim
    | justStarted => intro h; exact h.elim
    | finished => intro h; exact h.elim
  rcases hw.not with e | e
  · rw [e]
    exact wpAny_bind (wpAny_roomToWake hl hroom key)
  · rw [e]
    exact wpAny_bind (wpAny_roomToWake hl hroom key)
end
end Mine

-- part RG4
open PySem PySem.W PySem.W.X PyProof.Rows PySem.Calls
set_option Elab.async false
set_option maxRecDepth 100000
namespace Mine

/-- is the row of this side -/
def keepS (tag x : Str) : Bool := ([("  " : Str), tag] : List Str).any (· == Txt.slice x none (some 2))
/-- the row without its two first signs -/
def cutS (x : Str) : Str := Txt.slice x (some 2) none
def genC (g : Nat) : Cell := fun o => ∃ nm qn, o.cls = .type "generator" ∧ o.data = .fields #[.int g 0, nm, qn] ∧ o.slots = #[]

theorem SetN.here {fl fl' : List (Str × VP)} {x : Str} {P : VP} (u : SetN fl x P fl') : (x, P) ∈ fl' := by
  induction u with
  | nil => exact .head _
  | hit => exact .head _
  | skip _ _ ih => exact .tail _ ih
theorem Upd.here {α β : Type} {L L' : List (α × β)} {a : α} {P' : β} (u : Upd L a P' L') : (a, P') ∈ L' := by
  induction u with
  | head => exact .head _
  | tail _ ih => exact .tail _ ih

section
variable {b s : Shared} {L L' : Ledger} {G G' : GLedger}
theorem St.isGen (S : St b s L G) {a : Addr} {g : Nat} (h : (a, genC g) ∈ L) : s.heap.IsGen a g :=
  let ⟨o, e, nm, qn, h1, h2, h3⟩ := S.get h; ⟨o, nm, qn, e, h1, h2, h3⟩
theorem St.setGen (S : St b s L G) {g : Nat} {P' : GenState → Prop} {gs : GenState} (u : Upd G g P' G') (hP : P' gs) (hb : gs.bare = true) : St b (s.setGen g gs) L G' := by
  obtain ⟨P, hm⟩ := u.has
  obtain ⟨gs₀, hg, _⟩ := S.gens _ hm
  refine ⟨S.keep, S.own, S.nodup, S.os, ?_, fun p hp => ?_, by rw [u.keys]; exact S.gnodup⟩
  · intro x hx
    have hx' : x ∈ s.gens.setIfInBounds g gs := hx
    rcases Array.mem_or_eq_of_mem_setIfInBounds hx' with h | h
    · exact S.bare _ h
    · rw [h]; exact hb
  · rcases u.mem S.gnodup p hp with rfl | ⟨h, hne⟩
    · refine ⟨gs, ?_, hP⟩
      have hlt : g < s.gens.size := (Array.getElem?_eq_some_iff.mp hg).1
      simp [Shared.setGen, Array.getElem?_setIfInBounds, hlt]
    · obtain ⟨gs', e, hq⟩ := S.gens p h
      exact ⟨gs', by simp [Shared.setGen, Array.getElem?_setIfInBounds, Ne.symm hne, e], hq⟩
end

section
variable {prog : Program} {w : World} {A : Around} {b s : Shared}

/-- the reader's loop, over whatever source -/
theorem rg_loop {it : Value} {C f tp : Addr} {cd : Value} {p : Pos} {tag : Str} (J : Nat → Shared → Prop) {Pend : Shared → Prop} {Py : Value → Shared → Prop}
    (hnx : ∀ n s, J n s → wpAny (model prog w) (A.over (FL it (rEnv C f cd)) (fsR (rEnv C f cd) p)) (pyNext it) (fun r s₁ => match r with
      | none => Pend s₁
      | some v => ∃ x, vS x v ∧ x.length ≤ sizeLine ∧ ∃ L G fl fl' L', St b s₁ L G ∧ (C, frC fl) ∈ L ∧ SetN fl ("line" : Str) (vS x) fl' ∧ Upd L C (frC fl') L' ∧ (("prefixes" : Str), vE (.ref tp)) ∈ fl' ∧ (tp, tupS ["  ", tag]) ∈ L' ∧
          ∀ s₂, St b s₂ L' G → if keepS tag x = true then ∀ t' s₃, St b s₃ L' G → Py (.str (cutS x) t') s₃ else ∃ m, m < n ∧ J m s₂) (fun _ _ => False) s) :
    ∀ n s, J n s → SegX (model prog w) A (FL it (rEnv C f cd)) (denote table (FL it (rEnv C f cd))) (fsR (rEnv C f cd) p) s (fun e s₁ => match e.result with
      | .yielded v => AtLoop it (rEnv C f cd) e.genState ∧ e.genState.bare = true ∧ Py v s₁
      | .returned v => v = .none ∧ e.genState = .finished ∧ Pend s₁
      | _ => False) := by
  intro n
  induction n using Nat.strongRecOn with
  | ind n ih =>
    intro s hj
    refine sx_turn (wpAny_mono (hnx n s hj) (fun r s₁ h₁ => ?_) fun _ _ x => x.elim)
    cases r with
    | none => exact ⟨rfl, rfl, h₁⟩
    | some v =>
      obtain ⟨x, hv, hx, L, G, fl, fl', L', S, hC, hs, hu, hp, ht, h₂⟩ := h₁
      refine wpAny_assign_Name (r_store S hC hv hs hu fun s₂ S₂ => ?_)
      refine rg_test S₂ hu.here hs.here hp ht hx fun s₃ S₃ => ?_
      have h₃ := h₂ s₃ S₃
      cases hk : keepS tag x with
      | true =>
        rw [hk, if_pos rfl] at h₃
        rw [if_pos (show ([("  " : Str), tag] : List Str).any (· == Txt.slice x none (some 2)) = true from hk)]
        refine rg_yield S₃ hu.here hs.here hx fun s₄ t' S₄ e ha hb hr => ?_
        rw [hr]
        exact ⟨ha, hb, h₃ t' s₄ S₄⟩
      | false =>
        rw [hk, if_neg Bool.false_ne_true] at h₃
        rw [if_neg (by rw [show ([("  " : Str), tag] : List Str).any (· == Txt.slice x none (some 2)) = false from hk]; exact Bool.false_ne_true)]
        obtain ⟨m, hm, hj'⟩ := h₃
        exact s_again _ _ _ _ _ _ _ _ rfl (ih m hm s₃ hj')
end
end Mine

-- part RG5
open PySem PySem.W PySem.W.X PyProof.Rows PySem.Calls
set_option Elab.async false
set_option maxRecDepth 100000
namespace Mine

section
variable {prog : Program} {w : World} {A : Around} {E : Value → Shared → Prop} {s : Shared}

/-- a new StopIteration, raised where nothing is handled -/
theorem w_stop {α : Type} {Q : α → Shared → Prop} (hh : A.handled = none)
    (h : ∀ e h', ({ s with heap := h' } : Shared).TypeIs (.ref e) "StopIteration" → (∀ b o, s.heap.get? b = some o → h'.get? b = some o) → E (.ref e) { s with heap := h' }) :
    wpAny (model prog w) A (newExc (.type "StopIteration") [] >>= fun x => (raiseNew x : Sem α)) Q E s := by
  refine wpAny_bind ?_
  simp only [newExc, newTuple]
  refine wpAny_bind (wpAny_newObj_type ?_ (by size_fits))
  refine wpAny_bind (m := firstArgMember _ _) (wpAny_of_eq (a := Value.none) (by first | rfl | (simp only [firstArgMember]; rfl)) ?_)
  refine wpAny_newObj_type ?_ (by size_fits)
  simp only [raiseNew]
  refine wpAny_bind (wpAny_handled ?_)
  rw [hh]
  refine wpAny_bind (wpAny_pure (wpAny_throw ?_))
  exact h _ _ ⟨_, Heap.get?_push_size _ rfl, rfl⟩ fun b o hb => Heap.get?_push_of_some _ (Heap.get?_push_of_some _ hb)

/-- the next item of a generator -/
theorem r_pyNext_gen {a : Addr} {g : Nat} {gs : GenState} {Q : Option Value → Shared → Prop} {c₀ : Code} {t₀ : Sem Fin} {fs₀ : List Frame} (hh : A.handled = none) (hl : s.heap.NoLimit) (hroom : A.depth < recursionLimit)
    (hg : s.heap.IsGen a g) (hgs : s.gens[g]? = some gs) (hw : WakeOf gs c₀ t₀ fs₀)
    (hgo : SegX (model prog w) A.in1 c₀ t₀ fs₀ (s.setGen g .running) (fun e s₁ => match e.result with
      | .yielded v => Q (some v) (s₁.setGen g e.genState)
      | .returned v => v = .none ∧ ∀ h', (∀ b o, s₁.heap.get? b = some o → h'.get? b = some o) → Q none { s₁.setGen g e.genState with heap := h' }
      | .raised x => ∃ T : String, s₁.TypeIs x T ∧ isSubtype (.type T) (.type "StopIteration") = pure false ∧ s₁.heap.IsGen a g ∧ E x (s₁.setGen g e.genState)
      | _ => False)) :
    wpAny (model prog w) A (pyNext (.ref a)) Q E s := by
  unfold pyNext
  refine wpAny_bind (wpAny_attempt (wpAny_callSpecial?_slot (name := Str.ofString "__next__") hg.typeIs slot_gen_next
    (wpAny_call_entry slot_gen_next hg.typeIs entry_gen_next ?_ (args_gen_next _))))
  show wpAny _ A.in1 (Builtin.Generator.genWake (.ref a) (.send .none)) _ _ s
  refine g_wake hl hroom hg hgs hw (hgo.mono fun e s₁ h => ?_)
  revert h
  cases e.result with
  | yielded v => intro h; exact ⟨_, rfl, wpAny_pure h⟩
  | returned v =>
    rintro ⟨rfl, h⟩
    refine ⟨rfl, w_stop hh fun x h' hT hk => ?_⟩
    refine wpAny_bind (wpAny_isInstance (T := "StopIteration") (b := true) hT isSubtype_stop ?_)
    exact wpAny_pure (h h' hk)
  | raised x =>
    rintro ⟨T, hT, hs, hg', h⟩
    obtain ⟨o, nm, qn, ho, hc, hd, hsl⟩ := hg'
    show wpAny _ A.in1 (Builtin.Generator.genLeft (.ref a) x) _ _ _
    unfold Builtin.Generator.genLeft Builtin.Generator.madeByALambda
    refine wpAny_bind (wpAny_bind (wpAny_load (o := o) ho ?_))
    rw [hc, hd]
    have hT' : (s₁.setGen g e.genState).TypeIs x T := hT
    refine wpAny_pure (wpAny_bind (wpAny_isInstance (T := T) (b := false) hT' hs ?_))
    rw [if_neg (by rw [Bool.and_false]; exact Bool.false_ne_true)]
    show wpAny _ A.in1 (Builtin.Generator.genEscaped x) _ _ _
    unfold Builtin.Generator.genEscaped
    refine wpAny_bind (wpAny_isInstance (T := T) (b := false) hT' hs ?_)
    refine wpAny_throw ?_
    refine wpAny_bind (wpAny_isInstance (T := T) (b := false) hT' hs ?_)
    exact wpAny_throw h
  | running => intro h; exact h.elim
  | justStarted => intro h; exact h.elim
  | finished => intro h; exact h.elim

/-- a generator that has ended has no next item -/
theorem r_pyNext_fin {a : Addr} {g : Nat} {Q : Option Value → Shared → Prop} (hh : A.handled = none) (hg : s.heap.IsGen a g) (hgs : s.gens[g]? = some .finished)
    (h : ∀ h', (∀ b o, s.heap.get? b = some o → h'.get? b = some o) → Q none { s with heap := h' }) :
    wpAny (model prog w) A (pyNext (.ref a)) Q E s := by
  unfold pyNext
  refine wpAny_bind (wpAny_attempt (wpAny_callSpecial?_slot (name := Str.ofString "__next__") hg.typeIs slot_gen_next
    (wpAny_call_entry slot_gen_next hg.typeIs entry_gen_next ?_ (args_gen_next _))))
  show wpAny _ A.in1 (Builtin.Generator.genWake (.ref a) (.send .none)) _ _ s
  unfold Builtin.Generator.genWake
  refine wpAny_bind (wpAny_holding (wpAny_genNumber hg (wpAny_bind (wpAny_genState hgs ?_))))
  show wpAny _ A.in1 (resume g (.send .none) >>= _) _ _ s
  refine wpAny_bind ?_
  intro Γ p hΓ
  show Sem.wp _ Γ (.resume g (.send .none) [] .pure) _ _ p s
  rw [Sem.wp_resume]
  refine ⟨.finished, s, by unfold Wakes; rw [hgs]; exact ⟨rfl, rfl⟩, ?_⟩
  show wpAny (model prog w) A.in1 (newExc (.type "StopIteration") [] >>= fun x => (raiseNew x)) _ _ s
  refine w_stop hh fun x h' hT hk => ?_
  refine wpAny_bind (wpAny_isInstance (T := "StopIteration") (b := true) hT isSubtype_stop ?_)
  exact wpAny_pure (h h' hk)
end
end Mine

-- part RG6
open PySem PySem.W PySem.W.X PyProof.Rows PySem.Calls
set_option Elab.async false
set_option maxRecDepth 100000
namespace Mine

def IsFresh (env : Env) (gs : GenState) : Prop := gs = .fresh (.func rBody env)

section
variable {b s : Shared} {L L' : Ledger} {G G' : GLedger}
theorem St.newGen (S : St b s L G) {gs : GenState} {P : GenState → Prop} (hP : P gs) (hb : gs.bare = true) : St b { s with gens := s.gens.push gs } L ((s.gens.size, P) :: G) := by
  refine ⟨S.keep, S.own, S.nodup, S.os, ?_, fun p hp => ?_, ?_⟩
  · intro x hx
    rcases Array.mem_push.mp hx with h | rfl
    · exact S.bare _ h
    · exact hb
  · rcases List.mem_cons.mp hp with rfl | hp
    · exact ⟨gs, by simp, hP⟩
    · obtain ⟨g', e, h⟩ := S.gens p hp
      have : p.1 < s.gens.size := (Array.getElem?_eq_some_iff.mp e).1
      exact ⟨g', by show (s.gens.push gs)[p.1]? = _; rw [Array.getElem?_push]; simp [Nat.ne_of_lt this, e], h⟩
  · refine List.nodup_cons.mpr ⟨fun hm => ?_, S.gnodup⟩
    obtain ⟨p, hp, e⟩ := List.mem_map.mp hm
    obtain ⟨g', e', _⟩ := S.gens p hp
    have : p.1 < s.gens.size := (Array.getElem?_eq_some_iff.mp e').1
    rw [e] at this
    exact Nat.lt_irrefl _ this
end

section
variable {prog : Program} {w : World} {A : Around} {E : Value → Shared → Prop} {b s : Shared} {L L' : Ledger} {G : GLedger} {mg mb : Str → Option Value} {names : List Str}

theorem r_restore {f : Addr} {cd v1 v2 : Value} {Q : Value → Shared → Prop} (B : Bs b mg mb names) (F : FnAt b mg f "restore" rParams rBody rScope cd) (S : St b s L G) (hroom : A.depth < recursionLimit)
    (h : ∀ a C g s', St b s' ((a, genC g) :: (C, frC [(("delta" : Str), vE v1), (("which" : Str), vE v2)]) :: L) ((g, IsFresh (rEnv C f cd)) :: G) → Q (.ref a) s') :
    wpAny (model prog w) A (call (.ref f) [v1, v2]) Q E s := by
  obtain ⟨o, pm, doc, ho, hd⟩ := F.obj
  refine wpAny_call (codeAny_call_generator hroom (S.keep _ _ ho) hd rfl rfl rfl (F.code.keeps S.keep) ?_)
  refine wpAny_of_eq (a := [(("delta" : Str), v1), (("which" : Str), v2)]) rfl ?_
  refine wpAny_newFunctionEnv (scope := rScope) (binds := [(("delta" : Str), v1), (("which" : Str), v2)]) (by decide) (locs rfl) (fun h' hn hsb => ?_) rfl
  have hlim : h'.NoLimit := (B.nolimit.keeps S.keep).fresh _ hsb
  refine ⟨hlim, ?_⟩
  have hk : ∀ a o, s.heap.get? a = some o → h'.get? a = some o := fun a o e => hsb.extBut a o (Nat.ne_of_lt (Heap.lt_size e)) (Heap.get?_push_of_some _ e)
  obtain ⟨oC, hoC, hcC⟩ := frC_of (fl := [(("delta" : Str), vE v1), (("which" : Str), vE v2)]) hn (fun p hp => by
    rcases List.mem_cons.mp hp with rfl | hp
    · exact ⟨v1, rfl, rfl⟩
    · cases List.mem_singleton.mp hp
      exact ⟨v2, rfl, rfl⟩)
  have S1 : St b { s with heap := h', toks := s.toks + 2 } ((s.heap.objs.size, frC [(("delta" : Str), vE v1), (("which" : Str), vE v2)]) :: L) G := S.new (heap_get_size _) hk hoC hcC
  have S2 := S1.newGen (gs := .fresh (.func rBody (rEnv s.heap.objs.size f cd))) (P := IsFresh (rEnv s.heap.objs.size f cd)) rfl rfl
  have S3 := S2.alloc (o := { cls := .type "generator", data := .fields #[.int s.gens.size 0, .str "restore" (s.toks + 2), .str "restore" (s.toks + 2 + 1)] }) (P := genC s.gens.size) ⟨_, _, rfl, rfl, rfl⟩ (s.toks + 2 + 1 + 1)
  exact h _ _ _ _ S3
end
end Mine

-- part RG7
open PySem PySem.W PySem.W.X PyProof.Rows PySem.Calls
set_option Elab.async false
set_option maxRecDepth 100000
namespace Mine

def rTry : Stmt := match rBody with | t :: _ => t | _ => .Pass default
def rAsg : Stmt := match rBody with | _ :: t :: _ => t | _ => .Pass default
def rIter : Expr := match rForS with | .For _ i .. => i | _ => default
theorem rBody_eq : rBody = [rTry, rAsg, rForS] := rfl
theorem rForS_eq : ∃ p, rForS = .For rTarget rIter rLoop [] p := ⟨_, rfl⟩

def rLeave (env : Env) (x : Value) : Sem Fin := (leaving env x).wrap (fun _ => .raise x) .raise id id

section
variable {prog : Program} {w : World} {A : Around} {s : Shared} {P : End → Shared → Prop} {env : Env}

theorem sx_func {body : List Stmt}
    (h : SegX (model prog w) A (.func body env) ((execs body env).wrap (fun f => .pure (.done (.ret (match f with | .ret v => v | _ => .none)))) (fun e => rLeave env e) id id) [] s P) :
    SegX (model prog w) A (.func body env) (denote table (.func body env)) [] s P := by
  show SegX _ A _ (.point [] fun _ => ((execs body env).onRaise (leaving env)) >>= _) [] s P
  refine sx_point ?_
  rw [Sem.onRaise_eq_wrap, Sem.bind_eq_wrap', Sem.wrap_wrap]
  rw [Sem.wrap_congr (execs body env) _ _ (K' := fun f => .pure (.done (.ret (match f with | .ret v => v | _ => .none))))
    (H' := fun e => (leaving env e).wrap (fun _ => .raise e) .raise id id) (fun f => by cases f <;> rfl)
    (fun e => by rw [Sem.bind_eq_wrap, Sem.wrap_wrap]; rfl)]
  exact h

/-- the reader's first turn -/
theorem sx_start
    (h : wpAny (model prog w) (A.over (.func rBody env) []) (exec rTry env) (fun f s₁ => f = .next ∧
        wpAny (model prog w) (A.over (.func rBody env) []) (exec rAsg env) (fun f s₂ => f = .next ∧
          wpAny (model prog w) (A.over (.func rBody env) []) (eval rIter env) (fun x s₃ =>
            wpAny (model prog w) (A.over (.func rBody env) []) (pyIter x) (fun it' s₄ => ∀ p, SegX (model prog w) A (FL it' env) (denote table (FL it' env)) (fsR env p) s₄ P)
              (fun _ _ => False) s₃) (fun _ _ => False) s₂) (fun _ _ => False) s₁)
        (fun x s₁ => SegX (model prog w) A (.func rBody env) (rLeave env x) [] s₁ P) s)
    (hs : ∀ x, foldedSetIterable rIter env x = pure x := by intro _; rfl) :
    SegX (model prog w) A (.func rBody env) (denote table (.func rBody env)) [] s P := by
  refine sx_func ?_
  have hb : execs rBody env = execs [rTry, rAsg, rForS] env := congrArg (fun l => execs l env) rBody_eq
  rw [hb]
  have e1 : ∀ rest (K : Flow → Sem Fin) (H : Value → Sem Fin) gd lv, (execs (rTry :: rest) env).wrap K H gd lv = (exec rTry env).wrap (fun f => match f with | .next => (execs rest env).wrap K H gd lv | f => K f) H gd lv := fun rest K H gd lv => execs_cons_wrap rTry rest
  have e2 : ∀ rest (K : Flow → Sem Fin) (H : Value → Sem Fin) gd lv, (execs (rAsg :: rest) env).wrap K H gd lv = (exec rAsg env).wrap (fun f => match f with | .next => (execs rest env).wrap K H gd lv | f => K f) H gd lv := fun rest K H gd lv => execs_cons_wrap rAsg rest
  rw [e1]
  clear e1
  generalize exec rTry env = T1 at h ⊢
  generalize exec rAsg env = T2 at h e2
  refine sx_wrap (wpAny_mono h (fun f s₁ h₁ => ?_) fun _ _ x => x)
  obtain ⟨rfl, h₁⟩ := h₁
  show SegX _ A _ (Sem.wrap _ _ _ _ (execs [rAsg, rForS] env)) _ _ _
  rw [e2]
  refine sx_wrap (wpAny_mono h₁ (fun f s₂ h₂ => ?_) fun _ _ x => x.elim)
  obtain ⟨rfl, h₂⟩ := h₂
  show SegX _ A _ (Sem.wrap _ _ _ _ (execs [rForS] env)) _ _ _
  rw [execs_cons_wrap]
  obtain ⟨fp, hF⟩ := rForS_eq
  have hx : exec rForS env = (do
    standAt fp
    let x ← foldedSetIterable rIter env (← eval rIter env)
    standAt rIter.pos
    runOwn (.forLoop rTarget (← holding [x] (pyIter x)) rLoop [] env) env) := by rw [hF]; exact exec_For ..
  rw [hx, bind_wrap]
  refine sx_wrap (wpAny_standAt ?_)
  rw [bind_wrap]
  refine sx_wrap (wpAny_mono h₂ (fun x s₃ h₃ => ?_) fun _ _ x => x.elim)
  rw [bind_wrap]
  refine sx_wrap (wpAny_of_eq (hs x) ?_)
  rw [bind_wrap]
  refine sx_wrap (wpAny_standAt ?_)
  rw [bind_wrap]
  refine sx_wrap (wpAny_holding (wpAny_mono h₃ (fun it' s₄ h₄ => ?_) fun _ _ x => x.elim))
  exact s_call _ _ _ _ _ _ _ _ _ _ _ _ h₄
end
end Mine

-- part RG8
open PySem PySem.W PySem.W.X PyProof.Rows PySem.Calls
set_option Elab.async false
set_option maxRecDepth 100000
set_option maxHeartbeats 200000
namespace Mine

/-- int(v) is n, and nothing else happens -/
def IntTo (prog : Program) (w : World) (b : Shared) (v : Value) (n : Int) : Prop :=
  ∀ (A : Around) (E : Value → Shared → Prop) (s : Shared) (L : Ledger) (G : GLedger) (Q : Value → Shared → Prop), A.handled = none → St b s L G → (∀ t s', St b s' L G → Q (.int n t) s') → wpAny (model prog w) A (call (.type "int") [v]) Q E s

theorem intTo_int {prog : Program} {w : World} {b : Shared} {n : Int} {t : Tok} : IntTo prog w b (.int n t) n := fun _ _ _ _ _ _ _ S h => call_int_int (h _ _ S)

def tagOf (n : Int) : Str := if n = 1 then "- " else "+ "

theorem rTry_eq : ∃ p1 p2 p3 p4 p5 p6 p7 p8 p9 p10 p11 p12 h, rTry = .Try [.Assign [.Name "tag" p1] (.Subscript (.Dict [some (.Constant (.int 1) 0 p2), some (.Constant (.int 2) 0 p3)] [.Constant (.str "- ") 0 p4, .Constant (.str "+ ") 0 p5] p6) (.Call (.Name "int" p7) [.Name "which" p8] [] p9) p10) p11] [h] [] [] p12 :=
  ⟨_, _, _, _, _, _, _, _, _, _, _, _, _, rfl⟩
theorem boot_int : bootBuiltins "int" = some (.type "int") := by decide +kernel

section
variable {prog : Program} {w : World} {A : Around} {E : Value → Shared → Prop} {b s : Shared} {L L' : Ledger} {G : GLedger} {mg mb : Str → Option Value} {names : List Str}

theorem rg_dict {env : Env} {Q : Value → Shared → Prop} {k1 k2 k3 k4 : Nat} {p1 p2 p3 p4 p : Pos} (B : Bs b mg mb names) (S : St b s L G)
    (h : ∀ d s', St b s' ((d, fun o => ∃ t1 t2 : Tok, ∀ h : Heap, h.get? d = some o → h.DictOf (intKind prog w) d [(1, .str "- " t1), (2, .str "+ " t2)]) :: L) G → (d == sysModules) = false → Q (.ref d) s') :
    wpAny (model prog w) A (eval (.Dict [some (.Constant (.int 1) k1 p1), some (.Constant (.int 2) k2 p2)] [.Constant (.str "- ") k3 p3, .Constant (.str "+ ") k4 p4] p) env) Q E s := by
  refine wpAny_Dict_walk (knd := intKind prog w) rfl rfl (by simp) (Nat.le_of_ble_eq_true rfl) ?_
  with_reducible refine pairTrees_cons_walk ?_
  with_reducible refine wpAny_Constant_int ?_
  with_reducible refine Constant_str ?_
  with_reducible refine pairTrees_cons_walk ?_
  with_reducible refine wpAny_Constant_int ?_
  with_reducible refine Constant_str ?_
  with_reducible refine pairTrees_nil_walk ?_
  refine display_done_int rfl (by simp [intKeyPairs]) (Heap.DictOf.new _) fun h' hd hs => ?_
  obtain ⟨o, es, ep, ho, hr⟩ := id hd
  refine h _ _ (S.new (heap_get_size _) (fun a o e => ?_) ho ⟨_, _, fun h₂ e => ⟨o, es, ep, e, hr⟩⟩) ?_
  · exact hs.extBut a o (Nat.ne_of_lt (Heap.lt_size e)) (Heap.get?_push_of_some _ e)
  · have hlt : cStatics < s.heap.objs.size := let ⟨_, hn, _⟩ := B.nolimit.keeps S.keep; hn.lt
    have : s.heap.objs.size ≠ 1 := by
      have : (2 : Nat) < s.heap.objs.size := hlt
      omega
    exact beq_eq_false_iff_ne.mpr this

theorem rg_try {C f : Addr} {cd v2 : Value} {n : Int} {fl fl' : List (Str × VP)} {Q : Flow → Shared → Prop} (B : Bs b mg mb names) (hn : n = 1 ∨ n = 2) (hI : IntTo prog w b v2 n) (hh : A.handled = none)
    (S : St b s L G) (hC : (C, frC fl) ∈ L) (hw : (("which" : Str), vE v2) ∈ fl) (hs : SetN fl ("tag" : Str) (vS (tagOf n)) fl') (hu : Upd L C (frC fl') L') (h : ∀ s', St b s' L' G → Q .next s')
    (hfree : ("int" : Str) ∉ names) :
    wpAny (model prog w) A (exec rTry (rEnv C f cd)) Q E s := by
  obtain ⟨p1, p2, p3, p4, p5, p6, p7, p8, p9, p10, p11, p12, hdl, e⟩ := rTry_eq
  rw [e]
  refine wpAny_Try_except ?_
  refine wpAny_execs_cons ?_
  refine wpAny_Assign_Name ?_
  refine Subscript_ ?_
  with_reducible refine rg_dict B S ?_
  intro d s₁ S₁ hds
  refine Call_ (r_bname B S₁ boot_int ?_ hfree)
  refine callWith_type1 (args_cons (r_name S₁ (.tail _ hC) hw fun v hv => args_nil ?_))
  cases hv
  refine hI A _ _ _ G _ hh S₁ fun t s₂ S₂ => ?_
  obtain ⟨o, ho, t1, t2, hd⟩ := S₂.get (.head _)
  have hm := (hd _ ho).mapOf
  have hv : valueAt [((1 : Int), Value.str "- " t1), (2, Value.str "+ " t2)] n = some (.str (tagOf n) (if n = 1 then t1 else t2)) := by
    rcases hn with rfl | rfl <;> rfl
  refine tail_any hm.typeIs slot_dict_getitem.lookup (wpAny_getItem_of (by simp [intKind, Value.isInt]) hm hv ?_) rfl
  refine r_store (S₂.toks _) (.tail _ hC) ⟨_, rfl⟩ hs (.tail hu) fun s₃ S₃ => ?_
  exact wpAny_execs_nil (wpAny_execs_nil (h _ (S₃.sub (.cons _ (.refl _)))))
end
end Mine

-- part RG9
open PySem PySem.W PySem.W.X PyProof.Rows PySem.Calls
set_option Elab.async false
set_option maxRecDepth 100000
set_option maxHeartbeats 1000000
namespace Mine

theorem rAsg_eq : ∃ p1 p2 p3 p4 p5, rAsg = .Assign [.Name "prefixes" p1] (.Tuple [.Constant (.str "  ") 0 p2, .Name "tag" p3] 0 p4) p5 := ⟨_, _, _, _, _, rfl⟩
theorem rIter_eq : ∃ p, rIter = .Name "delta" p := ⟨_, rfl⟩

abbrev fl0 (v1 v2 : Value) : List (Str × VP) := [(("delta" : Str), vE v1), (("which" : Str), vE v2)]
abbrev fl1 (v1 v2 : Value) (n : Int) : List (Str × VP) := [(("delta" : Str), vE v1), (("which" : Str), vE v2), (("tag" : Str), vS (tagOf n))]
abbrev fl2 (v1 v2 : Value) (n : Int) (tp : Addr) : List (Str × VP) := [(("delta" : Str), vE v1), (("which" : Str), vE v2), (("tag" : Str), vS (tagOf n)), (("prefixes" : Str), vE (.ref tp))]

/-- a cell of the ledger set, whatever the others are -/
def setL {α β : Type} [DecidableEq α] (a : α) (P : β) : List (α × β) → List (α × β)
  | [] => []
  | e :: r => if e.1 = a then (a, P) :: r else e :: setL a P r
theorem setL_upd {α β : Type} [DecidableEq α] {a : α} {P : β} : ∀ {L : List (α × β)}, (∃ P₀, (a, P₀) ∈ L) → Upd L a P (setL a P L)
  | [], ⟨_, h⟩ => nomatch h
  | (c, P₁) :: r, ⟨P₀, h⟩ => by
    unfold setL
    by_cases e : c = a
    · subst e
      rw [if_pos rfl]
      exact .head
    · rw [if_neg e]
      refine .tail (setL_upd ⟨P₀, ?_⟩)
      rcases List.mem_cons.mp h with h | h
      · cases h; exact absurd rfl e
      · exact h
theorem setL_setL {α β : Type} [DecidableEq α] {a : α} {P P' : β} : ∀ {L : List (α × β)}, setL a P' (setL a P L) = setL a P' L
  | [] => rfl
  | (c, P₁) :: r => by
    by_cases e : c = a
    · simp [setL, e]
    · simp [setL, e, setL_setL]

section
variable {prog : Program} {w : World} {A : Around} {E : Value → Shared → Prop} {b s : Shared} {L L' : Ledger} {G : GLedger} {mg mb : Str → Option Value} {names : List Str}

theorem rg_asg {C f : Addr} {cd v1 v2 : Value} {n : Int} {Q : Flow → Shared → Prop} (S : St b s L G) (hC : (C, frC (fl1 v1 v2 n)) ∈ L)
    (h : ∀ tp s', St b s' ((tp, tupS ["  ", tagOf n]) :: setL C (frC (fl2 v1 v2 n tp)) L) G → Q .next s') : wpAny (model prog w) A (exec rAsg (rEnv C f cd)) Q E s := by
  obtain ⟨p1, p2, p3, p4, p5, e⟩ := rAsg_eq
  rw [e]
  refine wpAny_Assign_Name ?_
  with_reducible refine Tuple_ ?_
  refine args_cons ?_
  refine r_str S fun t1 s₁ S₁ => ?_
  refine args_cons ?_
  refine r_name S₁ hC (.tail _ (.tail _ (.head _))) fun v hv => ?_
  obtain ⟨t2, rfl⟩ := hv
  refine args_nil ?_
  refine r_newTuple S₁ (P := tupS ["  ", tagOf n]) (tupS_mk (.cons _ _ (.cons _ _ .nil))) (fun tp s₂ S₂ => ?_)
  refine r_store (P := vE (.ref tp)) (fl' := fl2 v1 v2 n tp) S₂ (.tail _ hC) rfl (.skip (by kernel_rfl) (.skip (by kernel_rfl) (.skip (by kernel_rfl) .nil))) (.tail (setL_upd ⟨_, hC⟩)) fun s₃ S₃ => h tp s₃ S₃

/-- the reader's first turn, up to its source -/
theorem rg_begin {C f : Addr} {cd v1 v2 : Value} {n : Int} {P : End → Shared → Prop} (B : Bs b mg mb names) (hfree : ("int" : Str) ∉ names) (hn : n = 1 ∨ n = 2) (hI : IntTo prog w b v2 n) (hh : A.handled = none)
    (S : St b s L G) (hC : (C, frC (fl0 v1 v2)) ∈ L)
    (h : ∀ tp s', St b s' ((tp, tupS ["  ", tagOf n]) :: setL C (frC (fl2 v1 v2 n tp)) L) G → wpAny (model prog w) (A.over (.func rBody (rEnv C f cd)) []) (pyIter v1)
      (fun it' s₄ => ∀ p, SegX (model prog w) A (FL it' (rEnv C f cd)) (denote table (FL it' (rEnv C f cd))) (fsR (rEnv C f cd) p) s₄ P) (fun _ _ => False) s') :
    SegX (model prog w) A (.func rBody (rEnv C f cd)) (denote table (.func rBody (rEnv C f cd))) [] s P := by
  refine sx_start ?_ (by intro x; kernel_rfl)
  have hh' : (A.over (.func rBody (rEnv C f cd)) []).handled = none := hh
  have hw : (("which" : Str), vE v2) ∈ fl0 v1 v2 := .tail _ (.head _)
  have hsn : SetN (fl0 v1 v2) ("tag" : Str) (vS (tagOf n)) (fl1 v1 v2 n) := .skip (by kernel_rfl) (.skip (by kernel_rfl) .nil)
  have hu : Upd L C (frC (fl1 v1 v2 n)) (setL C (frC (fl1 v1 v2 n)) L) := setL_upd ⟨_, hC⟩
  have hh1 := hu.here
  with_reducible refine rg_try B hn hI hh' S hC hw hsn hu ?_ hfree
  refine fun s₁ S₁ => ⟨rfl, ?_⟩
  with_reducible refine rg_asg S₁ hh1 ?_
  refine fun tp s₂ S₂ => ⟨rfl, ?_⟩
  rw [setL_setL] at S₂
  obtain ⟨p, e⟩ := rIter_eq
  rw [e]
  refine r_name S₂ (.tail _ (setL_upd ⟨_, hC⟩).here) (.head _) fun v hv => ?_
  cases hv
  exact h tp s₂ S₂
end
end Mine

-- part LR
open PySem PySem.W PySem.W.X PyProof.Rows PySem.Calls
set_option Elab.async false
set_option maxRecDepth 100000
set_option maxHeartbeats 1000000
namespace Mine
section
variable {prog : Program} {w : World} {A : Around} {E : Value → Shared → Prop} {b s : Shared} {L L' : Ledger} {G : GLedger}

/-- the loop of list(..) over whatever iterator -/
theorem code_extend {R : Result → Shared → Prop} {I Sa : Addr} {res : Value} (J : Nat → List Value → Shared → Prop)
    (hnx : ∀ k acc s, J k acc s → wpAny (model prog w) A.in1 (pyNext (.ref I)) (fun r s₁ => match r with
      | none => R (.ok (.ret res)) s₁
      | some v => ∃ L G L', St b s₁ L G ∧ (Sa, lstV acc) ∈ L ∧ Upd L Sa (lstV (acc ++ [v])) L' ∧ acc.length < sizeLine ∧ ∀ s₂, St b s₂ L' G → ∃ m, m < k ∧ J m (acc ++ [v]) s₂) (fun e s₁ => R (.error e) s₁) s) :
    ∀ k acc s, J k acc s → codeAny (model prog w) A (.builtin "list.extend.loop" ⟨[.ref Sa, .ref I, res], []⟩) R s := by
  intro k
  induction k using Nat.strongRecOn with
  | ind k ih =>
    intro acc s hj
    refine codeAny_builtin F.entry_extend_loop ?_
    rw [Around.under_plainId F.plain_extend_loop _]
    show wpAny _ A.in1 (pyNext (.ref I) >>= _) _ _ s
    refine wpAny_bind (wpAny_mono (hnx k acc s hj) (fun r s₁ h₁ => ?_) fun _ _ x => x)
    cases r with
    | none => exact wpAny_pure h₁
    | some v =>
      obtain ⟨L, G, L', S, hm, hu, hlt, h₂⟩ := h₁
      obtain ⟨_, ho, n, rfl⟩ := S.get hm
      show wpAny _ A.in1 (updateSeq Sa (·.push v) >>= _) _ _ _
      refine wpAny_bind ?_
      refine wpAny_updateSeq ho rfl (wpAny_pure ?_) ?_ ?_
      · have hg := Heap.get?_update_self (Obj.mapSeq (·.push v)) ho rfl
        have hcell : lstV (acc ++ [v]) ((lstObj acc.toArray n).mapSeq (·.push v)) := by
          obtain ⟨n', e⟩ := lst_push (vs := acc.toArray) (n := n) (·.push v)
          exact ⟨n', by rw [e]; simp⟩
        obtain ⟨m, hm', hj'⟩ := h₂ _ (S.set hu ⟨_, hm⟩ (Heap.SameBut.update ..).extBut hg hcell)
        exact ⟨plainId_quiet F.plain_extend_loop _, ih m hm' _ _ hj'⟩
      · simpa using Nat.le_of_lt hlt
      · simpa using Nat.succ_le_succ (Nat.le_of_lt hlt)

/-- list(..) of a generator -/
theorem r_list_gen {a : Addr} {Q : Value → Shared → Prop} {g : Nat} (S : St b s L G) (ha : (a, genC g) ∈ L)
    (J : Addr → Nat → List Value → Shared → Prop)
    (h0 : ∀ Sa s', St b s' ((Sa, lstV []) :: L) G → ∃ k, J Sa k [] s')
    (hnx : ∀ Sa k acc s, J Sa k acc s → wpAny (model prog w) A.in1.in1 (pyNext (.ref a)) (fun r s₁ => match r with
      | none => Q (.ref Sa) s₁
      | some v => ∃ L G L', St b s₁ L G ∧ (Sa, lstV acc) ∈ L ∧ Upd L Sa (lstV (acc ++ [v])) L' ∧ acc.length < sizeLine ∧ ∀ s₂, St b s₂ L' G → ∃ m, m < k ∧ J Sa m (acc ++ [v]) s₂) (fun e s₁ => E e s₁) s) :
    wpAny (model prog w) A (call (.type "list") [.ref a]) Q E s := by
  refine callType_codes (Q₁ := fun obj s₁ => obj = .ref s.heap.objs.size ∧ s₁ = { s with heap := s.heap.push { cls := .type "list", data := .seq #[] } }) F.called_list (F.typeCall_list_1 _) F.entry_list_init
    (code_list_new _ ⟨rfl, rfl⟩) fun obj s₁ h₁ => ?_
  obtain ⟨rfl, rfl⟩ := h₁
  have S0 : St b { s with heap := s.heap.push { cls := .type "list", data := .seq #[] } } ((s.heap.objs.size, lstV []) :: L) G := S.alloc ⟨0, rfl⟩
  generalize hsz : s.heap.objs.size = Sa at S0
  generalize hs0 : ({ s with heap := s.heap.push { cls := .type "list", data := .seq #[] } } : Shared) = s0 at S0
  obtain ⟨_, ho0, n0, rfl⟩ := S0.get (.head _)
  refine ⟨⟨_, ho0, rfl⟩, F.args_list_init_2 _ _, ?_⟩
  have hne : Sa ≠ a := by
    have := List.nodup_cons.mp S0.nodup
    exact fun e => this.1 (List.mem_map.mpr ⟨_, ha, e.symm⟩)
  show wpAny _ A.in1.in1 (do let old ← Builtin.List.listItems (.ref Sa); Builtin.List.listUpdate (.ref Sa) (fun _ => #[]); letGo old.toList.reverse; Builtin.List.listExtendWith (.ref Sa) (.ref a) .none) _ _ s0
  refine wpAny_bind ?_
  unfold Builtin.List.listItems
  refine wpAny_bind (wpAny_seqItems ho0 rfl (wpAny_pure ?_))
  show wpAny _ A.in1.in1 (updateSeq Sa (fun _ => #[]) >>= fun _ => letGo (([] : List Value).toArray).toList.reverse >>= fun _ => Builtin.List.listExtendWith (.ref Sa) (.ref a) .none) _ _ s0
  refine wpAny_bind (wpAny_updateSeq ho0 rfl ?_ (by simp) (by simp))
  have S1 := S0.set (P' := lstV []) .head ⟨_, .head _⟩ (Heap.SameBut.update s0.heap Sa (Obj.mapSeq fun _ => #[])).extBut (Heap.get?_update_self _ ho0 rfl) ⟨_, rfl⟩
  generalize hs1 : ({ s0 with heap := s0.heap.update Sa (Obj.mapSeq fun _ => #[]), toks := s0.toks } : Shared) = s1 at S1
  refine wpAny_bind (wpAny_letGo ?_)
  unfold Builtin.List.listExtendWith
  have hg := S1.isGen (.tail _ ha)
  refine wpAny_bind (wpAny_typeOf hg.typeIs ?_)
  have h1 : Builtin.List.listSameRef (.ref Sa) (.ref a) = false := by simp [Builtin.List.listSameRef, hne]
  have h2 : (Value.type "generator" == Value.type "list") = false := by decide
  have h3 : (Value.type "generator" == Value.type "tuple") = false := by decide
  simp only [h1, h2, h3, Bool.or_false, Bool.false_eq_true, if_false]
  refine wpAny_bind (wpAny_pyIter_gen hg ?_)
  refine wpAny_bind (wpAny_holding ?_)
  unfold Builtin.List.listLengthHint
  refine wpAny_bind (wpAny_specialOf hg.typeIs F.gen_no_len ?_)
  show wpAny _ A.in1.in1 (specialOf (Value.ref a) (Str.ofString "__length_hint__") >>= _) _ _ _
  refine wpAny_bind (wpAny_specialOf hg.typeIs F.gen_no_hint ?_)
  refine wpAny_pure ?_
  show wpAny _ A.in1.in1 (rule "list.extend.makes-room" >>= fun _ => Builtin.List.listTouch (.ref Sa) >>= fun _ =>
    again (.builtin "list.extend.loop" ⟨[.ref Sa, .ref a, .none], []⟩)) _ _ _
  refine wpAny_bind (wpAny_rule ?_)
  refine wpAny_bind ?_
  show wpAny _ A.in1.in1 (updateSeq Sa (·.push .none) >>= fun _ => updateSeq Sa (·.pop)) _ _ _
  obtain ⟨_, ho1, n1', rfl⟩ := S1.get (.head _)
  refine wpAny_bind (wpAny_updateSeq ho1 rfl ?_ (by simp) (by simp [sizeLine]))
  have hg2 := Heap.get?_update_self (Obj.mapSeq (·.push Value.none)) ho1 rfl
  have S2 := S1.set (P' := lstV [.none]) .head ⟨_, .head _⟩ (Heap.SameBut.update s1.heap Sa (Obj.mapSeq (·.push Value.none))).extBut hg2 ⟨_, rfl⟩
  refine wpAny_updateSeq hg2 rfl ?_ (by simp [sizeLine]) (by simp [sizeLine])
  have hg3 := Heap.get?_update_self (Obj.mapSeq (·.pop)) hg2 rfl
  have S3 := S2.set (P' := lstV []) .head ⟨_, .head _⟩ (Heap.SameBut.update _ Sa (Obj.mapSeq (·.pop))).extBut hg3 ⟨_, rfl⟩
  obtain ⟨k, hj⟩ := h0 Sa _ S3
  refine wpAny_pure ⟨plainId_quiet F.plain_extend_loop _, code_extend (b := b) (J Sa) ?_ k [] _ hj⟩
  intro k acc s hj
  refine wpAny_mono (hnx Sa k acc s hj) (fun r s₁ h₁ => ?_) fun _ _ x => x
  cases r with
  | none => exact ⟨rfl, h₁⟩
  | some v => exact h₁
end
end Mine

-- part GV
open PySem PySem.W PySem.W.X PyProof.Rows PySem.Calls
set_option Elab.async false
set_option maxRecDepth 100000
set_option maxHeartbeats 1000000
namespace Mine

/-- room to go d frames deeper, and nothing handled -/
structure Ar (A : Around) (d : Nat) : Prop where
  handled : A.handled = none
  depth : A.depth + d < recursionLimit
theorem Ar.mono {A : Around} {d d' : Nat} (h : Ar A d) (hd : d' ≤ d) : Ar A d' := ⟨h.1, Nat.lt_of_le_of_lt (Nat.add_le_add_left hd _) h.2⟩
theorem Ar.in1 {A : Around} {d : Nat} (h : Ar A d) : Ar A.in1 d := ⟨h.1, h.2⟩
theorem Ar.loop {A : Around} {d : Nat} {it : Value} {env : Env} {p : Pos} (h : Ar A (d + 1)) : Ar (A.over (FL it env) (fsR env p)) d := by
  refine ⟨h.1, ?_⟩
  show A.depth + 1 + 0 + d < recursionLimit
  have := h.2
  omega
theorem Ar.func {A : Around} {d : Nat} {env : Env} (h : Ar A (d + 1)) : Ar (A.over (.func rBody env) []) d := by
  refine ⟨h.1, ?_⟩
  show A.depth + 0 + 1 + d < recursionLimit
  have := h.2
  omega

section
variable (prog : Program) (w : World) (b : Shared) (Lr : Ledger) (d : Nat)

/-- v is an iterator that will give values of the makes ys; L₁, G₁ are its own; it reads of Lr -/
def Gives (v : Value) : List VP → Ledger → GLedger → Prop
  | [], L₁, G₁ => ∀ (A : Around) (E : Value → Shared → Prop) (s : Shared) (F : Ledger) (GF : GLedger) (Q : Option Value → Shared → Prop), Ar A d → (∀ p ∈ Lr, p ∈ F) → St b s (L₁ ++ F) (G₁ ++ GF) →
      (∀ s', St b s' F GF → Q none s') → wpAny (model prog w) A (pyNext v) Q E s
  | y :: r, L₁, G₁ => ∀ (A : Around) (E : Value → Shared → Prop) (s : Shared) (F : Ledger) (GF : GLedger) (Q : Option Value → Shared → Prop), Ar A d → (∀ p ∈ Lr, p ∈ F) → St b s (L₁ ++ F) (G₁ ++ GF) →
      (∀ u s' L₂ G₂, y u → Gives v r L₂ G₂ → St b s' (L₂ ++ F) (G₂ ++ GF) → Q (some u) s') → wpAny (model prog w) A (pyNext v) Q E s

/-- iter(it) is it -/
def SelfI (it : Value) (L₂ : Ledger) : Prop := ∀ (A : Around) (E : Value → Shared → Prop) (s : Shared) (F : Ledger) (GF : GLedger) (Q : Value → Shared → Prop), St b s (L₂ ++ F) GF → Q it s → wpAny (model prog w) A (pyIter it) Q E s

/-- v is an iterable of values of the makes ys -/
def GivesI (v : Value) (ys : List VP) (L₁ : Ledger) (G₁ : GLedger) : Prop :=
  ∀ (A : Around) (E : Value → Shared → Prop) (s : Shared) (F : Ledger) (GF : GLedger) (Q : Value → Shared → Prop), Ar A d → (∀ p ∈ Lr, p ∈ F) → St b s (L₁ ++ F) (G₁ ++ GF) →
      (∀ it s' L₂ G₂, Gives prog w b Lr d it ys L₂ G₂ → SelfI prog w b it L₂ → St b s' (L₂ ++ F) (G₂ ++ GF) → Q it s') → wpAny (model prog w) A (pyIter v) Q E s
end

theorem St.gperm {b s : Shared} {L : Ledger} {G G' : GLedger} (S : St b s L G) (h : G'.Perm G) : St b s L G' :=
  ⟨S.keep, S.own, S.nodup, S.os, S.bare, fun p hp => S.gens p (h.subset hp), (h.map _).nodup_iff.mpr S.gnodup⟩

/-- what a reader gives of its rows -/
def readS (n : Int) (xs : List Str) : List Str := (xs.filter (keepS (tagOf n))).map cutS
abbrev flP (tp : Addr) : List (Str × VP) := [(("prefixes" : Str), vE (.ref tp))]

theorem Upd.left {α β : Type} {F F' : List (α × β)} {a : α} {P : β} (u : Upd F a P F') : ∀ L₂ : List (α × β), Upd (L₂ ++ F) a P (L₂ ++ F')
  | [] => u
  | _ :: r => .tail (u.left r)
theorem frC_sub {fl fl' : List (Str × VP)} (h : ∀ p ∈ fl', p ∈ fl) {o : Obj} (hc : frC fl o) : frC fl' o :=
  let ⟨es, ep, h1, h2, h3⟩ := hc; ⟨es, ep, h1, h2, fun p hp => h3 p (h p hp)⟩
/-- a cell known to be more -/
theorem St.less {b s : Shared} {L L' : Ledger} {G : GLedger} (S : St b s L G) {a : Addr} {P P' : Cell} (hm : (a, P) ∈ L) (u : Upd L a P' L') (hP : ∀ o, P o → P' o) : St b s L' G :=
  let ⟨_, e, h⟩ := S.get hm
  S.set u ⟨P, hm⟩ (Heap.ExtBut.refl _ _) e (hP _ h)
def IsRun (gs : GenState) : Prop := gs = .running
def IsFin (gs : GenState) : Prop := gs = .finished

section
variable {prog : Program} {w : World} {b : Shared} {Lr : Ledger} {d : Nat} {mg mb : Str → Option Value} {names : List Str}

theorem gives_of {v : Value} {ys : List VP} {L₁ : Ledger} {G₁ : GLedger}
    (h : ∀ (A : Around) (E : Value → Shared → Prop) (s : Shared) (F : Ledger) (GF : GLedger) (Q : Option Value → Shared → Prop), Ar A d → (∀ p ∈ Lr, p ∈ F) → St b s (L₁ ++ F) (G₁ ++ GF) →
      (ys = [] → ∀ s', St b s' F GF → Q none s') → (∀ y r, ys = y :: r → ∀ u s' L₂ G₂, y u → Gives prog w b Lr d v r L₂ G₂ → St b s' (L₂ ++ F) (G₂ ++ GF) → Q (some u) s') → wpAny (model prog w) A (pyNext v) Q E s) :
    Gives prog w b Lr d v ys L₁ G₁ := by
  cases ys with
  | nil => intro A E s F GF Q hA hF S hQ; exact h A E s F GF Q hA hF S (fun _ => hQ) (fun _ _ e => nomatch e)
  | cons y r => intro A E s F GF Q hA hF S hQ; exact h A E s F GF Q hA hF S (fun e => nomatch e) (fun _ _ e => by cases e; exact hQ)
theorem Gives.next {v : Value} {ys : List VP} {L₁ : Ledger} {G₁ : GLedger} (H : Gives prog w b Lr d v ys L₁ G₁) {A : Around} {E : Value → Shared → Prop} {s : Shared} {F : Ledger} {GF : GLedger} (hA : Ar A d) (hF : ∀ p ∈ Lr, p ∈ F) (S : St b s (L₁ ++ F) (G₁ ++ GF))
    {Q : Option Value → Shared → Prop} (h1 : ys = [] → ∀ s', St b s' F GF → Q none s') (h2 : ∀ y r, ys = y :: r → ∀ u s' L₂ G₂, y u → Gives prog w b Lr d v r L₂ G₂ → St b s' (L₂ ++ F) (G₂ ++ GF) → Q (some u) s') : wpAny (model prog w) A (pyNext v) Q E s := by
  cases ys with
  | nil => exact H A E s F GF Q hA hF S (h1 rfl)
  | cons y r => exact H A E s F GF Q hA hF S (h2 y r rfl)

theorem perm3 {α : Type} (x y z : α) (L F : List α) : (L ++ x :: y :: z :: F).Perm (x :: y :: z :: (L ++ F)) := by
  refine (List.perm_middle).trans (.cons _ ?_)
  refine (List.perm_middle).trans (.cons _ ?_)
  exact List.perm_middle

/-- the reader's run from the head of its loop -/
theorem loop_seg {a C f tp : Addr} {cd it : Value} {g : Nat} {n : Int} {A : Around} {E : Value → Shared → Prop} {s₀ : Shared} {F : Ledger} {GF : GLedger} {Q : Option Value → Shared → Prop} {p' : Pos} (xs : List Str) {Li : Ledger} {Gi : GLedger}
    (hA : Ar A (d + 1)) (hF : ∀ p ∈ Lr, p ∈ F) (hlen : ∀ x ∈ xs, x.length ≤ sizeLine) (hgv : Gives prog w b Lr d it (xs.map vS) Li Gi)
    (ih : ∀ (r : List Str) (Li' : Ledger) (Gi' : GLedger), r.length < xs.length → (∀ x ∈ r, x.length ≤ sizeLine) → Gives prog w b Lr d it (r.map vS) Li' Gi' →
      Gives prog w b Lr (d + 1) (.ref a) ((readS n r).map vS) ((a, genC g) :: (C, frC (flP tp)) :: (tp, tupS ["  ", tagOf n]) :: Li') ((g, AtLoop it (rEnv C f cd)) :: Gi'))
    (S0 : St b s₀ (Li ++ ((a, genC g) :: (C, frC (flP tp)) :: (tp, tupS ["  ", tagOf n]) :: F)) (Gi ++ ((g, IsRun) :: GF)))
    (hend : readS n xs = [] → ∀ s', St b s' F GF → Q none s')
    (hyld : ∀ y r, readS n xs = y :: r → ∀ t s' L₂ G₂, Gives prog w b Lr (d + 1) (.ref a) (r.map vS) L₂ G₂ → St b s' (L₂ ++ F) (G₂ ++ GF) → Q (some (.str y t)) s') :
    SegX (model prog w) A (FL it (rEnv C f cd)) (denote table (FL it (rEnv C f cd))) (fsR (rEnv C f cd) p') s₀ (fun e s₁ => match e.result with
      | .yielded v => Q (some v) (s₁.setGen g e.genState)
      | .returned v => v = .none ∧ ∀ h', (∀ b o, s₁.heap.get? b = some o → h'.get? b = some o) → Q none { s₁.setGen g e.genState with heap := h' }
      | .raised x => ∃ T : String, s₁.TypeIs x T ∧ isSubtype (.type T) (.type "StopIteration") = pure false ∧ s₁.heap.IsGen a g ∧ E x (s₁.setGen g e.genState)
      | _ => False) := by
  let F' : Ledger := (a, genC g) :: (C, frC (flP tp)) :: (tp, tupS ["  ", tagOf n]) :: F
  let GF' : GLedger := (g, IsRun) :: GF
  let J : Nat → Shared → Prop := fun m s => ∃ xs' Li' Gi', xs'.length = m ∧ m ≤ xs.length ∧ readS n xs' = readS n xs ∧ (∀ x ∈ xs', x.length ≤ sizeLine) ∧ Gives prog w b Lr d it (xs'.map vS) Li' Gi' ∧ St b s (Li' ++ F') (Gi' ++ GF')
  let Pend : Shared → Prop := fun s => readS n xs = [] ∧ St b s F' GF'
  let Py : Value → Shared → Prop := fun v s => ∃ y t r Li' Gi' fl', v = .str (cutS y) t ∧ readS n xs = cutS y :: readS n r ∧ r.length < xs.length ∧ (∀ x ∈ r, x.length ≤ sizeLine) ∧ Gives prog w b Lr d it (r.map vS) Li' Gi' ∧ (∀ p ∈ flP tp, p ∈ fl') ∧
    St b s (Li' ++ ((a, genC g) :: (C, frC fl') :: (tp, tupS ["  ", tagOf n]) :: F)) (Gi' ++ GF')
  refine (rg_loop (b := b) (tp := tp) (tag := tagOf n) J (Pend := Pend) (Py := Py) ?_ xs.length _ ⟨xs, Li, Gi, rfl, Nat.le_refl _, rfl, hlen, hgv, S0⟩).mono ?_
  · rintro m s₁ ⟨xs', Li', Gi', hm, hle, hrd, hl', hg', S₁⟩
    refine hg'.next (F := F') (GF := GF') hA.loop (fun q hq => .tail _ (.tail _ (.tail _ (hF q hq)))) S₁ (fun e s₂ S₂ => ?_) (fun y r e u s₂ L₂ G₂ hu hg₂ S₂ => ?_)
    · have e : xs' = [] := List.map_eq_nil_iff.mp e
      subst e; exact ⟨hrd.symm.trans rfl, S₂⟩
    · obtain ⟨y, r, rfl, rfl, rfl⟩ := List.map_eq_cons_iff.mp e
      obtain ⟨t, rfl⟩ := hu
      refine ⟨y, ⟨t, rfl⟩, hl' y (.head _), L₂ ++ F', G₂ ++ GF', flP tp, [(("prefixes" : Str), vE (.ref tp)), (("line" : Str), vS y)], L₂ ++ ((a, genC g) :: (C, frC [(("prefixes" : Str), vE (.ref tp)), (("line" : Str), vS y)]) :: (tp, tupS ["  ", tagOf n]) :: F), S₂,
        List.mem_append_right _ (.tail _ (.head _)), .skip (by kernel_rfl) .nil, (Upd.tail .head).left _, .head _, List.mem_append_right _ (.tail _ (.tail _ (.head _))), fun s₃ S₃ => ?_⟩
      have hlt : r.length < xs.length := by simp only [List.length_cons] at hm; omega
      cases hkp : keepS (tagOf n) y with
      | true =>
        rw [if_pos rfl]
        intro t' s₄ S₄
        refine ⟨y, t', r, L₂, G₂, _, rfl, ?_, hlt, fun x hx => hl' x (.tail _ hx), hg₂, fun q hq => by cases List.mem_singleton.mp hq; exact .head _, S₄⟩
        rw [← hrd]
        simp [readS, hkp]
      | false =>
        rw [if_neg Bool.false_ne_true]
        refine ⟨r.length, by simp only [List.length_cons] at hm; omega, r, L₂, G₂, rfl, Nat.le_of_lt hlt, ?_, fun x hx => hl' x (.tail _ hx), hg₂, ?_⟩
        · rw [← hrd]; simp [readS, hkp]
        · exact S₃.less (List.mem_append_right _ (.tail _ (.head _))) ((Upd.tail .head).left _) fun o ho => frC_sub (fun q hq => by cases List.mem_singleton.mp hq; exact .head _) ho
  · intro e s₁ h
    revert h
    cases e.result with
    | yielded v =>
      rintro ⟨hat, hbare, y, t, r, Li', Gi', fl', rfl, hrd, hlt, hl', hg', hfl, S₁⟩
      have S₂ := S₁.setGen (P' := AtLoop it (rEnv C f cd)) (Upd.head.left Gi') hat hbare
      have S₃ := S₂.less (P' := frC (flP tp)) (List.mem_append_right _ (.tail _ (.head _))) ((Upd.tail .head).left _) fun o ho => frC_sub hfl ho
      refine hyld _ _ hrd t _ _ _ (ih r Li' Gi' hlt hl' hg') ?_
      exact (S₃.perm (perm3 _ _ _ _ _).symm).gperm List.perm_middle.symm
    | returned v =>
      rintro ⟨rfl, hfin, hrd, S₁⟩
      refine ⟨rfl, fun h' hk' => ?_⟩
      rw [hfin]
      have S₂ := S₁.setGen (P' := IsFin) (gs := .finished) .head rfl rfl
      refine hend hrd _ ?_
      exact ((S₂.keeps (s' := { s₁.setGen g .finished with heap := h' }) hk').sub ((((List.Sublist.refl F).cons _).cons _).cons _)).gsub ((List.Sublist.refl GF).cons _)
    | raised x => intro h; exact h.elim
    | running => intro h; exact h.elim
    | justStarted => intro h; exact h.elim
    | finished => intro h; exact h.elim

theorem gives_loop (B : Bs b mg mb names) {a C f tp : Addr} {cd it : Value} {g : Nat} {n : Int} :
    ∀ (k : Nat) (xs : List Str) (Li : Ledger) (Gi : GLedger), xs.length ≤ k → (∀ x ∈ xs, x.length ≤ sizeLine) → Gives prog w b Lr d it (xs.map vS) Li Gi →
      Gives prog w b Lr (d + 1) (.ref a) ((readS n xs).map vS) ((a, genC g) :: (C, frC (flP tp)) :: (tp, tupS ["  ", tagOf n]) :: Li) ((g, AtLoop it (rEnv C f cd)) :: Gi) := by
  intro k
  induction k using Nat.strongRecOn with
  | ind k ih =>
    intro xs Li Gi hk hlen hgv
    refine gives_of fun A E s F GF Q hA hF S hend hyld => ?_
    obtain ⟨gs, hgs, kk, l, p, p', rfl, hkk⟩ := S.gens _ (.head _)
    have hg := S.isGen (.head _)
    have hw : WakeOf (.suspended kk l (FL it (rEnv C f cd)) p (fsR (rEnv C f cd) p') false) (FL it (rEnv C f cd)) (.pure (.again (FL it (rEnv C f cd)))) (fsR (rEnv C f cd) p') := .inr ⟨kk, l, p, false, rfl, hkk.symm⟩
    refine r_pyNext_gen hA.handled (B.nolimit.keeps S.keep) (by have := hA.depth; omega) hg hgs hw ?_
    refine s_again _ _ _ _ _ _ _ _ rfl ?_
    have S0 : St b (s.setGen g .running) (Li ++ ((a, genC g) :: (C, frC (flP tp)) :: (tp, tupS ["  ", tagOf n]) :: F)) (Gi ++ ((g, IsRun) :: GF)) :=
      ((S.setGen (P' := IsRun) .head rfl rfl).perm (perm3 _ _ _ _ _)).gperm List.perm_middle
    exact loop_seg xs hA.in1 hF hlen hgv (fun r Li' Gi' hlt hl' hg' => ih r.length (by omega) r Li' Gi' (Nat.le_refl _) hl' hg') S0 (fun e => hend (by rw [e]; rfl)) (fun y r e t s' L₂ G₂ hg S => hyld (vS y) (r.map vS) (by rw [e]; rfl) _ s' L₂ G₂ ⟨t, rfl⟩ hg S)
end
end Mine

-- part GV2
open PySem PySem.W PySem.W.X PyProof.Rows PySem.Calls
set_option Elab.async false
set_option maxRecDepth 100000
set_option maxHeartbeats 1000000
namespace Mine

def itC (l : Addr) (i : Nat) : Cell := fun o => o.cls = .type "list_iterator" ∧ o.data = .fields #[.ref l, .int i 0]

section
variable {prog : Program} {w : World} {b : Shared} {Lr : Ledger} {d : Nat} {mg mb : Str → Option Value} {names : List Str} {ys₀ : List Str}

/-- a reader that has not begun -/
theorem gives_fresh (B : Bs b mg mb names) (hfree : ("int" : Str) ∉ names) {a C f : Addr} {cd v1 v2 : Value} {g : Nat} {n : Int} (hn : n = 1 ∨ n = 2) (hI : IntTo prog w b v2 n) {xs : List Str} {Ls : Ledger} {Gs : GLedger}
    (hlen : ∀ x ∈ xs, x.length ≤ sizeLine) (hsrc : GivesI prog w b Lr d v1 (xs.map vS) Ls Gs) :
    Gives prog w b Lr (d + 1) (.ref a) ((readS n xs).map vS) ((a, genC g) :: (C, frC (fl0 v1 v2)) :: Ls) ((g, IsFresh (rEnv C f cd)) :: Gs) := by
  refine gives_of fun A E s F GF Q hA hF S hend hyld => ?_
  obtain ⟨gs, hgs, hfr⟩ := S.gens _ (.head _)
  cases hfr
  have hg := S.isGen (.head _)
  refine r_pyNext_gen hA.handled (B.nolimit.keeps S.keep) (by have := hA.depth; omega) hg hgs (.inl ⟨rfl, rfl, rfl⟩) ?_
  have S0 := S.setGen (P' := IsRun) (gs := .running) .head rfl rfl
  refine rg_begin (v1 := v1) (v2 := v2) B hfree hn hI hA.handled S0 (.tail _ (.head _)) fun tp s₁ S₁ => ?_
  -- the ledger as the loop wants it
  have hset : setL C (frC (fl2 v1 v2 n tp)) ((a, genC g) :: (C, frC (fl0 v1 v2)) :: (Ls ++ F)) = (a, genC g) :: (C, frC (fl2 v1 v2 n tp)) :: (Ls ++ F) := by
    have hne : a ≠ C := by
      have := List.nodup_cons.mp S.nodup
      exact fun e => this.1 (e ▸ List.mem_map.mpr ⟨_, .head _, rfl⟩)
    unfold setL
    rw [if_neg hne]
    unfold setL
    rw [if_pos rfl]
  have S₂ : St b s₁ ((tp, tupS ["  ", tagOf n]) :: (a, genC g) :: (C, frC (fl2 v1 v2 n tp)) :: (Ls ++ F)) ((g, IsRun) :: (Gs ++ GF)) := by
    rw [← hset]; exact S₁
  have S₃ : St b s₁ (Ls ++ ((a, genC g) :: (C, frC (flP tp)) :: (tp, tupS ["  ", tagOf n]) :: F)) (Gs ++ ((g, IsRun) :: GF)) := by
    have S₄ := S₂.less (P' := frC (flP tp)) (.tail _ (.tail _ (.head _))) (.tail (.tail .head)) fun o ho => frC_sub (fun q hq => by cases List.mem_singleton.mp hq; exact .tail _ (.tail _ (.tail _ (.head _)))) ho
    refine (S₄.perm ?_).gperm List.perm_middle
    refine (perm3 _ _ _ _ _).trans ?_
    refine List.Perm.trans ?_ (List.Perm.swap _ _ _)
    exact .cons _ (List.Perm.swap _ _ _)
  have hA' : Ar (A.in1.over (.func rBody (rEnv C f cd)) []) d := hA.in1.func
  refine hsrc _ _ _ ((a, genC g) :: (C, frC (flP tp)) :: (tp, tupS ["  ", tagOf n]) :: F) ((g, IsRun) :: GF) _ hA' (fun q hq => .tail _ (.tail _ (.tail _ (hF q hq)))) S₃ fun it s₂ L₂ G₂ hgv _ S₄ p => ?_
  exact loop_seg xs hA.in1 hF hlen hgv (fun r Li' Gi' _ hl' hg' => gives_loop B r.length r Li' Gi' (Nat.le_refl _) hl' hg') S₄ (fun e => hend (by rw [e]; rfl)) (fun y r e t s' L₂ G₂ hg S => hyld (vS y) (r.map vS) (by rw [e]; rfl) _ s' L₂ G₂ ⟨t, rfl⟩ hg S)

theorem St.drop1 {s : Shared} {a : Addr} {P : Cell} {L : Ledger} {G : GLedger} (S : St b s ((a, P) :: L) G) {h' : Heap} (hs : Heap.ExtBut a s.heap h') (tk : Nat := s.toks) : St b { s with heap := h', toks := tk } L G := by
  have hb := (S.own _ (.head _)).1
  have hnd := List.nodup_cons.mp S.nodup
  refine ⟨fun c oc e => hs c oc (fun h => ?_) (S.keep c oc e), fun p hp => ?_, hnd.2, S.os, S.bare, S.gens, S.gnodup⟩
  · subst h; rw [hb] at e; cases e
  · obtain ⟨h1, op, e, hq⟩ := S.own p (.tail _ hp)
    exact ⟨h1, op, hs _ _ (fun h => hnd.1 (h ▸ List.mem_map.mpr ⟨p, hp, rfl⟩)) e, hq⟩

/-- a list, by the makes of its items -/
def lstP (Ps : List VP) : Cell := fun o => ∃ vs n, o = lstObj vs n ∧ vs.size = Ps.length ∧ ∀ (i : Nat) (P : VP), Ps[i]? = some P → ∃ v, vs[i]? = some v ∧ P v

theorem strsAre_len {vs : List Value} {ys : List Str} (h : StrsAre vs ys) : vs.length = ys.length := by
  induction h with
  | nil => rfl
  | cons _ _ _ ih => simp [ih]
theorem strsAre_get {vs : List Value} {ys : List Str} (h : StrsAre vs ys) {i : Nat} {y : Str} (e : ys[i]? = some y) : ∃ t, vs[i]? = some (.str y t) := by
  induction h generalizing i with
  | nil => simp at e
  | cons z t _ ih =>
    cases i with
    | zero => simp at e; subst e; exact ⟨t, rfl⟩
    | succ i => simp at e; obtain ⟨t', h'⟩ := ih e; exact ⟨t', by simpa using h'⟩
theorem intsAre_get {vs : List Value} {ys : List Int} (h : IntsAre vs ys) {i : Nat} {y : Int} (e : ys[i]? = some y) : ∃ t, vs[i]? = some (.int y t) := by
  induction h generalizing i with
  | nil => simp at e
  | cons z t _ ih =>
    cases i with
    | zero => simp at e; subst e; exact ⟨t, rfl⟩
    | succ i => simp at e; obtain ⟨t', h'⟩ := ih e; exact ⟨t', by simpa using h'⟩

/-- the list at l, in the ledger or ahead of the call, holds values of these makes -/
def HasL (b : Shared) (Lr : Ledger) (l : Addr) (Ps : List VP) : Prop :=
  ∀ (s : Shared) (F : Ledger) (G : GLedger), (∀ p ∈ Lr, p ∈ F) → St b s F G → ∃ vs : Array Value, s.heap.IsList l vs ∧ vs.size = Ps.length ∧ ∀ (i : Nat) (P : VP), Ps[i]? = some P → ∃ v, vs[i]? = some v ∧ P v
theorem hasL_S {l : Addr} {ys : List Str} (h : (l, lstS ys) ∈ Lr) : HasL b Lr l (ys.map vS) := fun s F G hF S => by
  obtain ⟨vs, hl, hs⟩ := S.lst (hF _ h)
  refine ⟨vs, hl, ?_, fun i P e => ?_⟩
  · have := strsAre_len hs; simpa using this
  · rw [List.getElem?_map] at e
    obtain ⟨y, hy, rfl⟩ := Option.map_eq_some_iff.mp e
    obtain ⟨t, ht⟩ := strsAre_get hs hy
    exact ⟨_, by rw [← Array.getElem?_toList]; exact ht, t, rfl⟩
theorem hasL_V {l : Addr} {vs : List Value} (h : (l, lstV vs) ∈ Lr) : HasL b Lr l (vs.map vE) := fun s F G hF S => by
  refine ⟨vs.toArray, S.lstv (hF _ h), by simp, fun i P e => ?_⟩
  rw [List.getElem?_map] at e
  obtain ⟨y, hy, rfl⟩ := Option.map_eq_some_iff.mp e
  exact ⟨y, by simpa using hy, rfl⟩
theorem hasL_P {l : Addr} {Ps : List VP} (h : (l, lstP Ps) ∈ Lr) : HasL b Lr l Ps := fun s F G hF S => by
  obtain ⟨_, e, vs, n, rfl, h1, h2⟩ := S.get (hF _ h)
  exact ⟨vs, ⟨_, e, rfl, n, rfl⟩, h1, h2⟩
theorem hasL_base {l : Addr} {vs : List Value} {ns : List Int} (h : b.heap.IsList l vs.toArray) (hi : IntsAre vs ns) : HasL b Lr l (ns.map vI) := fun s F G _ S => by
  refine ⟨vs.toArray, h.at fun o e => S.keep _ _ e, by simpa using hi.length, fun i P e => ?_⟩
  rw [List.getElem?_map] at e
  obtain ⟨y, hy, rfl⟩ := Option.map_eq_some_iff.mp e
  obtain ⟨t, ht⟩ := intsAre_get hi hy
  exact ⟨_, by simpa using ht, t, rfl⟩

/-- a list's iterator -/
theorem gives_iter {I l : Addr} {Ps₀ : List VP} (hLr : HasL b Lr l Ps₀) : ∀ (Ps : List VP) (i : Nat), Ps₀.drop i = Ps → Gives prog w b Lr d (.ref I) Ps [(I, itC l i)] [] := by
  intro Ps
  induction Ps with
  | nil =>
    intro i hi A E s F GF Q hA hF S hQ
    obtain ⟨o, ho, hc, hd⟩ := S.get (.head _)
    obtain ⟨vs, hl, hz, _⟩ := hLr s _ _ (fun q hq => .tail _ (hF q hq)) S
    have hx : vs[i]? = none := by
      have h1 : Ps₀.length ≤ i := List.drop_eq_nil_iff.mp hi
      exact Array.getElem?_eq_none (by rw [hz]; exact h1)
    exact wpAny_pyNext_list_end hA.handled ⟨o, ho, hc, hd⟩ hl hx fun h' he => hQ _ (S.drop1 he)
  | cons P r ih =>
    intro i hi A E s F GF Q hA hF S hQ
    obtain ⟨o, ho, hc, hd⟩ := S.get (.head _)
    obtain ⟨vs, hl, _, hv⟩ := hLr s _ _ (fun q hq => .tail _ (hF q hq)) S
    have hy : Ps₀[i]? = some P := by
      have := congrArg (·[0]?) hi
      simpa using this
    have hr : Ps₀.drop (i + 1) = r := by
      have := congrArg List.tail hi
      simpa [List.tail_drop] using this
    obtain ⟨u, hx, hu⟩ := hv i P hy
    refine wpAny_pyNext_list_item ⟨o, ho, hc, hd⟩ hl hx fun h' hit hsb => ?_
    obtain ⟨o', ho', hc', hd'⟩ := hit
    exact hQ u _ _ _ hu (ih (i + 1) hr) (S.set (P' := itC l (i + 1)) .head ⟨_, .head _⟩ hsb.extBut ho' ⟨hc', hd'⟩)

theorem selfI_iter {I l : Addr} {i : Nat} : SelfI prog w b (.ref I) [(I, itC l i)] := fun A E s F GF Q S h => by
  obtain ⟨o, ho, hc, hd⟩ := S.get (.head _)
  exact wpAny_pyIter_listiter ⟨o, ho, hc, hd⟩ h
theorem selfI_gen {a : Addr} {g : Nat} {L₁ : Ledger} : SelfI prog w b (.ref a) ((a, genC g) :: L₁) := fun A E s F GF Q S h => wpAny_pyIter_gen (S.isGen (.head _)) h

/-- a list -/
theorem givesI_list {l : Addr} {Ps : List VP} (hLr : HasL b Lr l Ps) : GivesI prog w b Lr d (.ref l) Ps [] [] := by
  intro A E s F GF Q hA hF S hQ
  obtain ⟨vs, hl, _⟩ := hLr s _ _ hF S
  refine wpAny_pyIter_list hl ?_
  exact hQ _ _ _ _ (gives_iter hLr Ps 0 rfl) selfI_iter (S.alloc (P := itC l 0) ⟨rfl, rfl⟩)

/-- an iterator is its own iterator -/
theorem givesI_gen {a : Addr} {g : Nat} {ys : List VP} {L₁ : Ledger} {G₁ : GLedger} (h : Gives prog w b Lr d (.ref a) ys ((a, genC g) :: L₁) G₁) : GivesI prog w b Lr d (.ref a) ys ((a, genC g) :: L₁) G₁ := by
  intro A E s F GF Q hA hF S hQ
  exact wpAny_pyIter_gen (S.isGen (.head _)) (hQ _ _ _ _ h selfI_gen S)

/-- list(..) of a reader -/
theorem r_list_gives {A : Around} {E : Value → Shared → Prop} {s : Shared} {a : Addr} {g : Nat} {ys : List Str} {L₁ F : Ledger} {G₁ GF : GLedger} {Q : Value → Shared → Prop} (hg : Gives prog w b Lr d (.ref a) (ys.map vS) ((a, genC g) :: L₁) G₁) (hA : Ar A d) (hF : ∀ p ∈ Lr, p ∈ F)
    (S : St b s ((a, genC g) :: L₁ ++ F) (G₁ ++ GF)) (hz : ys.length ≤ sizeLine) (h : ∀ l s', St b s' ((l, lstS ys) :: F) GF → Q (.ref l) s') : wpAny (model prog w) A (call (.type "list") [.ref a]) Q E s := by
  let J : Addr → Nat → List Value → Shared → Prop := fun Sa k acc s => ∃ pre post L₂ G₂, ys = pre ++ post ∧ post.length = k ∧ StrsAre acc pre ∧ Gives prog w b Lr d (.ref a) (post.map vS) L₂ G₂ ∧ St b s (L₂ ++ ((Sa, lstV acc) :: F)) (G₂ ++ GF)
  refine r_list_gen (g := g) S (.head _) J (fun Sa s' S' => ⟨ys.length, [], ys, _, _, rfl, rfl, .nil, hg, S'.perm List.perm_middle⟩) ?_
  rintro Sa k acc s₁ ⟨pre, post, L₂, G₂, e, hk, hs, hg₂, S₁⟩
  have hA2 : Ar A.in1.in1 d := hA.in1.in1
  refine hg₂.next (F := (Sa, lstV acc) :: F) hA2 (fun q hq => .tail _ (hF q hq)) S₁ (fun e' s₂ S₂ => ?_) (fun y r e' u s₂ L₃ G₃ hu hg₃ S₂ => ?_)
  · have e' : post = [] := List.map_eq_nil_iff.mp e'
    subst e'
    rw [List.append_nil] at e
    subst e
    exact h _ _ (S₂.less (.head _) .head fun o ho => let ⟨n, hn⟩ := ho; ⟨_, n, hn, by simpa using hs⟩)
  · obtain ⟨y, r, rfl, rfl, rfl⟩ := List.map_eq_cons_iff.mp e'
    obtain ⟨t, rfl⟩ := hu
    refine ⟨_, _, L₃ ++ ((Sa, lstV (acc ++ [.str y t])) :: F), S₂, List.mem_append_right _ (.head _), Upd.head.left _, ?_, fun s₃ S₃ => ?_⟩
    · rw [strsAre_len hs]
      have : ys.length = pre.length + (r.length + 1) := by rw [e]; simp
      omega
    · refine ⟨r.length, by simp only [List.length_cons] at hk; omega, pre ++ [y], r, L₃, G₃, by rw [e]; simp, rfl, hs.append' (.cons _ _ .nil), hg₃, S₃⟩
end
end Mine

-- part LC
open PySem PySem.W PySem.W.X PyProof.Rows PySem.Calls
set_option Elab.async false
set_option maxRecDepth 100000
set_option maxHeartbeats 1000000
namespace Mine

/-- no exception -/
abbrev NoE : Value → Shared → Prop := fun _ _ => False

section
variable {prog : Program} {w : World} {A : Around} {E : Value → Shared → Prop} {b s : Shared} {L L' X : Ledger} {G : GLedger} {env : Env} {Lr : Ledger} {d : Nat} {mg mb : Str → Option Value} {names : List Str}

theorem noE {α : Type} {t : Sem α} {Q : α → Shared → Prop} (h : wpAny (model prog w) A t Q NoE s) : wpAny (model prog w) A t Q E s := wpAny_mono h (fun _ _ x => x) fun _ _ x => x.elim

/-- what follows a statement -/
def Then (prog : Program) (w : World) (A : Around) (env : Env) (rest : List Stmt) (Q : Flow → Shared → Prop) (E : Value → Shared → Prop) (f : Flow) (s' : Shared) : Prop :=
  match f with | .next => wpAny (model prog w) A (execs rest env) Q E s' | f => Q f s'
theorem r_seq {st : Stmt} {rest : List Stmt} {Q : Flow → Shared → Prop} (h : wpAny (model prog w) A (exec st env) (Then prog w A env rest Q E) E s) : wpAny (model prog w) A (execs (st :: rest) env) Q E s :=
  wpAny_execs_cons (wpAny_mono h (fun f s' h' => by cases f <;> exact h') fun _ _ x => x)
theorem then_next {rest : List Stmt} {Q : Flow → Shared → Prop} (h : wpAny (model prog w) A (execs rest env) Q E s) : Then prog w A env rest Q E .next s := h
theorem then_ret {rest : List Stmt} {Q : Flow → Shared → Prop} {v : Value} (h : Q (.ret v) s) : Then prog w A env rest Q E (.ret v) s := h

/-- what follows a turn of a loop -/
def Turn (Q : Flow → Shared → Prop) (N : Shared → Prop) (f : Flow) (s : Shared) : Prop :=
  match f with | .next | .cont => N s | .brk => Q .next s | .ret v => Q (.ret v) s
theorem turn_next {Q : Flow → Shared → Prop} {N : Shared → Prop} (h : N s) : Turn Q N .next s := h
theorem turn_ret {Q : Flow → Shared → Prop} {N : Shared → Prop} {v : Value} (h : Q (.ret v) s) : Turn Q N (.ret v) s := h

theorem perm_swap3 {α : Type} (a b c : List α) : (a ++ (b ++ c)).Perm (b ++ (a ++ c)) := by
  rw [← List.append_assoc, ← List.append_assoc]
  exact List.perm_append_comm.append_right c

/-- a for over whatever is iterable -/
theorem r_for {v₀ : Value} {Ps : List VP} {L₁ F₀ : Ledger} {G₁ : GLedger} {target iter : Expr} {body : List Stmt} {pos : Pos} {Q : Flow → Shared → Prop} (J : List VP → Ledger → Prop)
    (hsrc : GivesI prog w b Lr d v₀ Ps L₁ G₁) (hA : Ar A d)
    (hiter : wpAny (model prog w) A (eval iter env) (fun v s₁ => v = v₀ ∧ St b s₁ (L₁ ++ (F₀ ++ X)) (G₁ ++ G)) NoE s)
    (h0 : J [] F₀) (hR : ∀ pre F, J pre F → ∀ p ∈ Lr, p ∈ F ++ X)
    (turn : ∀ pre P r u F L₂ G₂ s, Ps = pre ++ P :: r → P u → J pre F → St b s (F ++ (L₂ ++ X)) (G₂ ++ G) →
      wpAny (model prog w) A (assign target env u) (fun _ s₂ => wpAny (model prog w) A (execs body env) (Turn Q fun s₃ => ∃ F', J (pre ++ [P]) F' ∧ St b s₃ (F' ++ (L₂ ++ X)) (G₂ ++ G)) NoE s₂) NoE s)
    (done : ∀ F s, J Ps F → St b s (F ++ X) G → Q .next s)
    (hs : ∀ x, foldedSetIterable iter env x = pure x := by intro _; kernel_rfl) (ht : ∀ it v, letOwnedTupleGo target it v = pure () := by intro _ _; kernel_rfl) :
    wpAny (model prog w) A (exec (.For target iter body [] pos) env) Q E s := by
  refine wpAny_For (wpAny_mono hiter (fun v s₁ h₁ => ?_) fun _ _ x => x.elim) hs
  obtain ⟨rfl, S₁⟩ := h₁
  refine hsrc A _ _ _ _ _ hA (hR [] F₀ h0) S₁ fun it s₂ L₂ G₂ hg _ S₂ => ?_
  refine codeAny_forLoop (fun n s => ∃ pre post F L₂ G₂, Ps = pre ++ post ∧ post.length = n ∧ J pre F ∧ Gives prog w b Lr d it post L₂ G₂ ∧ St b s (L₂ ++ (F ++ X)) (G₂ ++ G)) ?_ Ps.length ⟨[], Ps, F₀, L₂, G₂, rfl, rfl, h0, hg, S₂⟩ (ht it)
  rintro n s₃ ⟨pre, post, F, L₃, G₃, e, hn, hj, hg₃, S₃⟩
  refine hg₃.next hA (hR pre F hj) S₃ (fun e' s₄ S₄ => ?_) (fun P r e' u s₄ L₄ G₄ hu hg₄ S₄ => ?_)
  · subst e'
    rw [List.append_nil] at e
    subst e
    exact wpAny_execs_nil (done F s₄ hj S₄)
  · subst e'
    refine wpAny_mono (turn pre P r u F L₄ G₄ s₄ e hu hj (S₄.perm (perm_swap3 F L₄ X))) (fun _ s₅ h₅ => ?_) fun _ _ x => x.elim
    refine wpAny_mono h₅ (fun f s₆ h₆ => ?_) fun _ _ x => x.elim
    have nx : (∃ F', J (pre ++ [P]) F' ∧ St b s₆ (F' ++ (L₄ ++ X)) (G₄ ++ G)) → ∃ m, m < n ∧ ∃ pre post F L₂ G₂, Ps = pre ++ post ∧ post.length = m ∧ J pre F ∧ Gives prog w b Lr d it post L₂ G₂ ∧ St b s₆ (L₂ ++ (F ++ X)) (G₂ ++ G) := by
      rintro ⟨F', hj', S'⟩
      exact ⟨r.length, by simp only [List.length_cons] at hn; omega, pre ++ [P], r, F', L₄, G₄, by rw [e]; simp, rfl, hj', hg₄, S'.perm (perm_swap3 L₄ F' X)⟩
    cases f with
    | next => exact nx h₆
    | cont => exact nx h₆
    | brk => exact h₆
    | ret v => exact h₆

/-- a while by a measure -/
theorem r_while {test : Expr} {body : List Stmt} {pos : Pos} {Q : Flow → Shared → Prop} (I : Nat → Shared → Prop) (n : Nat) (h : I n s)
    (turn : ∀ n s, I n s → wpAny (model prog w) A (isTrue test env (eval test env)) (fun c s₂ => if c = true then wpAny (model prog w) A (execs body env) (Turn Q fun s₃ => ∃ m, m < n ∧ I m s₃) NoE s₂ else Q .next s₂) NoE s) :
    wpAny (model prog w) A (exec (.While test body [] pos) env) Q E s := by
  refine wpAny_While (codeAny_whileLoop I (fun n s hi => ?_) n h)
  refine wpAny_mono (turn n s hi) (fun c s₂ h₂ => ?_) fun _ _ x => x.elim
  cases c with
  | true =>
    rw [if_pos rfl] at h₂
    show wpAny _ _ _ _ _ _
    refine wpAny_mono h₂ (fun f s₃ h₃ => ?_) fun _ _ x => x.elim
    cases f <;> exact h₃
  | false =>
    rw [if_neg Bool.false_ne_true] at h₂
    exact wpAny_execs_nil h₂
end
end Mine

-- part LCc
open PySem PySem.W PySem.W.X PyProof.Rows PySem.Calls
set_option Elab.async false
set_option maxRecDepth 100000
set_option maxHeartbeats 1000000
namespace Mine

section
variable {prog : Program} {w : World} {A : Around} {E : Value → Shared → Prop} {b s : Shared} {L L' X : Ledger} {G : GLedger} {env : Env} {Lr : Ledger} {d : Nat} {mg mb : Str → Option Value} {names : List Str}

abbrev testsOf (ifs : List Expr) (env : Env) : Sem Bool := forIn ifs true fun c r => if r = true then do let ok ← isTrue c env (eval c env); pure (ForInStep.yield ok) else pure (ForInStep.yield r)

/-- a comprehension over whatever is iterable -/
theorem comp_core {v₀ : Value} {Ps : List VP} {L₁ F₀ : Ledger} {G₁ : GLedger} {elt iter : Expr} {x : Str} {px pos pos' : Pos} {ifs : List Expr} {scope : Scope} {cl : List (Str × Addr)} {use : Option (Value → Sem Unit)} {Q : Value → Shared → Prop}
    (J : List VP → List Value → Ledger → Prop)
    (hsrc : GivesI prog w b Lr d v₀ Ps L₁ G₁) (hA : Ar A d)
    (hiter : wpAny (model prog w) A (eval iter env) (fun v s₁ => v = v₀ ∧ St b s₁ (L₁ ++ (F₀ ++ X)) (G₁ ++ G)) NoE s)
    (h0 : J [] [] F₀) (hR : ∀ pre acc F, J pre acc F → ∀ p ∈ Lr, p ∈ F ++ X) (hz : ∀ pre acc F, J pre acc F → acc.length ≤ pre.length) (hPs : Ps.length ≤ sizeLine)
    (turn : ∀ pre P r u acc F C D L₂ G₂ s, Ps = pre ++ P :: r → P u → J pre acc F → St b s ((C, frC [(x, vE u)]) :: (D, lstV acc) :: (F ++ (L₂ ++ X))) (G₂ ++ G) →
      wpAny (model prog w) A (testsOf ifs (compEnvC scope cl C env)) (fun ok s₂ =>
        if ok = true then wpAny (model prog w) A (eval elt (compEnvC scope cl C env)) (fun y s₃ => ∃ F', J (pre ++ [P]) (acc ++ [y]) F' ∧ St b s₃ ((C, frC [(x, vE u)]) :: (D, lstV acc) :: (F' ++ (L₂ ++ X))) (G₂ ++ G)) NoE s₂
        else ∃ F', J (pre ++ [P]) acc F' ∧ St b s₂ ((C, frC [(x, vE u)]) :: (D, lstV acc) :: (F' ++ (L₂ ++ X))) (G₂ ++ G)) NoE s)
    (hfin : ∀ acc F C D s', J Ps acc F → St b s' ((C, frC []) :: (D, lstV acc) :: (F ++ X)) G → compPost (model prog w) A E use Q (.ref D) C (.ok .next) s')
    (hclos : closureFor scope env = pure cl) (hkind : scope.kind = .function) (hnames : ∀ y ∈ scope.names, y.2 = .local → scope.names.lookup y.1 = some .local)
    (hcell : ∀ y ∈ scope.names, y.2 ≠ .cell) (hx : scope.names.lookup x = some .local) (hs : ∀ v, foldedSetIterable iter env v = pure v) :
    wpAny (model prog w) A (comprehension (.ListComp elt [⟨.Name x px, iter, ifs, 0⟩] scope pos') scope env pos (newList []) false (eval iter env) use) Q E s := by
  refine wpAny_comprehension_free (g := ⟨.Name x px, iter, ifs, 0⟩) (gs := []) rfl hs hclos hkind hnames ?_
  refine wpAny_mono hiter (fun v s₁ h₁ => ?_) fun _ _ x => x.elim
  obtain ⟨rfl, S₁⟩ := h₁
  refine hsrc A _ _ _ _ _ hA (hR [] [] F₀ h0) S₁ fun it s₂ L₂ G₂ hg hself S₂ => ?_
  refine r_newList S₂ lstV_mk fun D s₃ S₃ => ?_
  refine wpAny_newFunctionEnv (scope := scope) (binds := []) hcell (fun y hy => nomatch hy) (fun h' hn hsb => ?_) hkind
  obtain ⟨oC, hoC, hcC⟩ := frC_of (fl := []) hn (fun p hp => nomatch hp)
  have S₄ : St b { s₃ with heap := h', toks := s₃.toks + ([] : List (Str × Value)).length } ((s₃.heap.objs.size, frC []) :: (D, lstV []) :: (L₂ ++ (F₀ ++ X))) (G₂ ++ G) :=
    S₃.new (heap_get_size _) (fun a o e => hsb.extBut a o (Nat.ne_of_lt (Heap.lt_size e)) (Heap.get?_push_of_some _ e)) hoC hcC
  generalize hC : s₃.heap.objs.size = C at S₄
  show codeAny _ A (.compStart _ 0 it (.ref D) (compEnvC scope cl C env)) (compPost _ A E use Q (.ref D) C) _
  have S₅ : St b _ (L₂ ++ ((C, frC []) :: (D, lstV []) :: (F₀ ++ X))) (G₂ ++ G) := S₄.perm (by
    refine List.perm_middle.trans (.cons _ ?_)
    exact List.perm_middle)
  have loop : ∀ (it : Value) (s : Shared) (L₂ : Ledger) (G₂ : GLedger), Gives prog w b Lr d it Ps L₂ G₂ → St b s (L₂ ++ ((C, frC []) :: (D, lstV []) :: (F₀ ++ X))) (G₂ ++ G) →
      codeAny (model prog w) A (.compLoop (.ListComp elt [⟨.Name x px, iter, ifs, 0⟩] scope pos') 0 it (.ref D) (compEnvC scope cl C env)) (compPost (model prog w) A E use Q (.ref D) C) s := by
    intro it s L₂ G₂ hg S
    refine codeAny_compLoop_tests (fun n s => ∃ pre post acc F L₂ G₂, Ps = pre ++ post ∧ post.length = n ∧ J pre acc F ∧ Gives prog w b Lr d it post L₂ G₂ ∧ St b s (L₂ ++ ((C, frC []) :: (D, lstV acc) :: (F ++ X))) (G₂ ++ G)) ?_ Ps.length
      ⟨[], Ps, [], F₀, L₂, G₂, rfl, rfl, h0, hg, S⟩
    rintro n s₃ ⟨pre, post, acc, F, L₃, G₃, e, hn, hj, hg₃, S₃⟩
    refine hg₃.next hA (fun q hq => .tail _ (.tail _ (hR pre acc F hj q hq))) S₃ (fun e' s₄ S₄ => ?_) (fun P r e' u s₄ L₄ G₄ hu hg₄ S₄ => ?_)
    · subst e'
      rw [List.append_nil] at e
      subst e
      exact hfin acc F C D s₄ hj S₄
    · subst e'
      have S₅ : St b s₄ ((C, frC []) :: (D, lstV acc) :: (F ++ (L₄ ++ X))) (G₄ ++ G) := S₄.perm (by
        refine List.Perm.trans ?_ (List.perm_middle.symm)
        refine .cons _ ?_
        refine List.Perm.trans ?_ (List.perm_middle.symm)
        exact .cons _ (perm_swap3 F L₄ X))
      refine wpAny_assign_Name (r_store (P := vE u) S₅ (.head _) rfl .nil .head (fun s₅ S₆ => ?_) (lookup_relabel_local hx) (by show (scope.kind == .class || (scope.kind == .module && _)) = false; rw [hkind]; rfl))
      refine wpAny_mono (turn pre P r u acc F C D L₄ G₄ s₅ e hu hj S₆) (fun ok s₆ h₆ => ?_) fun _ _ x => x.elim
      have back : ∀ {acc' F' s}, St b s ((C, frC [(x, vE u)]) :: (D, lstV acc') :: (F' ++ (L₄ ++ X))) (G₄ ++ G) → St b s (L₄ ++ ((C, frC []) :: (D, lstV acc') :: (F' ++ X))) (G₄ ++ G) := fun S => by
        refine (S.less (.head _) .head fun o ho => frC_sub (fl' := []) (fun q hq => nomatch hq) ho).perm ?_
        refine List.perm_middle.trans (.cons _ ?_)
        refine List.perm_middle.trans (.cons _ ?_)
        exact perm_swap3 _ _ _
      cases ok with
      | true =>
        rw [if_pos rfl] at h₆ ⊢
        refine wpAny_mono h₆ (fun y s₇ h₇ => ?_) fun _ _ x => x.elim
        obtain ⟨F', hj', S₇⟩ := h₇
        have hlen : acc.length < sizeLine := by
          have h1 := hz pre acc F hj
          have h2 : Ps.length = pre.length + (r.length + 1) := by rw [e]; simp
          omega
        obtain ⟨_, hoD, nD, rfl⟩ := S₇.get (.tail _ (.head _))
        refine wpAny_list_append_plain (x := y) ⟨nD, hoD⟩ (fun h' hl hsb => ?_) (by simpa using Nat.le_of_lt hlen)
        obtain ⟨n', ho'⟩ := hl
        refine ⟨r.length, by simp only [List.length_cons] at hn; omega, pre ++ [P], r, acc ++ [y], F', L₄, G₄, by rw [e]; simp, rfl, hj', hg₄, back ?_⟩
        exact S₇.set (P' := lstV (acc ++ [y])) (.tail .head) ⟨_, .tail _ (.head _)⟩ hsb.extBut ho' ⟨n', by simp⟩
      | false =>
        rw [if_neg Bool.false_ne_true] at h₆ ⊢
        obtain ⟨F', hj', S₇⟩ := h₆
        exact ⟨r.length, by simp only [List.length_cons] at hn; omega, pre ++ [P], r, acc, F', L₄, G₄, by rw [e]; simp, rfl, hj', hg₄, back S₇⟩
  refine codeAny_compStart_list (loop it _ L₂ G₂ hg S₅) ?_
  exact hself A _ _ _ _ _ S₅ (loop it _ L₂ G₂ hg S₅)
end
end Mine

-- part LD
open PySem PySem.W PySem.W.X PyProof.Rows PySem.Calls PySem.Spec
set_option Elab.async false
set_option maxRecDepth 100000
set_option maxHeartbeats 1000000
namespace Mine

section
variable {prog : Program} {w : World} {A : Around} {E : Value → Shared → Prop} {b s : Shared} {L L' X : Ledger} {G : GLedger} {env : Env} {Lr : Ledger} {d : Nat} {mg mb : Str → Option Value} {names : List Str} {Q : Value → Shared → Prop}

theorem r_nameE {x : Str} {pos : Pos} {fl : List (Str × VP)} {v : Value} (S : St b s L G) (hf : (env.locals, frC fl) ∈ L) (hx : (x, vE v) ∈ fl) (h : Q v s)
    (hk : env.scope.kind = .function := by kernel_rfl) (hl : env.kindOf x = some .local := by kernel_rfl) (hd : (x == ("__debug__" : Str)) = false := by kernel_rfl) :
    wpAny (model prog w) A (eval (.Name x pos) env) Q E s := r_name S hf hx (fun _ e => e ▸ h) hk hl hd
theorem r_nameI {x : Str} {pos : Pos} {fl : List (Str × VP)} {i : Int} (S : St b s L G) (hf : (env.locals, frC fl) ∈ L) (hx : (x, vI i) ∈ fl) (h : ∀ t, Q (.int i t) s)
    (hk : env.scope.kind = .function := by kernel_rfl) (hl : env.kindOf x = some .local := by kernel_rfl) (hd : (x == ("__debug__" : Str)) = false := by kernel_rfl) :
    wpAny (model prog w) A (eval (.Name x pos) env) Q E s := r_name S hf hx (fun _ ⟨t, e⟩ => e ▸ h t) hk hl hd
theorem r_nameS {x : Str} {pos : Pos} {fl : List (Str × VP)} {y : Str} (S : St b s L G) (hf : (env.locals, frC fl) ∈ L) (hx : (x, vS y) ∈ fl) (h : ∀ t, Q (.str y t) s)
    (hk : env.scope.kind = .function := by kernel_rfl) (hl : env.kindOf x = some .local := by kernel_rfl) (hd : (x == ("__debug__" : Str)) = false := by kernel_rfl) :
    wpAny (model prog w) A (eval (.Name x pos) env) Q E s := r_name S hf hx (fun _ ⟨t, e⟩ => e ▸ h t) hk hl hd

/-! ints -/
theorem r_add {x y : Int} {t u : Tok} (S : St b s L G) (h : ∀ t s', St b s' L G → Q (.int (x + y) t) s') : wpAny (model prog w) A (binaryOp .Add (.int x t) (.int y u)) Q E s := PyProof.Rows.add_int (h _ _ (S.toks _))
theorem r_iadd {x y : Int} {t u : Tok} (S : St b s L G) (h : ∀ t s', St b s' L G → Q (.int (x + y) t) s') : wpAny (model prog w) A (inplaceOp .Add (.int x t) (.int y u)) Q E s := PyProof.Rows.iadd_int (h _ _ (S.toks _))
theorem r_sub {x y : Int} {t u : Tok} (S : St b s L G) (h : ∀ t s', St b s' L G → Q (.int (x - y) t) s') : wpAny (model prog w) A (binaryOp .Sub (.int x t) (.int y u)) Q E s := PyProof.Rows.sub_int (h _ _ (S.toks _))
theorem r_mod {x y : Int} {t u : Tok} (S : St b s L G) (hy : y ≠ 0) (h : ∀ t s', St b s' L G → Q (.int (x.fmod y) t) s') : wpAny (model prog w) A (binaryOp .Mod (.int x t) (.int y u)) Q E s := PyProof.Rows.mod_int hy (h _ _ (S.toks _))
theorem r_fdiv {x y : Int} {t u : Tok} (S : St b s L G) (hy : y ≠ 0) (hp : PylongRoom (model prog w) A s) (h : ∀ t s', St b s' L G → Q (.int (x.fdiv y) t) s') : wpAny (model prog w) A (binaryOp .FloorDiv (.int x t) (.int y u)) Q E s :=
  floordiv_int hy (h _ _ (S.toks _)) (.inr hp)
theorem r_pow {x n : Int} {t u : Tok} (S : St b s L G) (h0 : 0 ≤ n) (h1 : n ≤ 1000000) (hx : x.natAbs < 2 ^ 64) (h : ∀ t s', St b s' L G → Q (.int (x ^ n.toNat) t) s') : wpAny (model prog w) A (binaryOp .Pow (.int x t) (.int n u)) Q E s :=
  pow_int_small h0 h1 hx (h _ _ (S.toks _))
theorem r_lt {x y : Int} {t u : Tok} (h : Q (.bool (decide (x < y))) s) : wpAny (model prog w) A (compareOp .Lt (.int x t) (.int y u)) Q E s := PyProof.Rows.lt_int h
theorem r_gt {x y : Int} {t u : Tok} (h : Q (.bool (decide (y < x))) s) : wpAny (model prog w) A (compareOp .Gt (.int x t) (.int y u)) Q E s := PyProof.Rows.gt_int h
theorem r_eqI {x y : Int} {t u : Tok} (h : Q (.bool (x == y)) s) : wpAny (model prog w) A (compareOp .Eq (.int x t) (.int y u)) Q E s := PyProof.Rows.eq_int h

/-! texts -/
theorem r_addS {x y : Str} {t u : Tok} (S : St b s L G) (hz : x.length + y.length ≤ sizeLine) (h : ∀ t s', St b s' L G → Q (.str (x ++ y) t) s') : wpAny (model prog w) A (binaryOp .Add (.str x t) (.str y u)) Q E s :=
  PyProof.Rows.add_str (fun t' tk => h t' _ (S.toks tk)) hz
theorem r_eqS {x y : Str} {t u : Tok} (h : Q (.bool (x == y)) s) : wpAny (model prog w) A (compareOp .Eq (.str x t) (.str y u)) Q E s := PyProof.Rows.eq_str h
theorem r_neS {x y : Str} {t u : Tok} (h : Q (.bool (x != y)) s) : wpAny (model prog w) A (compareOp .NotEq (.str x t) (.str y u)) Q E s := PyProof.Rows.ne_str h
theorem r_strI {x : Int} {t : Tok} (S : St b s L G) (hx : x.natAbs.log2 < 1920) (h : ∀ t s', St b s' L G → Q (.str (toString x) t) s') : wpAny (model prog w) A (call (.type "str") [.int x t]) Q E s :=
  P.str_of_int hx (h _ _ (S.toks _))

/-! lists -/
theorem St.isLS (S : St b s L G) {l : Addr} {ys : List Str} (h : (l, lstS ys) ∈ L) : ∃ vs n, IsL s.heap l vs n ∧ StrsAre vs.toList ys :=
by
  obtain ⟨_, e, vs, n, rfl, hs⟩ := S.get h
  exact ⟨vs, n, e, hs⟩
theorem St.isLV (S : St b s L G) {l : Addr} {vs : List Value} (h : (l, lstV vs) ∈ L) : ∃ n, IsL s.heap l vs.toArray n :=
by
  obtain ⟨_, e, n, rfl⟩ := S.get h
  exact ⟨n, e⟩
theorem size_of {vs : Array Value} {ys : List Str} (h : StrsAre vs.toList ys) : vs.size = ys.length := by have := strsAre_len h; simpa using this

theorem r_lenS {l : Addr} {ys : List Str} (S : St b s L G) (hl : (l, lstS ys) ∈ L) (hz : ys.length ≤ sizeLine) (h : ∀ t s', St b s' L G → Q (.int ys.length t) s') : wpAny (model prog w) A (call (.builtin "len") [.ref l]) Q E s := by
  obtain ⟨vs, n, hv, hs⟩ := S.isLS hl
  refine call_len_list hv.isList ?_ ?_
  · rw [size_of hs]; have : sizeLine < 2 ^ 63 := by decide
    omega
  · rw [size_of hs]; exact h _ _ (S.toks _)
theorem r_lenV {l : Addr} {vs : List Value} (S : St b s L G) (hl : (l, lstV vs) ∈ L) (hz : vs.length ≤ sizeLine) (h : ∀ t s', St b s' L G → Q (.int vs.length t) s') : wpAny (model prog w) A (call (.builtin "len") [.ref l]) Q E s := by
  obtain ⟨n, hv⟩ := S.isLV hl
  refine call_len_list hv.isList ?_ ?_
  · rw [List.size_toArray]; have : sizeLine < 2 ^ 63 := by decide
    omega
  · rw [List.size_toArray]; exact h _ _ (S.toks _)

theorem r_itemS {value slice : Expr} {l : Addr} {ys : List Str} {k : Int} {u : Tok} {y : Str} (S : St b s L G) (hl : (l, lstS ys) ∈ L) (h0 : 0 ≤ k) (hz : k < 2 ^ 63) (hy : ys[k.toNat]? = some y) (h : ∀ t, Q (.str y t) s)
    (hs : subscripted slice false (.ref l) (.int k u) = operate [.ref l, .int k u] (getItem (.ref l) (.int k u)) := by kernel_rfl) :
    wpAny (model prog w) A (subscriptTail value slice (.ref l) (.int k u)) Q E s := by
  obtain ⟨vs, n, hv, hst⟩ := S.isLS hl
  obtain ⟨t, ht⟩ := strsAre_get hst hy
  exact tail_any hv.isList.typeIs slot_list_getitem.lookup (wpAny_getItem_list hv.isList h0 hz (by rw [← Array.getElem?_toList]; exact ht) (h t)) hs
theorem r_itemV {value slice : Expr} {l : Addr} {vs : List Value} {k : Int} {u : Tok} {v : Value} (S : St b s L G) (hl : (l, lstV vs) ∈ L) (h0 : 0 ≤ k) (hz : k < 2 ^ 63) (hy : vs[k.toNat]? = some v) (h : Q v s)
    (hs : subscripted slice false (.ref l) (.int k u) = operate [.ref l, .int k u] (getItem (.ref l) (.int k u)) := by kernel_rfl) :
    wpAny (model prog w) A (subscriptTail value slice (.ref l) (.int k u)) Q E s := by
  obtain ⟨n, hv⟩ := S.isLV hl
  exact tail_any hv.isList.typeIs slot_list_getitem.lookup (wpAny_getItem_list hv.isList h0 hz (by simpa using hy) h) hs

/-- a method of a list's, of one argument -/
theorem r_meth1 {o e : Expr} {name : Str} {apos pos : Pos} {id : String} (slot : Slot "list" name id) (hty : typeOf (.builtin id) = pure (.type "method_descriptor"))
    (h : wpAny (model prog w) A (eval o env) (fun ov s₁ => ∃ D ob, ov = .ref D ∧ s₁.heap.get? D = some ob ∧ ob.cls = .type "list" ∧ ob.dict = none ∧ wpAny (model prog w) A (callWith pos (.builtin id) [.ref D] [(false, eval e env)] []) Q E s₁) E s)
    (hbase : attributeBase o name env (eval o env) = eval o env := by kernel_rfl) (hline : (apos.endLine == pos.line) = true := by kernel_rfl) (htrees : backTo pos (starEach [e] env) = [(false, eval e env)] := by kernel_rfl) :
    wpAny (model prog w) A (eval (.Call (.Attribute o name apos) [e] [] pos) env) Q E s := by
  refine wpAny_Call_method (T := "list") (id := id) hbase (by rw [htrees]; rfl) hline F.plainAttrs_list slot hty (wpAny_mono h (fun ov s₁ h₁ => ?_) fun _ _ x => x)
  obtain ⟨D, ob, rfl, ho, hc, hd, h₂⟩ := h₁
  refine ⟨⟨ob, ho, hc⟩, fun a e => ?_, by rw [htrees]; exact h₂⟩
  cases e
  exact ⟨ob, ho, hd⟩
end
end Mine

-- part LD2
open PySem PySem.W PySem.W.X PyProof.Rows PySem.Calls PySem.Spec PySem.SeqAt
set_option Elab.async false
set_option maxRecDepth 100000
set_option maxHeartbeats 1000000
namespace Mine

/-- l[lo:hi] -/
def pick {α : Type} (l : List α) (lo hi : Option Int) : List α := (l.drop (kms_lo lo l.length)).take (kms_hi hi l.length - kms_lo lo l.length)
theorem strs_drop {vs : List Value} {ys : List Str} (h : StrsAre vs ys) : ∀ n, StrsAre (vs.drop n) (ys.drop n) := by
  induction h with
  | nil => intro n; simpa using StrsAre.nil
  | cons y t h ih => intro n; cases n with
    | zero => exact .cons y t h
    | succ n => simpa using ih n
theorem strs_take {vs : List Value} {ys : List Str} (h : StrsAre vs ys) : ∀ n, StrsAre (vs.take n) (ys.take n) := by
  induction h with
  | nil => intro n; simpa using StrsAre.nil
  | cons y t h ih => intro n; cases n with
    | zero => exact .nil
    | succ n => simpa using StrsAre.cons y t (ih n)

section
variable {prog : Program} {w : World} {A : Around} {E : Value → Shared → Prop} {b s : Shared} {L L' X : Ledger} {G : GLedger} {env : Env} {Lr : Ledger} {d : Nat} {mg mb : Str → Option Value} {names : List Str} {Q : Value → Shared → Prop}

/-- a cut of a list of texts -/
theorem r_slcS {value : Expr} {lower upper : Option Expr} {p pos : Pos}
    (h : wpAny (model prog w) A (eval value env) (fun o s₁ => ∃ l, o = .ref l ∧ wpAny (model prog w) A (evalPart lower env) (fun vl s₂ => wpAny (model prog w) A (evalPart upper env) (fun vu s₃ =>
      ∃ lo hi ys L G, IsPart vl lo ∧ IsPart vu hi ∧ St b s₃ L G ∧ (l, lstS ys) ∈ L ∧ ys.length ≤ sizeLine ∧ ∀ a s', St b s' ((a, lstS (pick ys lo hi)) :: L) G → Q (.ref a) s') E s₂) E s₁) E s)
    (ht : ∀ o r, letTemporaryGo value o r = pure () := by intro _ _; kernel_rfl) :
    wpAny (model prog w) A (eval (.Subscript value (.Slice lower upper none p) pos) env) Q E s := by
  refine wpAny_Subscript_list_slice (wpAny_mono h (fun o s₁ h₁ => ?_) fun _ _ x => x) ht
  obtain ⟨l, rfl, h₁⟩ := h₁
  refine wpAny_mono h₁ (fun vl s₂ h₂ => wpAny_mono h₂ (fun vu s₃ h₃ => ?_) fun _ _ x => x) fun _ _ x => x
  obtain ⟨lo, hi, ys, L, G, hlo, hhi, S, hl, hz, hQ⟩ := h₃
  obtain ⟨vs, n, hv, hs⟩ := S.isLS hl
  refine ⟨l, vs, lo, hi, rfl, hv.isList, by rw [size_of hs]; exact hz, hlo, hhi, ?_⟩
  have S₁ := S.push { cls := .type "slice", data := .fields #[vl, vu, .none] } s₃.toks
  have e : s₃.heap.objs.size + 1 = (s₃.heap.push { cls := .type "slice", data := .fields #[vl, vu, .none] }).objs.size := by rw [Heap.size_push]
  rw [e]
  refine hQ _ _ (S₁.alloc (o := { cls := .type "list", data := .seq (slicePick vs lo hi none) }) ⟨_, 0, rfl, ?_⟩)
  rw [kms_pick_eq]
  have hsz := strsAre_len hs
  show StrsAre (kms_pick vs.toList lo hi) (pick ys lo hi)
  unfold kms_pick pick
  rw [hsz]
  exact strs_take (strs_drop hs _) _

/-! append, extend -/
theorem r_appS {pos : Pos} {l : Addr} {ys : List Str} {x : Sem Value} (h : wpAny (model prog w) A x (fun v s₁ => ∃ y t L L' G, v = .str y t ∧ St b s₁ L G ∧ (l, lstS ys) ∈ L ∧ Upd L l (lstS (ys ++ [y])) L' ∧ ys.length ≤ sizeLine ∧ ∀ s', St b s' L' G → Q .none s') E s) :
    wpAny (model prog w) A (callWith pos (.builtin "list.append") [.ref l] [(false, x)] []) Q E s := by
  refine P.append_list (wpAny_mono h (fun v s₁ h₁ => ?_) fun _ _ x => x)
  obtain ⟨y, t, L, L', G, rfl, S, hl, hu, hz, hQ⟩ := h₁
  obtain ⟨vs, n, hv, hs⟩ := S.isLS hl
  refine ⟨vs, n, by rw [size_of hs]; exact hz, hv, ?_⟩
  refine hQ _ (S.set hu ⟨_, hl⟩ (Heap.SameBut.update ..).extBut (hv.update _) ⟨_, _, rfl, ?_⟩)
  simpa using hs.append' (.cons y t .nil)
theorem r_appV {pos : Pos} {l : Addr} {vs : List Value} {x : Sem Value} (h : wpAny (model prog w) A x (fun v s₁ => ∃ L L' G, St b s₁ L G ∧ (l, lstV vs) ∈ L ∧ Upd L l (lstV (vs ++ [v])) L' ∧ vs.length ≤ sizeLine ∧ ∀ s', St b s' L' G → Q .none s') E s) :
    wpAny (model prog w) A (callWith pos (.builtin "list.append") [.ref l] [(false, x)] []) Q E s := by
  refine P.append_list (wpAny_mono h (fun v s₁ h₁ => ?_) fun _ _ x => x)
  obtain ⟨L, L', G, S, hl, hu, hz, hQ⟩ := h₁
  obtain ⟨n, hv⟩ := S.isLV hl
  refine ⟨vs.toArray, n, by simpa using hz, hv, ?_⟩
  refine hQ _ (S.set hu ⟨_, hl⟩ (Heap.SameBut.update ..).extBut (hv.update _) ?_)
  exact ⟨_, by rw [show (vs ++ [v]).toArray = vs.toArray.push v by simp]⟩
theorem r_extS {pos : Pos} {l : Addr} {ys : List Str} {x : Sem Value} (h : wpAny (model prog w) A x (fun v s₁ => ∃ l' zs L L' G, v = .ref l' ∧ St b s₁ L G ∧ (l, lstS ys) ∈ L ∧ (l', lstS zs) ∈ L ∧ Upd L l (lstS (ys ++ zs)) L' ∧ ys.length + zs.length ≤ sizeLine ∧ ∀ s', St b s' L' G → Q .none s') E s) :
    wpAny (model prog w) A (callWith pos (.builtin "list.extend") [.ref l] [(false, x)] []) Q E s := by
  refine P.extend_list (wpAny_mono h (fun v s₁ h₁ => ?_) fun _ _ x => x)
  obtain ⟨l', zs, L, L', G, rfl, S, hl, hl', hu, hz, hQ⟩ := h₁
  obtain ⟨vs, n, hv, hs⟩ := S.isLS hl
  obtain ⟨us, m, hv', hs'⟩ := S.isLS hl'
  have h1 := size_of hs
  have h2 := size_of hs'
  refine ⟨l', vs, us, n, m, by omega, by omega, PyProof.Rows.extend_door (by omega), rfl, hv, hv', ?_⟩
  refine hQ _ (S.set hu ⟨_, hl⟩ (Heap.SameBut.update ..).extBut (hv.update _) ⟨_, _, rfl, ?_⟩)
  simpa using hs.append' hs'
/-- rows.append(e), rows.extend(e) as statements -/
theorem r_stmtE {e : Expr} {pos : Pos} {Q : Flow → Shared → Prop} (h : wpAny (model prog w) A (eval e env) (fun v s' => v = .none ∧ Q .next s') E s)
    (hi : interactive env = false := by kernel_rfl) (hs : swapsWith e none pos.line env = pure false := by kernel_rfl) : wpAny (model prog w) A (exec (.Expr e pos) env) Q E s :=
  wpAny_Expr (wpAny_mono h (fun v s' h' => by obtain ⟨rfl, h'⟩ := h'; exact h') fun _ _ x => x) hi hs

/-! two lists of texts compared -/
theorem reads_strs {h : Heap} : ∀ {vs : List Value} {ys : List Str}, StrsAre vs ys → ReadsAll h vs (ys.map PyData.str) []
  | _, _, .nil => .nil
  | _, _, .cons y t hr => .cons (.str y t) (reads_strs hr)
theorem reads_strsL {h : Heap} {a : Addr} {vs : Array Value} {n : Nat} {ys : List Str} (hl : IsL h a vs n) (hs : StrsAre vs.toList ys) : Reads h (.ref a) (.list (ys.map PyData.str)) [a] := by
  obtain ⟨l⟩ := vs
  exact .list hl rfl rfl (reads_strs hs)
/-- texts of real signs -/
def OkS (ys : List Str) : Prop := ∀ y ∈ ys, PyData.strOk y = true
theorem canLay_strs : ∀ ys : List Str, OkS ys → PyData.canLayAll0 (ys.map PyData.str) = true
  | [], _ => rfl
  | y :: r, h => by simp only [List.map_cons, PyData.canLayAll0, PyData.canLay0, canLay_strs r (fun z hz => h z (.tail _ hz)), h y (.head _), Bool.and_self]
theorem depth_strs : ∀ ys : List Str, PyData.depthAll (ys.map PyData.str) ≤ 1
  | [] => by simp [PyData.depthAll]
  | _ :: r => by
    simp only [List.map_cons, PyData.depthAll, PyData.depth]
    have := depth_strs r
    omega
theorem shaped_strs {ys : List Str} (h : OkS ys) : shaped (.list (ys.map PyData.str)) = true := by
  have h1 := depth_strs ys
  have h2 : PyData.depth (.list (ys.map PyData.str)) ≤ 64 := by simp only [PyData.depth]; omega
  simp only [shaped, Bool.and_eq_true, decide_eq_true_eq]
  exact ⟨by simp only [PyData.canLay0]; exact canLay_strs ys h, h2⟩
theorem noMix_strs : ∀ ns ms : List Str, noMixAll (ns.map PyData.str) (ms.map PyData.str) = true
  | [], [] => rfl
  | [], _ :: _ => rfl
  | _ :: _, [] => rfl
  | _ :: r, _ :: q => by simp only [List.map_cons, noMixAll, noMix, noMix_strs r q, Bool.and_self]
theorem same_strs : ∀ ns ms : List Str, PySem.Spec.sameAll (ns.map PyData.str) (ms.map PyData.str) = decide (ns = ms)
  | [], [] => by simp [PySem.Spec.sameAll]
  | [], _ :: _ => by simp [PySem.Spec.sameAll]
  | _ :: _, [] => by simp [PySem.Spec.sameAll]
  | n :: r, k :: q => by
    simp only [List.map_cons, PySem.Spec.sameAll, PySem.Spec.same, same_strs r q]
    by_cases h : n = k <;> simp [h]
theorem r_eqLS {l l' : Addr} {ys zs : List Str} (S : St b s L G) (hl : (l, lstS ys) ∈ L) (hl' : (l', lstS zs) ∈ L) (ho : OkS ys) (ho' : OkS zs) (hu : A.units + 64 < cLine) (h : Q (.bool (decide (ys = zs))) s) : wpAny (model prog w) A (compareOp .Eq (.ref l) (.ref l')) Q E s := by
  obtain ⟨vs, n, hv, hs⟩ := S.isLS hl
  obtain ⟨us, m, hv', hs'⟩ := S.isLS hl'
  exact eq_dataH_same (reads_strsL hv hs) (reads_strsL hv' hs') (shaped_strs ho) (shaped_strs ho') hu (by simp only [noMix]; exact noMix_strs ys zs) (by simp only [PySem.Spec.same]; rw [same_strs]; exact h)
theorem r_neLS {l l' : Addr} {ys zs : List Str} (S : St b s L G) (hl : (l, lstS ys) ∈ L) (hl' : (l', lstS zs) ∈ L) (ho : OkS ys) (ho' : OkS zs) (hu : A.units + 64 < cLine) (h : Q (.bool (!decide (ys = zs))) s) : wpAny (model prog w) A (compareOp .NotEq (.ref l) (.ref l')) Q E s := by
  obtain ⟨vs, n, hv, hs⟩ := S.isLS hl
  obtain ⟨us, m, hv', hs'⟩ := S.isLS hl'
  exact ne_dataH_same (reads_strsL hv hs) (reads_strsL hv' hs') (shaped_strs ho) (shaped_strs ho') hu (by simp only [noMix]; exact noMix_strs ys zs) (by simp only [PySem.Spec.same]; rw [same_strs]; exact h)
end
end Mine

-- part LE
open PySem PySem.W PySem.W.X PyProof.Rows PySem.Calls PySem.Spec PySem.SeqAt
set_option Elab.async false
set_option maxRecDepth 100000
set_option maxHeartbeats 1000000
namespace Mine

section
variable {prog : Program} {w : World} {A : Around} {E : Value → Shared → Prop} {b s : Shared} {L L' X : Ledger} {G : GLedger} {env : Env} {Lr : Ledger} {d : Nat} {mg mb : Str → Option Value} {names : List Str} {Q : Value → Shared → Prop}

def vals (binds : List (Str × Value)) : List (Str × VP) := binds.map fun p => (p.1, vE p.2)

/-- a def of the text's, called -/
theorem r_callDef {f : Addr} {name : Str} {params : Arguments} {body : List Stmt} {scope : Scope} {cd : Value} {vs : List Value} (binds : List (Str × Value)) (B : Bs b mg mb names) (F : FnAt b mg f name params body scope cd) (S : St b s L G) (hroom : A.depth < recursionLimit)
    (hbind : ∀ pm doc, bindArgs (docDef name params body scope pm cd doc) ⟨vs, []⟩ = pure binds)
    (hloc : ∀ p ∈ binds, scope.names.lookup p.1 = some .local) (hlk : ∀ p ∈ binds, binds.reverse.lookup p.1 = some p.2)
    (h : ∀ C s', St b s' ((C, frC (vals binds)) :: L) G → wpAny (model prog w) (A.deeper (envOf name scope C f cd)) (execs body (envOf name scope C f cd)) (fun fl s'' => Q (match fl with | .ret v => v | _ => .none) s'') NoE s')
    (hco : scope.isCoroutine = false) (hgen : scope.isGenerator = false) (hk : scope.kind = .function) (hcell : ∀ y ∈ scope.names, y.2 ≠ .cell) :
    wpAny (model prog w) A (call (.ref f) vs) Q E s := by
  obtain ⟨o, pm, doc, ho, hd⟩ := F.obj
  refine wpAny_call (codeAny_call_function hroom (S.keep _ _ ho) hd hco hgen rfl (F.code.keeps S.keep) ?_)
  rw [hbind]
  refine wpAny_pure (wpAny_newFunctionEnv (scope := scope) (binds := binds) hcell hloc (fun h' hn hsb => ?_) hk)
  have hlim : h'.NoLimit := (B.nolimit.keeps S.keep).fresh _ hsb
  refine ⟨hlim, ?_⟩
  have hkp : ∀ a o, s.heap.get? a = some o → h'.get? a = some o := fun a o e => hsb.extBut a o (Nat.ne_of_lt (Heap.lt_size e)) (Heap.get?_push_of_some _ e)
  obtain ⟨oC, hoC, hcC⟩ := frC_of (fl := vals binds) hn (fun p hp => by
    obtain ⟨q, hq, rfl⟩ := List.mem_map.mp hp
    exact ⟨q.2, hlk q hq, rfl⟩)
  have S1 : St b { s with heap := h', toks := s.toks + binds.length } ((s.heap.objs.size, frC (vals binds)) :: L) G := S.new (heap_get_size _) hkp hoC hcC
  show codeAny _ _ (.func body (envOf name scope s.heap.objs.size f cd)) _ _
  refine codeAny_func (wpAny_mono (h _ _ S1) (fun fl s'' hq => hq) fun _ _ x => x.elim)

/-! ranges -/
def rngC (x y z : Int) : Cell := fun o => ∃ t u v, o = { cls := .type "range", data := .fields #[.int x t, .int y u, .int z v] }
def ritC (x left step : Int) : Cell := fun o => o = { cls := .type "range_iterator", data := .fields #[rawInt x, rawInt left, rawInt step] }
theorem r_range1 {n : Int} {t : Tok} (S : St b s L G) (h : ∀ a s', St b s' ((a, rngC 0 n 1) :: L) G → Q (.ref a) s') : wpAny (model prog w) A (call (.type "range") [.int n t]) Q E s :=
  call_range_1 (h _ _ (S.alloc ⟨_, _, _, rfl⟩ _))

/-- the rngI of a range -/
def rngI (x step : Int) (n : Nat) : List Int := (List.range n).map fun (i : Nat) => x + (i : Int) * step
theorem rngI_succ (x step : Int) (n : Nat) : rngI x step (n + 1) = x :: rngI (x + step) step n := by
  unfold rngI
  rw [List.range_succ_eq_map, List.map_cons, List.map_map]
  congr 1
  · simp
  · apply List.map_congr_left
    intro i _
    simp only [Function.comp]
    have : ((i.succ : Nat) : Int) = (i : Int) + 1 := by omega
    rw [this, Int.add_mul]
    omega

theorem gives_rit {I : Addr} {step : Int} : ∀ (n : Nat) (x : Int), Gives prog w b Lr d (.ref I) ((rngI x step n).map vI) [(I, ritC x n step)] [] := by
  intro n
  induction n with
  | zero =>
    intro x
    show Gives prog w b Lr d (.ref I) [] _ _
    unfold Gives
    intro A E s F GF Q hA hF S hQ
    obtain ⟨_, ho, rfl⟩ := S.get (.head _)
    exact wpAny_pyNext_range_end hA.handled ho (by simp) fun h' he => hQ _ (S.drop1 he)
  | succ n ih =>
    intro x
    rw [rngI_succ]
    intro A E s F GF Q hA hF S hQ
    obtain ⟨_, ho, rfl⟩ := S.get (.head _)
    refine wpAny_pyNext_range_item ho (by omega) fun h' hit hsb => ?_
    refine hQ _ _ _ _ ⟨_, rfl⟩ (ih (x + step)) (S.set (P' := ritC (x + step) n step) .head ⟨_, .head _⟩ hsb.extBut hit ?_ _)
    show _ = _
    have e : ((n + 1 : Nat) : Int) - 1 = (n : Int) := by omega
    rw [e]
theorem selfI_rit {I : Addr} {x l st : Int} : SelfI prog w b (.ref I) [(I, ritC x l st)] := fun A E s F GF Q S h => by
  obtain ⟨_, ho, rfl⟩ := S.get (.head _)
  exact wpAny_pyIter_rangeiter ho h
theorem givesI_rng {r : Addr} {x y z : Int} {n : Nat} (hr : (r, rngC x y z) ∈ Lr) (hsmall : Builtin.Range.small x y z = true) (hn : Builtin.Range.rangeSize x y z = n) : GivesI prog w b Lr d (.ref r) ((rngI x z n).map vI) [] [] := by
  intro A E s F GF Q hA hF S hQ
  obtain ⟨_, ho, t, u, v, rfl⟩ := S.get (hF _ hr)
  refine wpAny_pyIter_range ho hsmall ?_
  rw [hn]
  exact hQ _ _ _ _ (gives_rit n x) selfI_rit (S.alloc (P := ritC x n z) rfl)
end
end Mine

-- part LF
open PySem PySem.W PySem.W.X PyProof.Rows PySem.Calls PySem.Spec PySem.SeqAt
set_option Elab.async false
set_option maxRecDepth 100000
set_option maxHeartbeats 200000
namespace Mine

section
variable {prog : Program} {w : World} {A : Around} {E : Value → Shared → Prop} {b s : Shared} {L L' X : Ledger} {G : GLedger} {env : Env} {Lr : Ledger} {d : Nat} {mg mb : Str → Option Value} {names : List Str} {Q : Value → Shared → Prop}

/-! calls by name -/
theorem r_callB1 {x : Str} {e : Expr} {p pos : Pos} {id : String} (B : Bs b mg mb names) (S : St b s L G) (hv : bootBuiltins x = some (.builtin id))
    (h : wpAny (model prog w) A (eval e env) (fun v s₁ => wpAny (model prog w) A (call (.builtin id) [v]) Q E s₁) E s)
    (hfree : x ∉ names := by decide) (hn : x ≠ "__name__" := by decide) (hg : env.globals = mainGlobals := by kernel_rfl) (hb : env.builtins = builtinsNs := by kernel_rfl)
    (hk : env.scope.kind = .function := by kernel_rfl) (hx : env.kindOf x = some .globalImplicit := by kernel_rfl) (hd : (x == ("__debug__" : Str)) = false := by decide)
    (ht : backTo pos (starEach [e] env) = [(false, eval e env)] := by kernel_rfl) :
    wpAny (model prog w) A (eval (.Call (.Name x p) [e] [] pos) env) Q E s := by
  refine wpAny_Call_NameR (r_bname B S hv ?_ hfree hn hg hb hk hx hd)
  rw [ht]
  exact Calls.callWith_builtin rfl (Calls.evalArgs_plain (Calls.spliced_cons (wpAny_mono h (fun _ _ h₁ => Calls.spliced_nil h₁) fun _ _ e => e)))
theorem r_callT1 {x : Str} {e : Expr} {p pos : Pos} {T : String} (B : Bs b mg mb names) (S : St b s L G) (hv : bootBuiltins x = some (.type T))
    (h : wpAny (model prog w) A (eval e env) (fun v s₁ => wpAny (model prog w) A (call (.type T) [v]) Q E s₁) E s)
    (hfree : x ∉ names := by decide) (hn : x ≠ "__name__" := by decide) (hg : env.globals = mainGlobals := by kernel_rfl) (hb : env.builtins = builtinsNs := by kernel_rfl)
    (hk : env.scope.kind = .function := by kernel_rfl) (hx : env.kindOf x = some .globalImplicit := by kernel_rfl) (hd : (x == ("__debug__" : Str)) = false := by decide)
    (ht : backTo pos (starEach [e] env) = [(false, eval e env)] := by kernel_rfl) :
    wpAny (model prog w) A (eval (.Call (.Name x p) [e] [] pos) env) Q E s := by
  refine wpAny_Call_NameR (r_bname B S hv ?_ hfree hn hg hb hk hx hd)
  rw [ht]
  exact PyProof.Rows.callWith_type rfl (Calls.evalArgs_plain (Calls.spliced_cons (wpAny_mono h (fun _ _ h₁ => Calls.spliced_nil h₁) fun _ _ e => e)))
theorem r_callT3 {x : Str} {e₁ e₂ e₃ : Expr} {p pos : Pos} {T : String} (B : Bs b mg mb names) (S : St b s L G) (hv : bootBuiltins x = some (.type T))
    (h : wpAny (model prog w) A (eval e₁ env) (fun v₁ s₁ => wpAny (model prog w) A (eval e₂ env) (fun v₂ s₂ => wpAny (model prog w) A (eval e₃ env) (fun v₃ s₃ => wpAny (model prog w) A (call (.type T) [v₁, v₂, v₃]) Q E s₃) E s₂) E s₁) E s)
    (hfree : x ∉ names := by decide) (hn : x ≠ "__name__" := by decide) (hg : env.globals = mainGlobals := by kernel_rfl) (hb : env.builtins = builtinsNs := by kernel_rfl)
    (hk : env.scope.kind = .function := by kernel_rfl) (hx : env.kindOf x = some .globalImplicit := by kernel_rfl) (hd : (x == ("__debug__" : Str)) = false := by decide)
    (ht : backTo pos (starEach [e₁, e₂, e₃] env) = [(false, eval e₁ env), (false, eval e₂ env), (false, eval e₃ env)] := by kernel_rfl) :
    wpAny (model prog w) A (eval (.Call (.Name x p) [e₁, e₂, e₃] [] pos) env) Q E s := by
  refine wpAny_Call_NameR (r_bname B S hv ?_ hfree hn hg hb hk hx hd)
  rw [ht]
  exact PyProof.Rows.callWith_type rfl (Calls.evalArgs_plain (Calls.spliced_cons (wpAny_mono h (fun _ _ h₁ => Calls.spliced_cons (wpAny_mono h₁ (fun _ _ h₂ => Calls.spliced_cons (wpAny_mono h₂ (fun _ _ h₃ => Calls.spliced_nil h₃) fun _ _ e => e)) fun _ _ e => e)) fun _ _ e => e)))
/-- a def of two arguments, called by its name -/
theorem r_callD2 {x : Str} {e₁ e₂ : Expr} {p pos : Pos} {f : Addr} {params : Arguments} {body : List Stmt} {scope : Scope} {cd : Value} (B : Bs b mg mb names) (F : FnAt b mg f x params body scope cd) (S : St b s L G)
    (h : wpAny (model prog w) A (eval e₁ env) (fun v₁ s₁ => wpAny (model prog w) A (eval e₂ env) (fun v₂ s₂ => (∃ L G, St b s₂ L G) ∧ wpAny (model prog w) A (call (.ref f) [v₁, v₂]) Q E s₂) E s₁) E s)
    (hg : env.globals = mainGlobals := by kernel_rfl) (hk : env.scope.kind = .function := by kernel_rfl) (hx : env.kindOf x = some .globalImplicit := by kernel_rfl) (hd : (x == ("__debug__" : Str)) = false := by decide)
    (ht : backTo pos (starEach [e₁, e₂] env) = [(false, eval e₁ env), (false, eval e₂ env)] := by kernel_rfl) :
    wpAny (model prog w) A (eval (.Call (.Name x p) [e₁, e₂] [] pos) env) Q E s := by
  refine wpAny_Call_NameR (r_gname B S F.at_ ?_ hg hk hx hd)
  rw [ht]
  obtain ⟨o, pm, doc, ho, hdat⟩ := F.obj
  refine Calls.callWith_function (o := o) (fd := docDef x params body scope pm cd doc) (Calls.evalArgs_plain (Calls.spliced_cons (wpAny_mono h (fun _ _ h₁ => Calls.spliced_cons (wpAny_mono h₁ (fun _ _ h₂ => Calls.spliced_nil ?_) fun _ _ e => e)) fun _ _ e => e)))
  obtain ⟨⟨_, _, S₂⟩, h₂⟩ := h₂
  exact ⟨⟨S₂.keep _ _ ho, hdat⟩, h₂⟩

/-! a list of texts, written out -/
inductive Lits : List Expr → List Str → Prop
  | nil : Lits [] []
  | cons {y : Str} {k : Nat} {p : Pos} {r : List Expr} {ys : List Str} : Lits r ys → Lits (.Constant (.str y) k p :: r) (y :: ys)
theorem r_splS {pos : Pos} {elts : List Expr} {ys : List Str} (he : Lits elts ys) : ∀ {s : Shared} {Q : List Value → Shared → Prop}, St b s L G → (∀ vs s', StrsAre vs ys → St b s' L G → Q vs s') →
    wpAny (model prog w) A (spliced (backTo pos (starEach elts env))) Q E s := by
  induction he with
  | nil => intro s Q S h; exact Calls.spliced_nil (h _ _ .nil S)
  | @cons y k p r ys _ ih =>
    intro s Q S h
    show wpAny _ _ (spliced ((false, eval (.Constant (.str y) k p) env) :: backTo pos (starEach r env))) _ _ _
    refine Calls.spliced_cons (r_str S fun t s₁ S₁ => ?_)
    exact ih S₁ fun vs s' hs S' => h _ _ (.cons y t hs) S'
theorem r_listS {elts : List Expr} {pos : Pos} (ys : List Str) (S : St b s L G) (h : ∀ a s', St b s' ((a, lstS ys) :: L) G → Q (.ref a) s') (he : Lits elts ys := by repeat (first | exact Lits.nil | refine Lits.cons ?_)) (hz : ys.length ≤ sizeLine := by decide) :
    wpAny (model prog w) A (eval (.List elts pos) env) Q E s :=
  wpAny_List (r_splS he S fun vs s' hs S' => ⟨by rw [strsAre_len hs]; exact hz, h _ _ (S'.alloc (P := lstS ys) (lstS_mk hs))⟩)
end
end Mine

-- part PL
open PySem PySem.Builtin.Str PySem.W PySem.W.X PyProof.Rows PySem.Calls PySem.Spec PySem.SeqAt
set_option Elab.async false
set_option maxRecDepth 100000
set_option maxHeartbeats 400000
set_option linter.all false
namespace Mine

/-! texts as lists of signs -/
theorem str_ext {x y : Str} (h : x.cps.toList = y.cps.toList) : x = y := by
  cases x; cases y
  congr 1
  exact Array.toList_inj.mp h
theorem str_app (x y : Str) : (x ++ y).cps.toList = x.cps.toList ++ y.cps.toList := by
  show (x.cps ++ y.cps).toList = _
  simp
theorem str_len (x : Str) : x.length = x.cps.toList.length := by unfold Str.length; simp
theorem str_len_app (x y : Str) : (x ++ y).length = x.length + y.length := by rw [str_len, str_app, List.length_append, ← str_len, ← str_len]

theorem fm_range {α : Type} (l : List α) (a : Nat) : ∀ n, a + n ≤ l.length → (List.range n).filterMap (fun k => l[a + k]?) = (l.drop a).take n := by
  intro n
  induction n with
  | zero => intro _; simp
  | succ n ih =>
    intro h
    rw [List.range_succ, List.filterMap_append, ih (by omega), List.take_add_one]
    congr 1
    rw [List.getElem?_drop]
    rw [List.getElem?_eq_getElem (by omega)]
    simp [List.getElem?_eq_getElem (show a + n < l.length by omega)]

theorem slice_pre (x : Str) : Txt.slice x none (some 2) = ⟨(x.cps.toList.take 2).toArray⟩ := by
  have hi : strSliceIndices none (some 2) 1 x.length = List.range (min 2 x.length) := by
    unfold strSliceIndices sliceRange
    simp only [show (1 : Int) > 0 by decide, if_true, show ¬ ((2 : Int) < 0) by decide, if_false]
    by_cases h0 : x.length = 0
    · rw [h0]; rfl
    · rw [if_pos (by omega)]
      have e : ((max 0 (min 2 (x.length : Int)) - 0 + 1 - 1) / 1).toNat = min 2 x.length := by rw [Int.ediv_one]; omega
      rw [e]
      conv => rhs; rw [← List.map_id (List.range _)]
      apply List.map_congr_left
      intro k _
      simp
  unfold Txt.slice
  rw [hi]
  have hlen := str_len x
  split
  · rename_i h
    simp only [List.length_range, Bool.and_eq_true, beq_iff_eq] at h
    refine str_ext ?_
    rw [List.take_of_length_le (by omega)]
  · congr 2
    have := fm_range x.cps.toList 0 (min 2 x.length) (by omega)
    simp only [Nat.zero_add, List.drop_zero] at this
    simp only [← Array.getElem?_toList]
    rw [this]
    rw [List.take_eq_take_iff]
    omega
theorem slice_suf (x : Str) : Txt.slice x (some 2) none = ⟨(x.cps.toList.drop 2).toArray⟩ := by
  have hi : strSliceIndices (some 2) none 1 x.length = (List.range (x.length - 2)).map (2 + ·) := by
    unfold strSliceIndices sliceRange
    simp only [show (1 : Int) > 0 by decide, if_true, show ¬ ((2 : Int) < 0) by decide, if_false]
    by_cases h0 : 2 < x.length
    · rw [if_pos (by omega)]
      have e : (((x.length : Int) - max 0 (min 2 (x.length : Int)) + 1 - 1) / 1).toNat = x.length - 2 := by rw [Int.ediv_one]; omega
      rw [e]
      apply List.map_congr_left
      intro k _
      omega
    · rw [if_neg (by omega), show x.length - 2 = 0 by omega]
      rfl
  unfold Txt.slice
  rw [hi]
  have hlen := str_len x
  split
  · rename_i h
    simp only [List.length_map, List.length_range, Bool.and_eq_true, beq_iff_eq] at h
    refine str_ext ?_
    have : x.cps.toList.length = 0 := by omega
    rw [List.length_eq_zero_iff] at this
    rw [this]
    rfl
  · rw [List.filterMap_map]
    congr 2
    by_cases h2 : 2 ≤ x.length
    · have := fm_range x.cps.toList 2 (x.length - 2) (by omega)
      simp only [← Array.getElem?_toList]
      show List.filterMap (fun k => x.cps.toList[2 + k]?) _ = _
      rw [this, List.take_of_length_le (by rw [List.length_drop]; omega)]
    · rw [show x.length - 2 = 0 by omega, List.drop_of_length_le (by omega)]
      rfl

/-- a row of a two-sign head -/
theorem head2 {h y : Str} (hh : h.cps.toList.length = 2) : Txt.slice (h ++ y) none (some 2) = h := by
  rw [slice_pre]
  refine str_ext ?_
  rw [str_app]
  show ((h.cps.toList ++ y.cps.toList).take 2) = _
  rw [List.take_append_of_le_length (by omega), List.take_of_length_le (by omega)]
theorem cut_head {h y : Str} (hh : h.cps.toList.length = 2) : cutS (h ++ y) = y := by
  unfold cutS
  rw [slice_suf]
  refine str_ext ?_
  rw [str_app]
  show ((h.cps.toList ++ y.cps.toList).drop 2) = _
  rw [List.drop_append_of_le_length (by omega), List.drop_of_length_le (by omega)]
  rfl
theorem cut_len (x : Str) : (cutS x).length ≤ x.length := Txt.slice_le x _ _

theorem len_sp : ("  " : Str).cps.toList.length = 2 := by decide +kernel
theorem len_mi : ("- " : Str).cps.toList.length = 2 := by decide +kernel
theorem len_pl : ("+ " : Str).cps.toList.length = 2 := by decide +kernel
theorem keep_sp (tag y : Str) : keepS tag ("  " ++ y) = true := by unfold keepS; rw [head2 len_sp]; simp
theorem keep_mi1 (y : Str) : keepS (tagOf 1) ("- " ++ y) = true := by unfold keepS tagOf; rw [head2 len_mi]; simp
theorem keep_mi2 (y : Str) : keepS (tagOf 2) ("- " ++ y) = false := by unfold keepS tagOf; rw [head2 len_mi]; decide +kernel
theorem keep_pl1 (y : Str) : keepS (tagOf 1) ("+ " ++ y) = false := by unfold keepS tagOf; rw [head2 len_pl]; decide +kernel
theorem keep_pl2 (y : Str) : keepS (tagOf 2) ("+ " ++ y) = true := by unfold keepS tagOf; rw [head2 len_pl]; simp

theorem readS_nil (n : Int) : readS n [] = [] := rfl
theorem readS_app (n : Int) (xs ys : List Str) : readS n (xs ++ ys) = readS n xs ++ readS n ys := by unfold readS; rw [List.filter_append, List.map_append]
theorem readS_keep {n : Int} {x y : Str} (hk : keepS (tagOf n) x = true) (hc : cutS x = y) : readS n [x] = [y] := by unfold readS; simp [hk, hc]
theorem readS_drop {n : Int} {x : Str} (hk : keepS (tagOf n) x = false) : readS n [x] = [] := by unfold readS; simp [hk]
theorem readS_sp (n : Int) (y : Str) : readS n ["  " ++ y] = [y] := readS_keep (keep_sp _ _) (cut_head len_sp)
theorem readS_mi1 (y : Str) : readS 1 ["- " ++ y] = [y] := readS_keep (keep_mi1 _) (cut_head len_mi)
theorem readS_mi2 (y : Str) : readS 2 ["- " ++ y] = [] := readS_drop (keep_mi2 _)
theorem readS_pls1 (ys : List Str) : readS 1 (ys.map fun y : Str => ("+ " : Str) ++ y) = [] := by
  induction ys with
  | nil => rfl
  | cons y r ih => rw [List.map_cons, ← List.singleton_append, readS_app, ih, readS_drop (keep_pl1 y)]; rfl
theorem readS_pls2 (ys : List Str) : readS 2 (ys.map fun y : Str => ("+ " : Str) ++ y) = ys := by
  induction ys with
  | nil => rfl
  | cons y r ih => rw [List.map_cons, ← List.singleton_append, readS_app, ih, readS_keep (keep_pl2 y) (cut_head len_pl)]; rfl

/-! the delta -/
def oddL : List Str := ["?  ^", "", "-", " ", "+x", " -", "x  "]
theorem odd_read : ∀ y ∈ oddL, readS 1 [y] = [] ∧ readS 2 [y] = [] := by decide +kernel
/-- where row next lies in new, from k on (the end: nowhere) -/
def dFar (new : List Str) (row : Str) (k : Nat) : Nat := k + ((new.drop k).takeWhile (· != row)).length
def dStep (new : List Str) (st : List Str × Nat) (row : Str) : List Str × Nat :=
  if dFar new row st.2 < new.length then (st.1 ++ ((new.drop st.2).take (dFar new row st.2 - st.2)).map (fun y : Str => ("+ " : Str) ++ y) ++ ["  " ++ row], dFar new row st.2 + 1)
  else (st.1 ++ ["- " ++ row] ++ [oddL.getD ((st.1.length + 1) % 7) ""], st.2)
def dRun (old new : List Str) : List Str × Nat := old.foldl (dStep new) ([], 0)
def deltaS (old new : List Str) : List Str := (dRun old new).1 ++ (new.drop (dRun old new).2).map (fun y : Str => ("+ " : Str) ++ y)

theorem takeWhile_take {α : Type} (p : α → Bool) : ∀ l : List α, l.take (l.takeWhile p).length = l.takeWhile p
  | [] => rfl
  | a :: r => by
    by_cases h : p a = true
    · rw [List.takeWhile_cons_of_pos h]; simp [takeWhile_take p r]
    · rw [List.takeWhile_cons_of_neg h]; rfl
theorem takeWhile_at {α : Type} (p : α → Bool) : ∀ l : List α, (l.takeWhile p).length < l.length → ∃ a, l[(l.takeWhile p).length]? = some a ∧ p a = false
  | [], h => by simp at h
  | a :: r, h => by
    by_cases hp : p a = true
    · rw [List.takeWhile_cons_of_pos hp] at h ⊢
      simp only [List.length_cons] at h ⊢
      simpa using takeWhile_at p r (by omega)
    · rw [List.takeWhile_cons_of_neg hp]
      exact ⟨a, rfl, by simpa using hp⟩
theorem takeWhile_in {α : Type} (p : α → Bool) : ∀ (l : List α) (j : Nat), j < (l.takeWhile p).length → ∃ a, l[j]? = some a ∧ p a = true
  | [], j, h => by simp at h
  | a :: r, j, h => by
    by_cases hp : p a = true
    · rw [List.takeWhile_cons_of_pos hp] at h
      cases j with
      | zero => exact ⟨a, rfl, hp⟩
      | succ j => simpa using takeWhile_in p r j (by simpa using h)
    · rw [List.takeWhile_cons_of_neg hp] at h
      simp at h
theorem dFar_ge (new : List Str) (row : Str) (k : Nat) : k ≤ dFar new row k := Nat.le_add_right _ _
theorem dFar_le {new : List Str} {row : Str} {k : Nat} (hk : k ≤ new.length) : dFar new row k ≤ new.length := by
  have := (List.takeWhile_prefix (· != row) (l := new.drop k)).length_le
  rw [List.length_drop] at this
  unfold dFar; omega
theorem dFar_in {new : List Str} {row : Str} {k j : Nat} (hk : k ≤ new.length) (h1 : k ≤ j) (h2 : j < dFar new row k) : j < new.length ∧ ∃ y, new[j]? = some y ∧ (y != row) = true := by
  have h3 := dFar_le (row := row) hk
  obtain ⟨y, hy, hp⟩ := takeWhile_in (· != row) (new.drop k) (j - k) (by unfold dFar at h2; omega)
  rw [List.getElem?_drop, show k + (j - k) = j by omega] at hy
  exact ⟨by omega, y, hy, hp⟩
theorem dFar_at {new : List Str} {row : Str} {k : Nat} (h : dFar new row k < new.length) : new[dFar new row k]? = some row := by
  obtain ⟨y, hy, hp⟩ := takeWhile_at (· != row) (new.drop k) (by rw [List.length_drop]; unfold dFar at h; omega)
  rw [List.getElem?_drop] at hy
  unfold dFar
  rw [hy]
  simp only [bne_eq_false_iff_eq] at hp
  rw [hp]

theorem odd_at (k : Nat) : oddL.getD (k % 7) "" ∈ oddL ∧ oddL[k % 7]? = some (oddL.getD (k % 7) "") := by
  have h : k % 7 < oddL.length := Nat.mod_lt _ (by decide)
  rw [List.getD_eq_getElem?_getD, List.getElem?_eq_getElem h]
  exact ⟨List.getElem_mem h, rfl⟩

/-- what the run has read so far -/
structure DInv (pre new : List Str) (st : List Str × Nat) : Prop where
  le : st.2 ≤ new.length
  one : readS 1 st.1 = pre
  two : readS 2 st.1 = new.take st.2
theorem DInv.step {pre new : List Str} {st : List Str × Nat} {row : Str} (h : DInv pre new st) : DInv (pre ++ [row]) new (dStep new st row) := by
  unfold dStep
  split
  · rename_i hlt
    have hge := dFar_ge new row st.2
    refine ⟨by show dFar new row st.2 + 1 ≤ _; omega, ?_, ?_⟩
    · show readS 1 _ = _
      rw [readS_app, readS_app, readS_pls1, readS_sp, h.one, List.append_nil]
    · show readS 2 _ = new.take (dFar new row st.2 + 1)
      rw [readS_app, readS_app, readS_pls2, readS_sp, h.two, List.take_add_one, dFar_at hlt]
      congr 1
      rw [← List.take_add]
      congr 1
      omega
  · obtain ⟨o1, o2⟩ := odd_read _ (odd_at (st.1.length + 1)).1
    refine ⟨h.le, ?_, ?_⟩
    · show readS 1 _ = _
      rw [readS_app, readS_app, readS_mi1, o1, h.one, List.append_nil]
    · show readS 2 _ = new.take st.2
      rw [readS_app, readS_app, readS_mi2, o2, h.two, List.append_nil, List.append_nil]
theorem DInv.run (new : List Str) : ∀ (old pre : List Str) (st : List Str × Nat), DInv pre new st → DInv (pre ++ old) new (old.foldl (dStep new) st)
  | [], pre, st, h => by simpa using h
  | y :: r, pre, st, h => by
    have := DInv.run new r (pre ++ [y]) (dStep new st y) h.step
    simpa using this
theorem dInv (old new : List Str) : DInv old new (dRun old new) := DInv.run new old [] ([], 0) ⟨Nat.zero_le _, rfl, rfl⟩
theorem delta_one (old new : List Str) : readS 1 (deltaS old new) = old := by
  unfold deltaS; rw [readS_app, readS_pls1, (dInv old new).one, List.append_nil]
theorem delta_two (old new : List Str) : readS 2 (deltaS old new) = new := by
  unfold deltaS; rw [readS_app, readS_pls2, (dInv old new).two, List.take_append_drop]

/-! sizes -/
structure Fit (m k : Nat) (xs : List Str) : Prop where
  many : xs.length ≤ m
  long : ∀ x ∈ xs, x.length ≤ k
  ok : OkS xs
theorem dStep_len (new : List Str) (st : List Str × Nat) (row : Str) (h : st.2 ≤ new.length) : (dStep new st row).1.length + st.2 ≤ st.1.length + (dStep new st row).2 + 2 := by
  unfold dStep
  split
  · rename_i hlt
    have := dFar_ge new row st.2
    simp only [List.length_append, List.length_map, List.length_take, List.length_drop, List.length_cons, List.length_nil]
    omega
  · simp only [List.length_append, List.length_cons, List.length_nil]; omega
theorem dRun_len (new : List Str) : ∀ (old pre : List Str) (st : List Str × Nat), DInv pre new st → (old.foldl (dStep new) st).1.length + st.2 ≤ st.1.length + (old.foldl (dStep new) st).2 + 2 * old.length
  | [], pre, st, h => by simp
  | y :: r, pre, st, h => by
    have h1 := dRun_len new r (pre ++ [y]) (dStep new st y) h.step
    have h2 := dStep_len new st y h.le
    simp only [List.foldl_cons, List.length_cons]
    omega
theorem dRun_small (old new : List Str) : (dRun old new).1.length ≤ (dRun old new).2 + 2 * old.length := by
  have := dRun_len new old [] ([], 0) ⟨Nat.zero_le _, rfl, rfl⟩
  simpa [dRun] using this
theorem delta_len (old new : List Str) : (deltaS old new).length ≤ 2 * old.length + new.length := by
  have h1 := dRun_small old new
  have h2 := (dInv old new).le
  unfold deltaS
  simp only [List.length_append, List.length_map, List.length_drop]
  omega

def Good (k : Nat) (x : Str) : Prop := x.length ≤ k ∧ PyData.strOk x = true
theorem good_app {k m : Nat} {h y : Str} (hh : Good k h) (hy : Good m y) : Good (k + m) (h ++ y) := by
  refine ⟨by rw [str_len_app]; have := hh.1; have := hy.1; omega, ?_⟩
  have e1 := hh.2
  have e2 := hy.2
  unfold PyData.strOk at e1 e2 ⊢
  rw [← Array.all_toList] at e1 e2 ⊢
  rw [str_app, List.all_append, e1, e2]; rfl
theorem good_sp : Good 2 "  " := by unfold Good; decide +kernel
theorem good_mi : Good 2 "- " := by unfold Good; decide +kernel
theorem good_pl : Good 2 "+ " := by unfold Good; decide +kernel
theorem good_odd : ∀ y ∈ oddL, Good 4 y := by unfold Good; decide +kernel
theorem Good.mono {k m : Nat} {x : Str} (h : Good k x) (hk : k ≤ m) : Good m x := ⟨Nat.le_trans h.1 hk, h.2⟩
theorem dStep_good {k : Nat} (hk : 2 ≤ k) {new : List Str} (hn : ∀ y ∈ new, Good k y) {st : List Str × Nat} {row : Str} (hr : Good k row) (hs : ∀ y ∈ st.1, Good (2 + k) y) : ∀ y ∈ (dStep new st row).1, Good (2 + k) y := by
  unfold dStep
  split
  · intro y hy
    simp only [List.mem_append, List.mem_map, List.mem_singleton] at hy
    rcases hy with (hy | ⟨z, hz, rfl⟩) | rfl
    · exact hs y hy
    · exact good_app good_pl (hn z (List.mem_of_mem_drop (List.mem_of_mem_take hz)))
    · exact good_app good_sp hr
  · intro y hy
    simp only [List.mem_append, List.mem_singleton] at hy
    rcases hy with (hy | rfl) | rfl
    · exact hs y hy
    · exact good_app good_mi hr
    · exact (good_odd _ (odd_at _).1).mono (by omega)
theorem dRun_good {k : Nat} (hk : 2 ≤ k) {new : List Str} (hn : ∀ y ∈ new, Good k y) : ∀ (old : List Str) (st : List Str × Nat), (∀ y ∈ old, Good k y) → (∀ y ∈ st.1, Good (2 + k) y) → ∀ y ∈ (old.foldl (dStep new) st).1, Good (2 + k) y
  | [], st, _, hs => hs
  | z :: r, st, ho, hs => dRun_good hk hn r (dStep new st z) (fun y hy => ho y (.tail _ hy)) (dStep_good hk hn (ho z (.head _)) hs)
theorem delta_good {k : Nat} (hk : 2 ≤ k) {old new : List Str} (ho : ∀ y ∈ old, Good k y) (hn : ∀ y ∈ new, Good k y) : ∀ y ∈ deltaS old new, Good (2 + k) y := by
  intro y hy
  unfold deltaS at hy
  simp only [List.mem_append, List.mem_map] at hy
  rcases hy with hy | ⟨z, hz, rfl⟩
  · exact dRun_good hk hn old ([], 0) ho (fun y hy => nomatch hy) y hy
  · exact good_app good_pl (hn z (List.mem_of_mem_drop hz))
end Mine

-- part LG
open PySem PySem.W PySem.W.X PyProof.Rows PySem.Calls PySem.Spec PySem.SeqAt
set_option Elab.async false
set_option maxRecDepth 100000
set_option maxHeartbeats 400000
namespace Mine
theorem vS_inj {p q : Str} (hpq : vS p = vS q) : p = q := by
  have : vS q (.str p 0) := by rw [← hpq]; exact ⟨0, rfl⟩
  obtain ⟨t, ht⟩ := this
  cases ht; rfl
theorem vI_inj {p q : Int} (hpq : vI p = vI q) : p = q := by
  have : vI q (.int p 0) := by rw [← hpq]; exact ⟨0, rfl⟩
  obtain ⟨t, ht⟩ := this
  cases ht; rfl
theorem map_vS_inj : ∀ {xs ys : List Str}, xs.map vS = ys.map vS → xs = ys
  | [], [], _ => rfl
  | [], _ :: _, h => by simp at h
  | _ :: _, [], h => by simp at h
  | x :: xs, y :: ys, h => by
    simp only [List.map_cons, List.cons.injEq] at h
    rw [vS_inj h.1, map_vS_inj h.2]
theorem map_vI_inj : ∀ {xs ys : List Int}, xs.map vI = ys.map vI → xs = ys
  | [], [], _ => rfl
  | [], _ :: _, h => by simp at h
  | _ :: _, [], h => by simp at h
  | x :: xs, y :: ys, h => by
    simp only [List.map_cons, List.cons.injEq] at h
    rw [vI_inj h.1, map_vI_inj h.2]
/-- the next of a list of texts (ints) -/
theorem next_vS {ys zs : List Str} {P : VP} {r : List VP} (e : ys.map vS = zs.map vS ++ P :: r) : ∃ y rs, ys = zs ++ y :: rs ∧ P = vS y := by
  obtain ⟨a, c, h1, h2, h3⟩ := List.map_eq_append_iff.mp e
  obtain ⟨y, rs, h4, h5, _⟩ := List.map_eq_cons_iff.mp h3
  exact ⟨y, rs, by rw [h1, h4, map_vS_inj h2], h5.symm⟩
theorem next_vI {ys zs : List Int} {P : VP} {r : List VP} (e : ys.map vI = zs.map vI ++ P :: r) : ∃ y rs, ys = zs ++ y :: rs ∧ P = vI y := by
  obtain ⟨a, c, h1, h2, h3⟩ := List.map_eq_append_iff.mp e
  obtain ⟨y, rs, h4, h5, _⟩ := List.map_eq_cons_iff.mp h3
  exact ⟨y, rs, by rw [h1, h4, map_vI_inj h2], h5.symm⟩
section
variable {prog : Program} {w : World} {A : Around} {E : Value → Shared → Prop} {b s : Shared} {env : Env} {mg mb : Str → Option Value} {names : List Str}

/-- what a for is to do with the value it walks -/
structure ForJob (prog : Program) (w : World) (A : Around) (b : Shared) (env : Env) (target : Expr) (body : List Stmt) (Q : Flow → Shared → Prop) (v₀ : Value) (s₁ : Shared)
    (Lr : Ledger) (d : Nat) (Ps : List VP) (L₁ F₀ X : Ledger) (G₁ G : GLedger) (J : List VP → Ledger → Prop) : Prop where
  src : GivesI prog w b Lr d v₀ Ps L₁ G₁
  room : Ar A d
  st : St b s₁ (L₁ ++ (F₀ ++ X)) (G₁ ++ G)
  h0 : J [] F₀
  hR : ∀ pre F, J pre F → ∀ p ∈ Lr, p ∈ F ++ X
  turn : ∀ pre P r u F L₂ G₂ s, Ps = pre ++ P :: r → P u → J pre F → St b s (F ++ (L₂ ++ X)) (G₂ ++ G) →
      wpAny (model prog w) A (assign target env u) (fun _ s₂ => wpAny (model prog w) A (execs body env) (Turn Q fun s₃ => ∃ F', J (pre ++ [P]) F' ∧ St b s₃ (F' ++ (L₂ ++ X)) (G₂ ++ G)) NoE s₂) NoE s
  done : ∀ F s, J Ps F → St b s (F ++ X) G → Q .next s
/-- a for over whatever its iterable turns out to be -/
theorem r_forj {target iter : Expr} {body : List Stmt} {pos : Pos} {Q : Flow → Shared → Prop}
    (hiter : wpAny (model prog w) A (eval iter env) (fun v s₁ => ∃ Lr d Ps L₁ F₀ X G₁ G J, ForJob prog w A b env target body Q v s₁ Lr d Ps L₁ F₀ X G₁ G J) NoE s)
    (hs : ∀ x, foldedSetIterable iter env x = pure x := by intro _; kernel_rfl) (ht : ∀ it v, letOwnedTupleGo target it v = pure () := by intro _ _; kernel_rfl) :
    wpAny (model prog w) A (exec (.For target iter body [] pos) env) Q E s := by
  refine wpAny_For (wpAny_mono hiter (fun v s₁ h₁ => ?_) fun _ _ x => x.elim) hs
  obtain ⟨Lr, d, Ps, L₁, F₀, X, G₁, G, J, hsrc, hA, S₁, h0, hR, turn, done⟩ := h₁
  refine hsrc A _ _ _ _ _ hA (hR [] F₀ h0) S₁ fun it s₂ L₂ G₂ hg _ S₂ => ?_
  refine codeAny_forLoop (fun n s => ∃ pre post F L₂ G₂, Ps = pre ++ post ∧ post.length = n ∧ J pre F ∧ Gives prog w b Lr d it post L₂ G₂ ∧ St b s (L₂ ++ (F ++ X)) (G₂ ++ G)) ?_ Ps.length ⟨[], Ps, F₀, L₂, G₂, rfl, rfl, h0, hg, S₂⟩ (ht it)
  rintro n s₃ ⟨pre, post, F, L₃, G₃, e, hn, hj, hg₃, S₃⟩
  refine hg₃.next hA (hR pre F hj) S₃ (fun e' s₄ S₄ => ?_) (fun P r e' u s₄ L₄ G₄ hu hg₄ S₄ => ?_)
  · subst e'
    rw [List.append_nil] at e
    subst e
    exact wpAny_execs_nil (done F s₄ hj S₄)
  · subst e'
    refine wpAny_mono (turn pre P r u F L₄ G₄ s₄ e hu hj (S₄.perm (perm_swap3 F L₄ X))) (fun _ s₅ h₅ => ?_) fun _ _ x => x.elim
    refine wpAny_mono h₅ (fun f s₆ h₆ => ?_) fun _ _ x => x.elim
    have nx : (∃ F', J (pre ++ [P]) F' ∧ St b s₆ (F' ++ (L₄ ++ X)) (G₄ ++ G)) → ∃ m, m < n ∧ ∃ pre post F L₂ G₂, Ps = pre ++ post ∧ post.length = m ∧ J pre F ∧ Gives prog w b Lr d it post L₂ G₂ ∧ St b s₆ (L₂ ++ (F ++ X)) (G₂ ++ G) := by
      rintro ⟨F', hj', S'⟩
      exact ⟨r.length, by simp only [List.length_cons] at hn; omega, pre ++ [P], r, F', L₄, G₄, by rw [e]; simp, rfl, hj', hg₄, S'.perm (perm_swap3 L₄ F' X)⟩
    cases f with
    | next => exact nx h₆
    | cont => exact nx h₆
    | brk => exact h₆
    | ret v => exact h₆

/-- what a comprehension is to do with the value it walks -/
structure CompJob (prog : Program) (w : World) (A : Around) (E : Value → Shared → Prop) (b : Shared) (env : Env) (elt : Expr) (x : Str) (ifs : List Expr) (scope : Scope) (cl : List (Str × Addr)) (use : Option (Value → Sem Unit)) (Q : Value → Shared → Prop) (v₀ : Value) (s₁ : Shared)
    (Lr : Ledger) (d : Nat) (Ps : List VP) (L₁ F₀ X : Ledger) (G₁ G : GLedger) (J : List VP → List Value → Ledger → Prop) : Prop where
  src : GivesI prog w b Lr d v₀ Ps L₁ G₁
  room : Ar A d
  st : St b s₁ (L₁ ++ (F₀ ++ X)) (G₁ ++ G)
  h0 : J [] [] F₀
  hR : ∀ pre acc F, J pre acc F → ∀ p ∈ Lr, p ∈ F ++ X
  hz : ∀ pre acc F, J pre acc F → acc.length ≤ pre.length
  hPs : Ps.length ≤ sizeLine
  turn : ∀ pre P r u acc F C D L₂ G₂ s, Ps = pre ++ P :: r → P u → J pre acc F → St b s ((C, frC [(x, vE u)]) :: (D, lstV acc) :: (F ++ (L₂ ++ X))) (G₂ ++ G) →
      wpAny (model prog w) A (testsOf ifs (compEnvC scope cl C env)) (fun ok s₂ =>
        if ok = true then wpAny (model prog w) A (eval elt (compEnvC scope cl C env)) (fun y s₃ => ∃ F', J (pre ++ [P]) (acc ++ [y]) F' ∧ St b s₃ ((C, frC [(x, vE u)]) :: (D, lstV acc) :: (F' ++ (L₂ ++ X))) (G₂ ++ G)) NoE s₂
        else ∃ F', J (pre ++ [P]) acc F' ∧ St b s₂ ((C, frC [(x, vE u)]) :: (D, lstV acc) :: (F' ++ (L₂ ++ X))) (G₂ ++ G)) NoE s
  hfin : ∀ acc F C D s', J Ps acc F → St b s' ((C, frC []) :: (D, lstV acc) :: (F ++ X)) G → compPost (model prog w) A E use Q (.ref D) C (.ok .next) s'
theorem comp_job {elt iter : Expr} {x : Str} {px pos pos' : Pos} {ifs : List Expr} {scope : Scope} {cl : List (Str × Addr)} {use : Option (Value → Sem Unit)} {Q : Value → Shared → Prop}
    (hiter : wpAny (model prog w) A (eval iter env) (fun v s₁ => ∃ Lr d Ps L₁ F₀ X G₁ G J, CompJob prog w A E b env elt x ifs scope cl use Q v s₁ Lr d Ps L₁ F₀ X G₁ G J) NoE s)
    (hclos : closureFor scope env = pure cl) (hkind : scope.kind = .function) (hnames : ∀ y ∈ scope.names, y.2 = .local → scope.names.lookup y.1 = some .local)
    (hcell : ∀ y ∈ scope.names, y.2 ≠ .cell) (hx : scope.names.lookup x = some .local) (hs : ∀ v, foldedSetIterable iter env v = pure v) :
    wpAny (model prog w) A (comprehension (.ListComp elt [⟨.Name x px, iter, ifs, 0⟩] scope pos') scope env pos (newList []) false (eval iter env) use) Q E s := by
  refine wpAny_comprehension_free (g := ⟨.Name x px, iter, ifs, 0⟩) (gs := []) rfl hs hclos hkind hnames ?_
  refine wpAny_mono hiter (fun v s₁ h₁ => ?_) fun _ _ x => x.elim
  obtain ⟨Lr, d, Ps, L₁, F₀, X, G₁, G, J, hsrc, hA, S₁, h0, hR, hz, hPs, turn, hfin⟩ := h₁
  refine hsrc A _ _ _ _ _ hA (hR [] [] F₀ h0) S₁ fun it s₂ L₂ G₂ hg hself S₂ => ?_
  refine r_newList S₂ lstV_mk fun D s₃ S₃ => ?_
  refine wpAny_newFunctionEnv (scope := scope) (binds := []) hcell (fun y hy => nomatch hy) (fun h' hn hsb => ?_) hkind
  obtain ⟨oC, hoC, hcC⟩ := frC_of (fl := []) hn (fun p hp => nomatch hp)
  have S₄ : St b { s₃ with heap := h', toks := s₃.toks + ([] : List (Str × Value)).length } ((s₃.heap.objs.size, frC []) :: (D, lstV []) :: (L₂ ++ (F₀ ++ X))) (G₂ ++ G) :=
    S₃.new (heap_get_size _) (fun a o e => hsb.extBut a o (Nat.ne_of_lt (Heap.lt_size e)) (Heap.get?_push_of_some _ e)) hoC hcC
  generalize hC : s₃.heap.objs.size = C at S₄
  show codeAny _ A (.compStart _ 0 it (.ref D) (compEnvC scope cl C env)) (compPost _ A E use Q (.ref D) C) _
  have S₅ : St b _ (L₂ ++ ((C, frC []) :: (D, lstV []) :: (F₀ ++ X))) (G₂ ++ G) := S₄.perm (by
    refine List.perm_middle.trans (.cons _ ?_)
    exact List.perm_middle)
  have loop : ∀ (it : Value) (s : Shared) (L₂ : Ledger) (G₂ : GLedger), Gives prog w b Lr d it Ps L₂ G₂ → St b s (L₂ ++ ((C, frC []) :: (D, lstV []) :: (F₀ ++ X))) (G₂ ++ G) →
      codeAny (model prog w) A (.compLoop (.ListComp elt [⟨.Name x px, iter, ifs, 0⟩] scope pos') 0 it (.ref D) (compEnvC scope cl C env)) (compPost (model prog w) A E use Q (.ref D) C) s := by
    intro it s L₂ G₂ hg S
    refine codeAny_compLoop_tests (fun n s => ∃ pre post acc F L₂ G₂, Ps = pre ++ post ∧ post.length = n ∧ J pre acc F ∧ Gives prog w b Lr d it post L₂ G₂ ∧ St b s (L₂ ++ ((C, frC []) :: (D, lstV acc) :: (F ++ X))) (G₂ ++ G)) ?_ Ps.length
      ⟨[], Ps, [], F₀, L₂, G₂, rfl, rfl, h0, hg, S⟩
    rintro n s₃ ⟨pre, post, acc, F, L₃, G₃, e, hn, hj, hg₃, S₃⟩
    refine hg₃.next hA (fun q hq => .tail _ (.tail _ (hR pre acc F hj q hq))) S₃ (fun e' s₄ S₄ => ?_) (fun P r e' u s₄ L₄ G₄ hu hg₄ S₄ => ?_)
    · subst e'
      rw [List.append_nil] at e
      subst e
      exact hfin acc F C D s₄ hj S₄
    · subst e'
      have S₅ : St b s₄ ((C, frC []) :: (D, lstV acc) :: (F ++ (L₄ ++ X))) (G₄ ++ G) := S₄.perm (by
        refine List.Perm.trans ?_ (List.perm_middle.symm)
        refine .cons _ ?_
        refine List.Perm.trans ?_ (List.perm_middle.symm)
        exact .cons _ (perm_swap3 F L₄ X))
      refine wpAny_assign_Name (r_store (P := vE u) S₅ (.head _) rfl .nil .head (fun s₅ S₆ => ?_) (lookup_relabel_local hx) (by show (scope.kind == .class || (scope.kind == .module && _)) = false; rw [hkind]; rfl))
      refine wpAny_mono (turn pre P r u acc F C D L₄ G₄ s₅ e hu hj S₆) (fun ok s₆ h₆ => ?_) fun _ _ x => x.elim
      have back : ∀ {acc' F' s}, St b s ((C, frC [(x, vE u)]) :: (D, lstV acc') :: (F' ++ (L₄ ++ X))) (G₄ ++ G) → St b s (L₄ ++ ((C, frC []) :: (D, lstV acc') :: (F' ++ X))) (G₄ ++ G) := fun S => by
        refine (S.less (.head _) .head fun o ho => frC_sub (fl' := []) (fun q hq => nomatch hq) ho).perm ?_
        refine List.perm_middle.trans (.cons _ ?_)
        refine List.perm_middle.trans (.cons _ ?_)
        exact perm_swap3 _ _ _
      cases ok with
      | true =>
        rw [if_pos rfl] at h₆ ⊢
        refine wpAny_mono h₆ (fun y s₇ h₇ => ?_) fun _ _ x => x.elim
        obtain ⟨F', hj', S₇⟩ := h₇
        have hlen : acc.length < sizeLine := by
          have h1 := hz pre acc F hj
          have h2 : Ps.length = pre.length + (r.length + 1) := by rw [e]; simp
          omega
        obtain ⟨_, hoD, nD, rfl⟩ := S₇.get (.tail _ (.head _))
        refine wpAny_list_append_plain (x := y) ⟨nD, hoD⟩ (fun h' hl hsb => ?_) (by simpa using Nat.le_of_lt hlen)
        obtain ⟨n', ho'⟩ := hl
        refine ⟨r.length, by simp only [List.length_cons] at hn; omega, pre ++ [P], r, acc ++ [y], F', L₄, G₄, by rw [e]; simp, rfl, hj', hg₄, back ?_⟩
        exact S₇.set (P' := lstV (acc ++ [y])) (.tail .head) ⟨_, .tail _ (.head _)⟩ hsb.extBut ho' ⟨n', by simp⟩
      | false =>
        rw [if_neg Bool.false_ne_true] at h₆ ⊢
        obtain ⟨F', hj', S₇⟩ := h₆
        exact ⟨r.length, by simp only [List.length_cons] at hn; omega, pre ++ [P], r, acc, F', L₄, G₄, by rw [e]; simp, rfl, hj', hg₄, back S₇⟩
  refine codeAny_compStart_list (loop it _ L₂ G₂ hg S₅) ?_
  exact hself A _ _ _ _ _ S₅ (loop it _ L₂ G₂ hg S₅)

/-- no own cell: the end of a comprehension whose value is its list -/
theorem comp_end {A : Around} {E : Value → Shared → Prop} {Q : Value → Shared → Prop} {C D : Addr} {s' : Shared} {L : Ledger} {G : GLedger} (S : St b s' ((C, frC []) :: L) G) (h : ∀ s'', St b s'' L G → Q (.ref D) s'') :
    compPost (model prog w) A E none Q (.ref D) C (.ok .next) s' := by
  obtain ⟨o, ho, hc⟩ := S.get (.head _)
  obtain ⟨m, hn, _⟩ := frC_ns ho hc
  exact ⟨m, hn, fun h'' hs'' => h _ (S.drop1 hs''.extBut)⟩

/-- [f(x) for x in texts] -/
theorem r_compS {elt iter : Expr} {x : Str} {px pos : Pos} {scope : Scope} {Q : Value → Shared → Prop} (fS : Str → Str) (hA : Ar A 0)
    (hiter : wpAny (model prog w) A (eval iter env) (fun v s₁ => ∃ l ys L' G', v = .ref l ∧ St b s₁ ((l, lstS ys) :: L') G' ∧ ys.length ≤ sizeLine ∧
      (∀ y ∈ ys, ∀ (C : Addr) (L : Ledger) (G : GLedger) (u : Value) (s : Shared) (R : Value → Shared → Prop), vS y u → St b s ((C, frC [(x, vE u)]) :: L) G → (∀ t s', St b s' ((C, frC [(x, vE u)]) :: L) G → R (.str (fS y) t) s') → wpAny (model prog w) A (eval elt (compEnvC scope [] C env)) R NoE s) ∧
      ∀ D s', St b s' ((D, lstS (ys.map fS)) :: L') G' → Q (.ref D) s') NoE s)
    (hclos : closureFor scope env = pure [] := by kernel_rfl) (hkind : scope.kind = .function := by kernel_rfl) (hnames : ∀ y ∈ scope.names, y.2 = .local → scope.names.lookup y.1 = some .local := by decide)
    (hcell : ∀ y ∈ scope.names, y.2 ≠ .cell := by decide) (hx : scope.names.lookup x = some .local := by kernel_rfl) (hs : ∀ v, foldedSetIterable iter env v = pure v := by intro _; kernel_rfl) :
    wpAny (model prog w) A (eval (.ListComp elt [⟨.Name x px, iter, [], 0⟩] scope pos) env) Q E s := by
  rw [eval_ListComp]
  refine comp_job (b := b) (cl := []) (wpAny_mono hiter (fun v s₁ h₁ => ?_) fun _ _ x => x) hclos hkind hnames hcell hx hs
  obtain ⟨l, ys, L', G', rfl, S₁, hz, helt, hQ⟩ := h₁
  refine ⟨[(l, lstS ys)], 0, ys.map vS, [], [(l, lstS ys)], L', [], G', fun pre acc F => ∃ zs, pre = zs.map vS ∧ StrsAre acc (zs.map fS) ∧ F = [(l, lstS ys)], givesI_list (hasL_S (.head _)), hA, S₁, ⟨[], rfl, .nil, rfl⟩, ?_, ?_, by rw [List.length_map]; exact hz, ?_, ?_⟩
  · rintro _ _ _ ⟨_, _, _, rfl⟩ p hp
    rw [List.mem_singleton] at hp
    subst hp
    exact .head _
  · rintro _ _ _ ⟨zs, rfl, h, _⟩
    rw [strsAre_len h, List.length_map, List.length_map]
    exact Nat.le_refl _
  · rintro pre P r u acc F C D L₂ G₂ s e hu ⟨zs, rfl, hacc, rfl⟩ S
    refine wpAny_pure ?_
    rw [if_pos rfl]
    obtain ⟨y, rs, hy, hPy⟩ := next_vS e
    subst hPy
    refine helt y (by rw [hy]; simp) C _ _ u s _ hu S fun t s' S' => ?_
    exact ⟨_, ⟨zs ++ [y], by simp, by rw [List.map_append]; exact hacc.append' (.cons _ t .nil), rfl⟩, S'⟩
  · rintro acc F C D s' ⟨zs, e, hacc, rfl⟩ S
    have : zs = ys := (map_vS_inj e).symm
    subst this
    refine comp_end S fun s'' S'' => hQ D s'' ?_
    refine (S''.weaken (P' := lstS (zs.map fS)) .head ?_).sub ?_
    · rintro P o hP ho
      have hnd := S''.nodup
      have : P = lstV acc := by
        rcases List.mem_cons.mp hP with h | h
        · exact (Prod.mk.inj h).2
        · exact absurd (List.mem_map_of_mem (f := (·.1)) h) (List.nodup_cons.mp hnd).1
      subst this
      obtain ⟨n, rfl⟩ := ho
      exact ⟨_, n, rfl, by simpa using hacc⟩
    · exact .cons_cons _ (List.sublist_cons_self _ _)
end
end Mine

-- part LX
open PySem PySem.W PySem.W.X PyProof.Rows PySem.Calls PySem.Spec PySem.SeqAt
set_option Elab.async false
set_option maxRecDepth 100000
set_option maxHeartbeats 400000
set_option linter.all false
namespace Mine

theorem lt_natB {a b : Nat} : decide ((a : Int) < (b : Int)) = decide (a < b) := by simp

theorem pick_nat {α : Type} (l : List α) (a c : Nat) : pick l (some (a : Int)) (some (c : Int)) = (l.drop a).take (c - a) := by
  unfold pick kms_lo kms_hi
  simp only [show ¬ ((a : Int) < 0) by omega, show ¬ ((c : Int) < 0) by omega, if_false, Int.toNat_natCast]
  by_cases ha : a ≤ l.length
  · rw [Nat.min_eq_left ha, List.take_eq_take_iff, List.length_drop]; omega
  · rw [Nat.min_eq_right (show l.length ≤ a by omega), List.drop_of_length_le (l := l) (Nat.le_refl _), List.drop_of_length_le (show l.length ≤ a by omega)]
    simp
theorem pick_from {α : Type} (l : List α) (a : Nat) : pick l (some (a : Int)) none = l.drop a := by
  unfold pick kms_lo kms_hi
  simp only [show ¬ ((a : Int) < 0) by omega, if_false, Int.toNat_natCast]
  rw [List.take_of_length_le (by rw [List.length_drop]; omega)]
  by_cases ha : a ≤ l.length
  · rw [Nat.min_eq_left ha]
  · rw [Nat.min_eq_right (show l.length ≤ a by omega), List.drop_of_length_le (l := l) (Nat.le_refl _), List.drop_of_length_le (show l.length ≤ a by omega)]

section
variable {prog : Program} {w : World} {A : Around} {E : Value → Shared → Prop} {b s : Shared} {X : Ledger} {G : GLedger} {mg mb : Str → Option Value} {names : List Str} {Q : Value → Shared → Prop}
/-- a method of a list of texts -/
theorem r_methS {o e : Expr} {name : Str} {apos pos : Pos} {id : String} {env : Env} (slot : Slot "list" name id) (hty : typeOf (.builtin id) = pure (.type "method_descriptor"))
    (h : wpAny (model prog w) A (eval o env) (fun ov s₁ => ∃ l ys L G, ov = .ref l ∧ St b s₁ L G ∧ (l, lstS ys) ∈ L ∧ wpAny (model prog w) A (callWith pos (.builtin id) [.ref l] [(false, eval e env)] []) Q E s₁) E s)
    (hbase : attributeBase o name env (eval o env) = eval o env := by kernel_rfl) (hline : (apos.endLine == pos.line) = true := by kernel_rfl) (htrees : backTo pos (starEach [e] env) = [(false, eval e env)] := by kernel_rfl) :
    wpAny (model prog w) A (eval (.Call (.Attribute o name apos) [e] [] pos) env) Q E s := by
  refine r_meth1 slot hty (wpAny_mono h (fun ov s₁ h₁ => ?_) fun _ _ x => x) hbase hline htrees
  obtain ⟨l, ys, L, G, rfl, S, hl, h₂⟩ := h₁
  obtain ⟨_, e, vs, m, rfl, hs⟩ := S.get hl
  exact ⟨_, _, rfl, e, rfl, rfl, h₂⟩

/-- h + x, in a comprehension -/
theorem w_headed {env : Env} {scope : Scope} {h x : Str} {k : Nat} {p1 p2 p3 : Pos} {y : Str} (hz : h.length + y.length ≤ sizeLine) (hkind : scope.kind = .function) (hx : scope.names.lookup x = some .local) (hd : (x == ("__debug__" : Str)) = false) {C : Addr} {L : Ledger} {u : Value} {R : Value → Shared → Prop}
    (hu : vS y u) (S : St b s ((C, frC [(x, vE u)]) :: L) G) (hR : ∀ t s', St b s' ((C, frC [(x, vE u)]) :: L) G → R (.str (h ++ y) t) s') :
    wpAny (model prog w) A (eval (.BinOp (.Constant (.str h) k p1) .Add (.Name x p2) p3) (compEnvC scope [] C env)) R NoE s := by
  refine wpAny_BinOp ?_
  refine r_str S fun t s₁ S₁ => ?_
  refine r_name S₁ (.head _) (.head _) (fun v hv => ?_) (by simp [compEnvC, relabel, hkind]) (lookup_relabel_local hx) hd
  obtain rfl : v = u := hv
  obtain ⟨t', rfl⟩ := hu
  exact r_addS S₁ hz fun t₂ s₂ S₂ => hR _ _ S₂

theorem Ar.deeper {A : Around} {d : Nat} {env : Env} (h : Ar A (d + 1)) : Ar (A.deeper env) d := ⟨h.1, by have := h.2; show A.depth + 1 + d < recursionLimit; omega⟩

end
end Mine

-- part LH
open PySem PySem.W PySem.W.X PyProof.Rows PySem.Calls PySem.Spec PySem.SeqAt
set_option Elab.async false
set_option maxRecDepth 100000
set_option maxHeartbeats 400000
set_option linter.all false
namespace Mine

/-! variables of a block inside: cells -/
def celN : Cell := fun o => ∃ v, o.data = .cell v
def celV (P : VP) : Cell := fun o => ∃ v, o.data = .cell (some v) ∧ P v
theorem celV_N {P : VP} {o : Obj} (h : celV P o) : celN o := let ⟨v, e, _⟩ := h; ⟨_, e⟩

section
variable {prog : Program} {w : World} {A : Around} {E : Value → Shared → Prop} {b s : Shared} {L L' X : Ledger} {G : GLedger} {env : Env} {mg mb : Str → Option Value} {names : List Str}

theorem r_nameC {Q : Value → Shared → Prop} {x : Str} {pos : Pos} {c : Addr} {P : VP} (S : St b s L G) (hc : (c, celV P) ∈ L) (h : ∀ v, P v → Q v s) (he : env.cells.lookup x = some c := by kernel_rfl)
    (hk : env.scope.kind = .function := by kernel_rfl) (hl : env.kindOf x = some .cell := by kernel_rfl) (hd : (x == ("__debug__" : Str)) = false := by decide) :
    wpAny (model prog w) A (eval (.Name x pos) env) Q E s := by
  obtain ⟨o, ho, v, e, hv⟩ := S.get hc
  exact wpAny_Name (wpAny_loadName_cell hk hl he ⟨o, ho, e⟩ (h v hv)) hd
theorem r_nameF {Q : Value → Shared → Prop} {x : Str} {pos : Pos} {c : Addr} {P : VP} (S : St b s L G) (hc : (c, celV P) ∈ L) (h : ∀ v, P v → Q v s) (he : env.cells.lookup x = some c := by kernel_rfl)
    (hk : env.scope.kind = .function := by kernel_rfl) (hl : env.kindOf x = some .free := by kernel_rfl) (hd : (x == ("__debug__" : Str)) = false := by decide) (hn : (x == ("__classdict__" : Str)) = false := by decide) :
    wpAny (model prog w) A (eval (.Name x pos) env) Q E s := by
  obtain ⟨o, ho, v, e, hv⟩ := S.get hc
  exact wpAny_Name (wpAny_loadName_free hk hl he ⟨o, ho, e⟩ (h v hv) hn) hd
theorem r_storeC {Q : Unit → Shared → Prop} {x : Str} {c : Addr} {P₀ : Cell} {v : Value} {P : VP} (S : St b s L G) (hc : (c, P₀) ∈ L) (h₀ : ∀ o, P₀ o → celN o) (hv : P v) (hu : Upd L c (celV P) L') (h : ∀ s', St b s' L' G → Q () s') (he : env.cells.lookup x = some c := by kernel_rfl)
    (hk : env.scope.kind = .function := by kernel_rfl) (hl : env.kindOf x = some .cell := by kernel_rfl) :
    wpAny (model prog w) A (storeName env x v) Q E s := by
  obtain ⟨o, ho, hP⟩ := S.get hc
  obtain ⟨v₀, e⟩ := h₀ o hP
  refine wpAny_storeName_cell hk hl he ⟨o, ho, e⟩ fun h' hc' hsb => ?_
  obtain ⟨o', ho', e'⟩ := hc'
  exact h _ (S.set hu ⟨_, hc⟩ hsb.extBut ho' ⟨v, e', hv⟩)

abbrev envOf1 (name : Str) (params : Arguments) (body : List Stmt) (scope : Scope) (C f : Addr) (cd : Value) : Env := callEnvC (docDef name params body scope .none cd .none) C f

/-- a call of a def with one variable of a block inside, and one argument -/
theorem r_callCell1 {Q : Value → Shared → Prop} {f : Addr} {name x : Str} {params : Arguments} {body : List Stmt} {scope : Scope} {cd v : Value} {y : Str} (B : Bs b mg mb names) (F : FnAt b mg f name params body scope cd) (S : St b s L G) (hroom : A.depth < recursionLimit)
    (hbind : ∀ pm doc, bindArgs (docDef name params body scope pm cd doc) ⟨[v], []⟩ = pure [(x, v)])
    (hloc : scope.names.lookup x = some .local) (hcs : ∀ n, cellsFrom n scope.names [] = [(y, n)])
    (h : ∀ C s', St b s' ((C, frC [(x, vE v)]) :: (C + 1, celN) :: L) G → wpAny (model prog w) (A.deeper (envOf1 name params body scope C f cd)) (execs body (envOf1 name params body scope C f cd)) (fun fl s'' => Q (match fl with | .ret v => v | _ => .none) s'') NoE s')
    (hco : scope.isCoroutine = false) (hgen : scope.isGenerator = false) (hk : scope.kind = .function) :
    wpAny (model prog w) A (call (.ref f) [v]) Q E s := by
  obtain ⟨o, pm, doc, ho, hd⟩ := F.obj
  have hkf : (callEnvC (docDef name params body scope pm cd doc) s.heap.objs.size f).kindOf x = some .local := hloc
  refine wpAny_call (codeAny_call_cells hroom (S.keep _ _ ho) hd (B.nolimit.keeps S.keep) (F.code.keeps S.keep) rfl (hbind pm doc) rfl (fun p hp => ?_) (fun s₁ I => ?_) hco hgen hk)
  · rw [List.mem_singleton] at hp
    subst hp
    exact .inl hloc
  · have hns := I.toInCall.ns
    obtain ⟨oC, hoC, hcC⟩ := frC_of (fl := [(x, vE v)]) hns (fun p hp => by
      rw [List.mem_singleton] at hp
      subst hp
      refine ⟨v, ?_, rfl⟩
      unfold bindL bindL
      rw [if_pos hkf]
      simp)
    have hce : (callEnvC (docDef name params body scope pm cd doc) s.heap.objs.size f).cells = [(y, s.heap.objs.size + 1)] := hcs _
    obtain ⟨oy, hoy, hyd⟩ := I.cell y (s.heap.objs.size + 1) (by rw [hce]; simp [List.lookup])
    obtain ⟨h₁, tk, rfl⟩ := I.toInCall.same
    have hkp := I.toInCall.keep
    have hbn : ∀ {a}, s.heap.get? a = none → b.heap.get? a = none := fun {a} e => by
      cases hb : b.heap.get? a with
      | none => rfl
      | some o' => rw [S.keep _ _ hb] at e; cases e
    have hnone : ∀ k, s.heap.get? (s.heap.objs.size + k) = none := fun k => by
      cases hb : s.heap.get? (s.heap.objs.size + k) with
      | none => rfl
      | some o' => exact absurd (Heap.lt_size hb) (Nat.not_lt.mpr (Nat.le_add_right _ _))
    have hlt : ∀ p ∈ L, p.1 < s.heap.objs.size := fun p hp => S.lt hp
    have S₁ : St b { s with heap := h₁, toks := tk } ((s.heap.objs.size, frC [(x, vE v)]) :: (s.heap.objs.size + 1, celN) :: L) G := by
      refine ⟨fun a o e => hkp a o (S.keep a o e), fun p hp => ?_, ?_, S.os, S.bare, S.gens, S.gnodup⟩
      · rcases List.mem_cons.mp hp with rfl | hp
        · exact ⟨hbn (hnone 0), oC, hoC, hcC⟩
        · rcases List.mem_cons.mp hp with rfl | hp
          · exact ⟨hbn (hnone 1), oy, hoy, _, hyd⟩
          · obtain ⟨h1, o', h2, h3⟩ := S.own p hp
            exact ⟨h1, o', hkp _ _ h2, h3⟩
      · simp only [List.map_cons, List.nodup_cons, List.mem_cons, List.mem_map, not_or, not_exists, not_and]
        refine ⟨⟨Nat.ne_of_lt (Nat.lt_succ_self _), fun p hp e => ?_⟩, fun p hp e => ?_, S.nodup⟩
        · exact Nat.ne_of_lt (hlt p hp) e
        · exact Nat.ne_of_lt (Nat.lt_succ_of_lt (hlt p hp)) e
    exact wpAny_mono (h _ _ S₁) (fun fl s'' hq => hq) fun _ _ x => x.elim

/-- y = [ .. ] -/
theorem r_asgComp {Q : Flow → Shared → Prop} {elt iter : Expr} {x y : Str} {px py : Pos} {ifs : List Expr} {scope : Scope} {cl : List (Str × Addr)} {pos spos : Pos}
    (hiter : wpAny (model prog w) A (eval iter env) (fun v s₁ => ∃ Lr d Ps L₁ F₀ X G₁ G J, CompJob prog w A E b env elt x ifs scope cl (some (assign (.Name y py) env)) (fun _ s' => Q .next s') v s₁ Lr d Ps L₁ F₀ X G₁ G J) NoE s)
    (hsw : swapsWith (.ListComp elt [⟨.Name x px, iter, ifs, 0⟩] scope pos) (some (.Name y py)) spos.line env = pure true := by kernel_rfl)
    (hclos : closureFor scope env = pure cl := by kernel_rfl) (hkind : scope.kind = .function := by kernel_rfl) (hnames : ∀ y ∈ scope.names, y.2 = .local → scope.names.lookup y.1 = some .local := by decide)
    (hcell : ∀ y ∈ scope.names, y.2 ≠ .cell := by decide) (hx : scope.names.lookup x = some .local := by kernel_rfl) (hs : ∀ v, foldedSetIterable iter env v = pure v := by intro _; kernel_rfl) :
    wpAny (model prog w) A (exec (.Assign [.Name y py] (.ListComp elt [⟨.Name x px, iter, ifs, 0⟩] scope pos) spos) env) Q E s := by
  rw [exec_Assign_Name_used _ _ _ _ hsw]
  refine wpAny_bind (wpAny_standAt (wpAny_bind ?_))
  show wpAny _ A (do let _ ← comprehension (.ListComp elt [⟨.Name x px, iter, ifs, 0⟩] scope pos) scope env _ (newList []) false (eval iter env) (some (assign (.Name y py) env))) _ _ s
  exact wpAny_bind (wpAny_mono (comp_job (b := b) (cl := cl) hiter hclos hkind hnames hcell hx hs) (fun _ s' hq => wpAny_pure (wpAny_pure hq)) fun _ _ e => e)

/-- the end of a comprehension whose list is stored -/
theorem comp_endU {Q : Value → Shared → Prop} {u : Value → Sem Unit} {C D : Addr} {s' : Shared} (h : wpAny (model prog w) A (u (.ref D)) (fun _ s'' => ∃ L G, St b s'' ((C, frC []) :: L) G ∧ ∀ s₃, St b s₃ L G → Q .none s₃) E s') :
    compPost (model prog w) A E (some u) Q (.ref D) C (.ok .next) s' := by
  refine wpAny_mono h (fun _ s'' h'' => ?_) fun _ _ x => x
  obtain ⟨L, G, S, hQ⟩ := h''
  obtain ⟨o, ho, hc⟩ := S.get (.head _)
  obtain ⟨m, hn, _⟩ := frC_ns ho hc
  exact ⟨m, hn, fun h'' hs'' => hQ _ (S.drop1 hs''.extBut)⟩

/-! lists of lists of texts -/
def cellsOf (as : List Addr) (tx : List (List Str)) : Ledger := (as.zip tx).map fun p => (p.1, lstS p.2)
theorem cellsOf_at : ∀ {as : List Addr} {tx : List (List Str)} {k : Nat} {a : Addr} {y : List Str}, as[k]? = some a → tx[k]? = some y → (a, lstS y) ∈ cellsOf as tx
  | [], _, _, _, _, h, _ => by simp at h
  | _ :: _, [], _, _, _, _, h => by simp at h
  | a :: r, y :: q, 0, _, _, h1, h2 => by
    simp only [List.getElem?_cons_zero, Option.some.injEq] at h1 h2
    subst h1 h2
    exact .head _
  | a :: r, y :: q, k + 1, _, _, h1, h2 => by
    simp only [List.getElem?_cons_succ] at h1 h2
    exact .tail _ (cellsOf_at h1 h2)
theorem cellsOf_upd : ∀ {as : List Addr} {tx : List (List Str)} {k : Nat} {a : Addr} {y z : List Str} (R : Ledger), as[k]? = some a → tx[k]? = some y → Upd (cellsOf as tx ++ R) a (lstS z) (cellsOf as (tx.set k z) ++ R)
  | [], _, _, _, _, _, _, h, _ => by simp at h
  | _ :: _, [], _, _, _, _, _, _, h => by simp at h
  | a :: r, y :: q, 0, _, _, z, R, h1, h2 => by
    simp only [List.getElem?_cons_zero, Option.some.injEq] at h1 h2
    subst h1 h2
    exact .head
  | a :: r, y :: q, k + 1, _, _, z, R, h1, h2 => by
    simp only [List.getElem?_cons_succ] at h1 h2
    exact .tail (cellsOf_upd R h1 h2)
theorem cellsOf_snoc : ∀ {as : List Addr} {tx : List (List Str)}, as.length = tx.length → ∀ (a : Addr) (y : List Str), cellsOf (as ++ [a]) (tx ++ [y]) = cellsOf as tx ++ [(a, lstS y)]
  | [], [], _, _, _ => rfl
  | [], _ :: _, h, _, _ => by simp at h
  | _ :: _, [], h, _, _ => by simp at h
  | a :: r, y :: q, h, c, z => by
    have := cellsOf_snoc (as := r) (tx := q) (by simpa using h) c z
    show (a, lstS y) :: cellsOf (r ++ [c]) (q ++ [z]) = _
    rw [this]; rfl
end
end Mine

-- part LY
open PySem PySem.W PySem.W.X PyProof.Rows PySem.Calls PySem.Spec PySem.SeqAt
set_option Elab.async false
set_option maxRecDepth 100000
set_option maxHeartbeats 400000
set_option linter.all false
namespace Mine

theorem rngI_mem {n : Nat} {k : Int} (h : k ∈ rngI 0 1 n) : 0 ≤ k ∧ k < n := by
  unfold rngI at h
  obtain ⟨i, hi, rfl⟩ := List.mem_map.mp h
  rw [List.mem_range] at hi
  omega
theorem fmod_range (x : Int) {m : Int} (hm : 0 < m) : 0 ≤ x.fmod m ∧ x.fmod m < m := by
  rw [Int.fmod_eq_emod_of_nonneg _ (by omega)]
  exact ⟨Int.emod_nonneg _ (by omega), Int.emod_lt_of_pos _ hm⟩

theorem readS_long {n : Int} {xs : List Str} {N : Nat} (h : ∀ x ∈ xs, x.length ≤ N) : ∀ x ∈ readS n xs, x.length ≤ N := by
  intro x hx
  unfold readS at hx
  obtain ⟨y, hy, rfl⟩ := List.mem_map.mp hx
  exact Nat.le_trans (cut_len y) (h y (List.mem_filter.mp hy).1)

section
variable {prog : Program} {w : World} {A : Around} {E : Value → Shared → Prop} {b s : Shared} {Y : Ledger} {G : GLedger} {mg mb : Str → Option Value} {names : List Str}
theorem r_range3 {L : Ledger} {Q : Value → Shared → Prop} {x y z : Int} {t u v : Tok} (S : St b s L G) (hz : z ≠ 0) (hp : PylongRoom (model prog w) A s) (h : ∀ a s', St b s' ((a, rngC x y z) :: L) G → Q (.ref a) s') : wpAny (model prog w) A (call (.type "range") [.int x t, .int y u, .int z v]) Q E s :=
  call_range_3 hz (h _ _ (S.alloc ⟨_, _, _, rfl⟩ _)) (.inr hp)
theorem r_comp {env : Env} {Q : Value → Shared → Prop} {elt iter : Expr} {x : Str} {px : Pos} {ifs : List Expr} {scope : Scope} {cl : List (Str × Addr)} {pos : Pos}
    (hiter : wpAny (model prog w) A (eval iter env) (fun v s₁ => ∃ Lr d Ps L₁ F₀ X G₁ G J, CompJob prog w A E b env elt x ifs scope cl none Q v s₁ Lr d Ps L₁ F₀ X G₁ G J) NoE s)
    (hclos : closureFor scope env = pure cl := by kernel_rfl) (hkind : scope.kind = .function := by kernel_rfl) (hnames : ∀ y ∈ scope.names, y.2 = .local → scope.names.lookup y.1 = some .local := by decide)
    (hcell : ∀ y ∈ scope.names, y.2 ≠ .cell := by decide) (hx : scope.names.lookup x = some .local := by kernel_rfl) (hs : ∀ v, foldedSetIterable iter env v = pure v := by intro _; kernel_rfl) :
    wpAny (model prog w) A (eval (.ListComp elt [⟨.Name x px, iter, ifs, 0⟩] scope pos) env) Q E s := by
  rw [eval_ListComp]
  exact comp_job (b := b) (cl := cl) hiter hclos hkind hnames hcell hx hs

end
theorem fnAt_of {p : Program} {loose : List Str} {mean : ExcName → Option Value} {mg mb : Str → Option Value} {s : Shared} (T : Top p loose mean mg mb s.heap) {name : Str} {params : Arguments} {body : List Stmt} {scope : Scope}
    (h : ∃ d ∈ recsOf p, d.name = name ∧ d.params = params ∧ d.body = body ∧ d.scope = scope) : ∃ a cd, FnAt s mg a name params body scope cd := by
  obtain ⟨d, hd, rfl, rfl, rfl, rfl⟩ := h
  obtain ⟨a, o, pm, code, doc, h1, h2, h3, h4⟩ := T.fn d hd
  exact ⟨a, code, h1, ⟨o, pm, doc, h2, h3⟩, h4⟩
theorem bs_of {p : Program} {loose : List Str} {mean : ExcName → Option Value} {mg mb : Str → Option Value} {s : Shared} (T : Top p loose mean mg mb s.heap) :
    Bs s mg mb (startupNames ++ loose ++ (recsOf p).map (·.name) ++ (PyProof.Rows.litsOf p).map (·.1) ++ (clssOf p loose).map (·.name)) :=
  ⟨T.g, T.b, T.nolimit, T.builtins, fun x hx => by
    simp only [List.mem_append, not_or] at hx
    exact T.free x hx.1.1.1.1 hx.1.1.1.2 hx.1.1.2 hx.1.2 hx.2⟩

end Mine

-- part XS
open PySem PySem.W PySem.W.X PyProof.Rows PySem.Calls PySem.Spec PySem.SeqAt
set_option Elab.async false
set_option maxRecDepth 100000
set_option maxHeartbeats 400000
set_option linter.all false
namespace Mine
/-- the frames that run, in the ledger -/
def FmsOk (envs : List Env) (L : Ledger) : Prop := ∀ env ∈ envs, env.scope.kind ≠ .module ∧ env.frame = some env.locals ∧ ∃ fl, (env.locals, frC fl) ∈ L
theorem FmsOk.sub {envs : List Env} {L L' : Ledger} (h : FmsOk envs L) (k : ∀ a fl, (a, frC fl) ∈ L → ∃ fl', (a, frC fl') ∈ L') : FmsOk envs L' := fun env he => by
  obtain ⟨h1, h2, fl, h3⟩ := h env he
  exact ⟨h1, h2, k _ _ h3⟩
section
variable {b s : Shared} {L L' : Ledger} {G : GLedger}
theorem FmsOk.fun {envs : List Env} (h : FmsOk envs L) (S : St b s L G) : s.heap.FunFrames b.heap envs := by
  induction envs with
  | nil => trivial
  | cons env r ih =>
    obtain ⟨h1, h2, fl, h3⟩ := h env (.head _)
    obtain ⟨hb, o, ho, es, ep, hd, _⟩ := S.own _ h3
    exact ⟨h1, ⟨env.locals, o, h2, hb, ho, fun vs q => by rw [hd] at q; cases q⟩, ih fun e he => h e (.tail _ he)⟩
theorem St.same {a : Addr} {P P' : Cell} (S : St b s L G) (h1 : (a, P) ∈ L) (h2 : (a, P') ∈ L) : P = P' := by
  have hn := S.nodup
  clear S
  induction L with
  | nil => cases h1
  | cons p r ih =>
    rw [List.map_cons, List.nodup_cons] at hn
    rcases List.mem_cons.mp h1 with e1 | h1 <;> rcases List.mem_cons.mp h2 with e2 | h2
    · rw [← e2] at e1; exact (Prod.mk.inj e1).2
    · exact absurd (List.mem_map_of_mem (f := (·.1)) h2) (by rw [← e1] at hn; exact hn.1)
    · exact absurd (List.mem_map_of_mem (f := (·.1)) h1) (by rw [← e2] at hn; exact hn.1)
    · exact ih h1 h2 hn.2
/-- the ledger is kept when only the frames' slots change -/
theorem St.slots {envs : List Env} (S : St b s L G) (hf : FmsOk envs L) {h' : Heap} (x : Heap.SlotsOnly (envs.filterMap (·.frame)) s.heap h') : St b { s with heap := h' } L G := by
  have fr : ∀ a ∈ envs.filterMap (·.frame), ∃ fl, (a, frC fl) ∈ L := fun a ha => by
    obtain ⟨env, he, hfr⟩ := List.mem_filterMap.mp ha
    obtain ⟨_, h2, fl, h3⟩ := hf env he
    rw [h2] at hfr
    cases hfr
    exact ⟨fl, h3⟩
  refine ⟨fun a o e => ?_, fun p hp => ?_, S.nodup, S.os, S.bare, S.gens, S.gnodup⟩
  · rw [x.2.1 a fun ha => ?_]
    · exact S.keep a o e
    · obtain ⟨fl, h3⟩ := fr a ha
      rw [(S.own _ h3).1] at e
      cases e
  · obtain ⟨hb, o, ho, hP⟩ := S.own p hp
    refine ⟨hb, ?_⟩
    by_cases ha : p.1 ∈ envs.filterMap (·.frame)
    · obtain ⟨fl, h3⟩ := fr _ ha
      obtain ⟨sl, e⟩ := x.2.2 _ _ ho
      refine ⟨_, e, ?_⟩
      have := S.same hp h3
      rw [this] at hP ⊢
      exact hP
    · exact ⟨o, by show h'.get? p.1 = _; rw [x.2.1 _ ha]; exact ho, hP⟩
end
end Mine

-- part X1
open PySem PySem.W PySem.W.X PyProof.Rows PySem.Calls PySem.Spec PySem.SeqAt
set_option Elab.async false
set_option maxRecDepth 100000
set_option maxHeartbeats 400000
set_option linter.all false
namespace Mine
/-- an exception of the class cls, its arguments in the tuple t, its traceback tb -/
def excC (cls : String) (t tb : Value) (K : VP) : Cell := fun o => ∃ vs, o.cls = .type cls ∧ o.data = .fields vs ∧ vs[0]? = some t ∧ vs[1]? = some tb ∧ ∃ cx, vs[2]? = some cx ∧ K cx
theorem excC_mk {cls : String} {t tb cx : Value} {K : VP} {o : Obj} {r : List Value} (hc : o.cls = .type cls) (hd : o.data = .fields (t :: tb :: cx :: r).toArray) (hK : K cx) : excC cls t tb K o := ⟨_, hc, hd, by simp, by simp, cx, by simp, hK⟩
abbrev anyV : VP := fun _ => True
/-- a traceback in flight through fl -/
def tbC (fl : Value) : Cell := fun o => ∃ ts, o.data = .fields ts ∧ ts[3]? = some fl
theorem upd_same {α β : Type} {a : α} {P : β} : ∀ {L : List (α × β)}, (a, P) ∈ L → Upd L a P L
  | _, .head _ => .head
  | _, .tail _ h => .tail (upd_same h)
section
variable {prog : Program} {w : World} {A : Around} {E : Value → Shared → Prop} {b s : Shared} {L L' : Ledger} {G : GLedger} {env : Env} {outer : List Env} {Q : Unit → Shared → Prop} {K : VP}
/-- a further entry of the traceback -/
theorem r_entry {e : Addr} {t : Value} {cls : String} {tb head : Value} {hadNext : Bool} (S : St b s L G) (hfr : A.frames = some (env :: outer)) (hf : FmsOk (env :: outer) L) (he : (e, excC cls t tb K) ∈ L)
    (h : ∀ T s' L', Upd L e (excC cls t (.ref T) K) L' → St b s' ((T, tbC (rawInt env.locals)) :: L') G → Q () s') (hu : ∀ T, ∃ L', Upd L e (excC cls t (.ref T) K) L') :
    wpAny (model prog w) A (do let a ← frameOf env; let pl ← entryPlaceOf env.locals hadNext; let b ← EntryCells.newEntry head a .none (rawInt env.locals) .none pl; setField (.ref e) 1 b) Q E s := by
  refine wpAny_bind (wpAny_frameOf_fun hfr (hf.fun S) (hf env (.head _)).2.1 fun h₁ hs₁ => ?_)
  have S₁ := S.slots hf hs₁
  refine wpAny_bind (wpAny_entryPlaceOf fun pl hpl => ?_)
  unfold EntryCells.newEntry newFields
  refine wpAny_bind (wpAny_newObj_type ?_ (hpl.sizeOk5 _ _ _ _ _))
  have S₂ := S₁.alloc (P := tbC (rawInt env.locals)) (o := { cls := .type "traceback", dict := none, data := .fields ([head, .ref env.locals, .none, rawInt env.locals, .none] ++ (if pl.isEmpty then List.replicate 6 Value.none else pl)).toArray }) ⟨_, rfl, by simp⟩
  obtain ⟨oe, hoe, vs, hc, hed, hv0, hv1, cx, hv2, hK⟩ := S₂.get (.tail _ he)
  have hvz : 1 < vs.size := (Array.getElem?_eq_some_iff.mp hv1).1
  refine wpAny_setField hoe hed hvz ?_
  have hed' := Obj.data_mapFields hed (·.setIfInBounds 1 (Value.ref h₁.objs.size))
  obtain ⟨L', u⟩ := hu h₁.objs.size
  refine h _ _ L' u (S₂.set (.tail u) ⟨_, .tail _ he⟩ (Heap.SameBut.update ..).extBut (Heap.get?_update_self _ hoe (Obj.isFreed_of_fields hed')) ⟨_, (Obj.cls_mapFields _ _).trans hc, hed', by rw [Array.getElem?_setIfInBounds_ne (by decide)]; exact hv0, by simp [hvz], cx, by rw [Array.getElem?_setIfInBounds_ne (by decide)]; exact hv2, hK⟩)

theorem excUpd {e : Addr} {t : Value} {cls : String} {tb : Value} (S : St b s L G) (he : (e, excC cls t tb K) ∈ L) : ∀ T, ∃ L', Upd L e (excC cls t (.ref T) K) L' := fun T => ⟨_, setL_upd ⟨_, he⟩⟩
/-- a new exception seen by the frame -/
theorem r_note1 {e : Addr} {t : Value} {cls : String} (S : St b s L G) (hfr : A.frames = some (env :: outer)) (hf : FmsOk (env :: outer) L) (he : (e, excC cls t .none K) ∈ L)
    (h : ∀ T s' L', Upd L e (excC cls t (.ref T) K) L' → St b s' ((T, tbC (rawInt env.locals)) :: L') G → Q () s') : wpAny (model prog w) A (noteFrame (.ref e) env) Q E s := by
  obtain ⟨oe, hoe, vs, hc, hed, hv0, hv1, cx, hv2, hK⟩ := S.get he
  unfold noteFrame
  simp only [(hf env (.head _)).2.1]
  refine wpAny_bind (wpAny_field hoe hed (x := .none) hv1 ?_)
  rw [if_neg (by decide)]
  exact r_entry S hfr hf he h (excUpd S he)
/-- seen already -/
theorem r_noteAgain {e T : Addr} {t : Value} {cls : String} (S : St b s L G) (hf : env.frame = some env.locals) (he : (e, excC cls t (.ref T) K) ∈ L) (hT : (T, tbC (rawInt env.locals)) ∈ L) (h : Q () s) : wpAny (model prog w) A (noteFrame (.ref e) env) Q E s := by
  obtain ⟨oe, hoe, vs, hc, hed, hv0, hv1, cx, hv2, hK⟩ := S.get he
  obtain ⟨oT, hoT, ts, hd, h3⟩ := S.get hT
  exact wpAny_noteFrame_inFlight hf hoe hed hv1 hoT hd h3 h
/-- seen by a further frame -/
theorem r_noteNext {e T : Addr} {t : Value} {cls : String} (S : St b s L G) (hfr : A.frames = some (env :: outer)) (hf : FmsOk (env :: outer) L) (he : (e, excC cls t (.ref T) K) ∈ L) (hT : (T, tbC .none) ∈ L)
    (h : ∀ T' s' L', Upd L e (excC cls t (.ref T') K) L' → St b s' ((T', tbC (rawInt env.locals)) :: L') G → Q () s') : wpAny (model prog w) A (noteFrame (.ref e) env) Q E s := by
  obtain ⟨oe, hoe, vs, hc, hed, hv0, hv1, cx, hv2, hK⟩ := S.get he
  obtain ⟨oT, hoT, ts, hd, h3⟩ := S.get hT
  have hsz : 3 < ts.size := (Array.getElem?_eq_some_iff.mp h3).1
  unfold noteFrame
  simp only [(hf env (.head _)).2.1]
  refine wpAny_bind (wpAny_field hoe hed (x := .ref T) hv1 ?_)
  rw [if_pos (show (Value.ref T != Value.none) = true from by simp)]
  refine wpAny_bind (wpAny_field hoT hd h3 ?_)
  rw [if_neg (show ¬ ((Value.none == rawInt env.locals) = true) from by simp [rawInt])]
  refine wpAny_bind (wpAny_setField hoT hd hsz ?_)
  have hd' := Obj.data_mapFields hd (·.setIfInBounds 3 Value.none)
  have S₂ : St b { s with heap := s.heap.update T (Obj.mapFields (·.setIfInBounds 3 Value.none)) } L G :=
    S.set (upd_same hT) ⟨_, hT⟩ (Heap.SameBut.update ..).extBut (Heap.get?_update_self _ hoT (Obj.isFreed_of_fields hd')) ⟨_, hd', by simp [hsz]⟩
  exact r_entry S₂ hfr hf he h (excUpd S₂ he)
/-- no longer in flight -/
theorem r_flight {e T : Addr} {t : Value} {cls : String} {fl : Value} {fr : Option Addr} (S : St b s L G) (he : (e, excC cls t (.ref T) K) ∈ L) (hT : (T, tbC fl) ∈ L) (u : Upd L T (tbC (fr.elim .none fun f => rawInt f)) L') (h : ∀ s', St b s' L' G → Q () s') : wpAny (model prog w) A (setFlight (.ref e) fr) Q E s := by
  obtain ⟨oe, hoe, vs, hc, hed, hv0, hv1, cx, hv2, hK⟩ := S.get he
  obtain ⟨oT, hoT, ts, hd, h3⟩ := S.get hT
  have hsz : 3 < ts.size := (Array.getElem?_eq_some_iff.mp h3).1
  unfold setFlight
  refine wpAny_bind (wpAny_field hoe hed (x := .ref T) hv1 ?_)
  rw [if_pos (show (Value.ref T != Value.none) = true from by simp)]
  refine wpAny_setField hoT hd hsz ?_
  have hd' := Obj.data_mapFields hd (·.setIfInBounds 3 (fr.elim .none fun f => rawInt f))
  exact h _ (S.set u ⟨_, hT⟩ (Heap.SameBut.update ..).extBut (Heap.get?_update_self _ hoT (Obj.isFreed_of_fields hd')) ⟨_, hd', by simp [hsz]⟩)

/-- an exception in the ledger: the object, its traceback, its arguments -/
abbrev excL (e t T : Addr) (cls : String) (args : List Value) (fl : Value) : Ledger := [(e, excC cls (.ref t) (.ref T) anyV), (T, tbC fl), (t, tupV args)]
abbrev excN (e t : Addr) (cls : String) (args : List Value) : Ledger := [(e, excC cls (.ref t) .none anyV), (t, tupV args)]
theorem FmsOk.app {envs : List Env} {L : Ledger} (h : FmsOk envs L) (X : Ledger) : FmsOk envs (X ++ L) := h.sub fun a fl h => ⟨fl, List.mem_append_right _ h⟩
theorem r_noteX0 {e t : Addr} {cls : String} {args : List Value} (S : St b s (excN e t cls args ++ L) G) (hfr : A.frames = some (env :: outer)) (hf : FmsOk (env :: outer) L)
    (h : ∀ T s', St b s' (excL e t T cls args (rawInt env.locals) ++ L) G → Q () s') : wpAny (model prog w) A (noteFrame (.ref e) env) Q E s := by
  refine r_note1 S hfr (hf.app _) (.head _) fun T s' L' u S' => ?_
  have e1 : L' = [(e, excC cls (.ref t) (.ref T) anyV), (t, tupV args)] ++ L := by
    cases u with
    | head => rfl
    | tail u =>
      obtain ⟨P, hP⟩ := u.has
      exact absurd (List.mem_map_of_mem (f := (·.1)) hP) (List.nodup_cons.mp S.nodup).1
  subst e1
  exact h T s' (S'.perm (.swap _ _ _))
theorem r_noteXA {e t T : Addr} {cls : String} {args : List Value} (S : St b s (excL e t T cls args (rawInt env.locals) ++ L) G) (hf : FmsOk (env :: outer) L)
    (h : Q () s) : wpAny (model prog w) A (noteFrame (.ref e) env) Q E s :=
  r_noteAgain S (hf env (.head _)).2.1 (.head _) (.tail _ (.head _)) h
theorem r_noteX {e t T : Addr} {cls : String} {args : List Value} (S : St b s (excL e t T cls args .none ++ L) G) (hfr : A.frames = some (env :: outer)) (hf : FmsOk (env :: outer) L)
    (h : ∀ T s', St b s' (excL e t T cls args (rawInt env.locals) ++ L) G → Q () s') : wpAny (model prog w) A (noteFrame (.ref e) env) Q E s := by
  refine r_noteNext S hfr (hf.app _) (.head _) (.tail _ (.head _)) fun T' s' L' u S' => ?_
  have e1 : L' = [(e, excC cls (.ref t) (.ref T') anyV), (T, tbC .none), (t, tupV args)] ++ L := by
    cases u with
    | head => rfl
    | tail u =>
      obtain ⟨P, hP⟩ := u.has
      exact absurd (List.mem_map_of_mem (f := (·.1)) hP) (List.nodup_cons.mp S.nodup).1
  subst e1
  exact h T' s' ((S'.sub (L' := (T', tbC (rawInt env.locals)) :: (e, excC cls (.ref t) (.ref T') anyV) :: (t, tupV args) :: L) (.cons_cons _ (.cons_cons _ (.cons _ (.refl _))))).perm (.swap _ _ _))
theorem r_flightX {e t T : Addr} {cls : String} {args : List Value} {fl : Value} {fr : Option Addr} (S : St b s (excL e t T cls args fl ++ L) G)
    (h : ∀ s', St b s' (excL e t T cls args (fr.elim .none fun f => rawInt f) ++ L) G → Q () s') : wpAny (model prog w) A (setFlight (.ref e) fr) Q E s :=
  r_flight S (.head _) (.tail _ (.head _)) (.tail .head) h
theorem St.excType {e t T : Addr} {cls : String} {args : List Value} {fl : Value} (S : St b s (excL e t T cls args fl ++ L) G) : s.TypeIs (.ref e) cls :=
  let ⟨o, ho, _, hc, _⟩ := S.get (.head _); ⟨o, ho, hc⟩
/-- back from a loop or a handler -/
theorem r_cameBack {e t T : Addr} {cls : String} {args : List Value} {fl : Value} {E : Value → Shared → Prop} (hf : env.frame = some env.locals) (S : St b s (excL e t T cls args fl ++ L) G)
    (h : ∀ s', St b s' (excL e t T cls args (rawInt env.locals) ++ L) G → E (.ref e) s') : cameBackBy (model prog w) A env E (.ref e) s := by
  obtain ⟨oe, hoe, vs, hc, hed, hv0, hv1, cx, hv2, hK⟩ := S.get (.head _)
  unfold cameBackBy
  refine wpAny_bind (wpAny_field hoe hed (x := .ref T) hv1 ?_)
  rw [if_neg (show ¬ ((Value.ref T == Value.none) = true) from by simp)]
  rw [hf]
  exact r_flightX S h
theorem St.made {h' : Heap} {e : Addr} {cls : String} {args : List Value} {tk : Nat} (S : St b s L G) (hm : Heap.MadeExc s.heap h' e cls args) :
    ∃ t, St b { s with heap := h', toks := tk } (excN e t cls args ++ L) G ∧ h'.get? e = some { cls := .type cls, data := .fields #[.ref t, .none, .none, .none, .bool false, .none] } := by
  obtain ⟨t, he, hn, ht⟩ := hm.there
  refine ⟨t, ?_, he⟩
  have hbn : ∀ {a}, s.heap.get? a = none → b.heap.get? a = none := fun {a} e => by
    cases hb : b.heap.get? a with
    | none => rfl
    | some o' => rw [S.keep _ _ hb] at e; cases e
  have hne : e ≠ t := fun e0 => by
    subst e0
    rw [he] at ht
    cases ht
  have hfr : ∀ {a}, s.heap.get? a = none → ∀ p ∈ L, p.1 ≠ a := fun {a} e p hp e1 => by
    obtain ⟨_, o, ho, _⟩ := S.own p hp
    rw [e1, e] at ho
    cases ho
  refine ⟨fun a o e => hm.keeps a o (S.keep a o e), fun p hp => ?_, ?_, S.os, S.bare, S.gens, S.gnodup⟩
  · rcases List.mem_cons.mp hp with rfl | hp
    · exact ⟨hbn hm.new, _, he, excC_mk (r := [.none, .bool false, .none]) rfl rfl trivial⟩
    · rcases List.mem_cons.mp hp with rfl | hp
      · exact ⟨hbn hn, _, ht, 0, rfl⟩
      · obtain ⟨h1, o', h2, h3⟩ := S.own p hp
        exact ⟨h1, o', hm.keeps _ _ h2, h3⟩
  · refine List.nodup_cons.mpr ⟨fun hp => ?_, List.nodup_cons.mpr ⟨fun hp => ?_, S.nodup⟩⟩
    · rcases List.mem_cons.mp hp with h | hp
      · exact hne h
      · obtain ⟨p, hp, h⟩ := List.mem_map.mp hp
        exact hfr hm.new p hp h
    · obtain ⟨p, hp, h⟩ := List.mem_map.mp hp
      exact hfr hn p hp h
end
end Mine

-- part X2
open PySem PySem.W PySem.W.X PyProof.Rows PySem.Calls PySem.Spec PySem.SeqAt
set_option Elab.async false
set_option maxRecDepth 100000
set_option maxHeartbeats 400000
set_option linter.all false
namespace Mine
local macro_rules | `(tactic| walk_at "mem") => `(tactic| first | assumption | exact List.Mem.head _ | (refine List.Mem.tail _ ?_; walk_at "mem") | (refine List.mem_append_right _ ?_; walk_at "mem"))
local macro_rules | `(tactic| walk_at "upd") => `(tactic| first | exact Upd.head | ((with_reducible apply Upd.tail); walk_at "upd"))
def fmtR : Str := "unknown delta choice (must be 1 or 2): %r"
/-- what fmtR % v is -/
def PctTo (prog : Program) (w : World) (b : Shared) (v : Value) (txt : Str) : Prop :=
  ∀ (A : Around) (E : Value → Shared → Prop) (s : Shared) (L : Ledger) (G : GLedger) (Q : Value → Shared → Prop) (t₀ : Tok), St b s L G → (∀ t s', St b s' L G → Q (.str txt t) s') → wpAny (model prog w) A (binaryOp .Mod (.str fmtR t₀) v) Q E s
theorem sub_key_base : isSubtype (.type "KeyError") (.type "BaseException") = pure true := by kernel_rfl
theorem sub_key_key : isSubtype (.type "KeyError") (.type "KeyError") = pure true := by kernel_rfl
theorem key_nt : isSubtype (.type ((Manifest.find? "KeyError").elim "type" fun x => x.metatype)) (.type "tuple") = pure false := by kernel_rfl
section
variable {prog : Program} {w : World} {A : Around} {E : Value → Shared → Prop} {b s : Shared} {L L' : Ledger} {G : GLedger} {mg mb : Str → Option Value} {names : List Str} {outer : List Env}

theorem rg_tryKey {C f : Addr} {cd v2 : Value} {n : Int} {txt : Str} {fl : List (Str × VP)} {Q : Flow → Shared → Prop} (B : Bs b mg mb names) (h1 : n ≠ 1) (h2 : n ≠ 2) (hI : IntTo prog w b v2 n) (hP : PctTo prog w b v2 txt) (hh : A.handled = none)
    (hfr : A.frames = some (rEnv C f cd :: outer)) (hf : FmsOk (rEnv C f cd :: outer) L) (S : St b s L G) (hC : (C, frC fl) ∈ L) (hw : (("which" : Str), vE v2) ∈ fl)
    (hint : ("int" : Str) ∉ names) (hke : ("KeyError" : Str) ∉ names) (hve : ("ValueError" : Str) ∉ names)
    (h : ∀ e t T u s', St b s' (excL e t T "ValueError" [.str txt u] (rawInt C) ++ L) G → E (.ref e) s') :
    wpAny (model prog w) A (exec rTry (rEnv C f cd)) Q E s := by
  conv in rTry => whnf
  refine wpAny_Try_except ?_
  refine wpAny_execs_cons ?_
  refine wpAny_Assign_Name ?_ (by kernel_rfl)
  refine Subscript_ ?_
  with_reducible refine rg_dict B S ?_
  intro d s₁ S₁ hds
  refine r_callT1 (T := "int") B S₁ boot_int ?_ (hfree := hint)
  refine r_name S₁ (.tail _ hC) hw fun v hv => ?_
  cases hv
  refine hI A _ _ _ G _ hh S₁ fun t s₂ S₂ => ?_
  obtain ⟨o, ho, t1, t2, hd⟩ := S₂.get (.head _)
  have hm := (hd _ ho).mapOf
  have hv : valueAt [((1 : Int), Value.str "- " t1), (2, Value.str "+ " t2)] n = none := by
    simp [valueAt, h1, h2, Ne.symm h1, Ne.symm h2]
  refine tail_any hm.typeIs slot_dict_getitem.lookup (wpAny_getItem_missing_of (by simp [intKind, Value.isInt]) hds hh hm hv fun h' k hx => ?_) rfl
  obtain ⟨ok, tv, hok, hkc, hkd⟩ := hx.there
  have S₃ : St b { s₂ with heap := h', toks := s₂.toks + 1 } ((k, excC "KeyError" tv .none (vE .none)) :: L) G := (S₂.new (P := excC "KeyError" tv .none (vE .none)) hx.new hx.keeps hok (excC_mk (r := [.none, .bool false, .none]) hkc hkd rfl)).sub (.cons_cons _ (List.sublist_cons_self _ _))
  have hf3 : FmsOk (rEnv C f cd :: outer) ((k, excC "KeyError" tv .none (vE .none)) :: L) := hf.sub fun a fl h => ⟨fl, .tail _ h⟩
  refine r_note1 S₃ hfr hf3 (.head _) fun T s₄ L' u S₄ => ?_
  have e1 : L' = (k, excC "KeyError" tv (.ref T) (vE .none)) :: L := by
    cases u with
    | head => rfl
    | tail u =>
      obtain ⟨P, hP⟩ := u.has
      exact absurd (List.mem_map_of_mem (f := (·.1)) hP) (List.nodup_cons.mp S₃.nodup).1
  subst e1
  refine r_flight (fr := none) S₄ (.tail _ (.head _)) (.head _) .head fun s₅ S₅ => ?_
  refine wpAny_handleBy_builtin (X := "KeyError") (T := "KeyError") (b := true) sub_key_base key_nt sub_key_key ?_
  refine r_bname B S₅ (v := .type "KeyError") (by decide +kernel) ?_ hke
  obtain ⟨okk, hokk, _, hc, _⟩ := S₅.get (.tail _ (.head _))
  refine ⟨rfl, ⟨okk, hokk, hc⟩, ?_⟩
  rw [if_pos rfl]
  refine r_flight (fr := none) S₅ (.tail _ (.head _)) (.head _) .head fun s₆ S₆ => ?_
  refine wpAny_execs_cons ?_
  rw [arm_exec_Raise]
  refine wpAny_bind (wpAny_standAt ?_)
  show wpAny (model prog w) (A.mark (some (.ref k))) (raiseStmt (rEnv C f cd) (some _) (some _)) _ _ _
  refine w_raiseFrom PySem.F.excRaise_ValueError (k := k) rfl (fun s Q hQ => ?_) ?_
  · refine wpAny_bind (wpAny_Constant_none (wpAny_bind (wpAny_standAt (wpAny_pure hQ))))
  refine wpAny_bind ?_
  refine wpAny_Call_ofName ?_
  refine r_bname B S₆ (v := .type "ValueError") (by decide +kernel) ?_ hve
  refine callWith_excType rfl ?_
  refine Calls.evalArgs_plain (Calls.spliced_cons ?_)
  refine wpAny_BinOp ?_
  refine r_str S₆ fun t0 s₇ S₇ => ?_
  refine r_name S₇ (.tail _ (.tail _ hC)) hw fun v hv => ?_
  cases hv
  refine hP _ _ _ _ _ _ _ S₇ fun t4 s₈ S₈ => ?_
  refine Calls.spliced_nil ?_
  refine wpAny_call_exc PySem.F.excCall_ValueError (hrest := by simp [sizeLine]) fun h₁ e hm => ?_
  refine wpAny_bind (wpAny_standAt (wpAny_pure ?_))
  obtain ⟨t9, S₉, he⟩ := S₈.made (tk := s₈.toks) hm
  obtain ⟨ok2, hok2, vs2, hc2, hd2, hv0, hv1, cx2, hv2, hK2⟩ := S₉.get (a := k) (.tail _ (.tail _ (.tail _ (.head _))))
  cases hK2
  refine ⟨e, t9, ok2, _, rfl, ?_, he, hok2, hd2, hv2, fun h₂ hsb he2 => ?_⟩
  · intro e0
    exact (List.nodup_cons.mp S₉.nodup).1 (by rw [← e0]; exact .tail _ (.tail _ (.head _)))
  have SA : St b { s₈ with heap := h₂ } (excN e t9 "ValueError" [.str txt t4] ++ L) G :=
    (S₉.set (P' := excC "ValueError" (.ref t9) .none anyV) .head ⟨_, .head _⟩ hsb.extBut he2 (excC_mk (r := [.none, .bool true, .none]) rfl rfl trivial)).sub (.cons_cons _ (.cons_cons _ (.cons _ (.cons _ (.refl _)))))
  refine r_noteX0 (A := A.mark (some (.ref k))) (outer := outer) SA hfr hf fun T' sB SB => ?_
  exact r_cameBack rfl SB fun sC SC => h _ _ _ _ _ SC

/-- the reader leaves by an exception -/
theorem sx_leave {e t T : Addr} {cls : String} {args : List Value} {P : End → Shared → Prop} {c : Code} {env : Env} (hf : FmsOk (env :: outer) L) (S : St b s (excL e t T cls args (rawInt env.locals) ++ L) G)
    (h : ∀ s', St b s' (excL e t T cls args .none ++ L) G → P (.ret (.error (.ref e))) s') : SegX (model prog w) A c (rLeave env (.ref e)) [] s P := by
  unfold rLeave leaving
  refine sx_wrap ?_
  refine wpAny_bind (r_noteXA S hf ?_)
  refine r_flightX (fr := none) S fun s' S' => ?_
  exact s_end _ _ _ _ _ _ (.error (.ref e)) _ rfl (h s' S')
end
end Mine

-- part X3
open PySem PySem.W PySem.W.X PyProof.Rows PySem.Calls PySem.Spec PySem.SeqAt
set_option Elab.async false
set_option maxRecDepth 100000
set_option maxHeartbeats 400000
set_option linter.all false
namespace Mine
section
variable {prog : Program} {w : World} {A : Around} {E : Value → Shared → Prop} {b s : Shared} {L L' : Ledger} {G : GLedger} {mg mb : Str → Option Value} {names : List Str} {outer : List Env}
/-- the reader's head refuses the wish -/
def TryBad (prog : Program) (w : World) (b : Shared) (v2 : Value) (cls : String) (txt : Str) : Prop :=
  ∀ (A : Around) (E : Value → Shared → Prop) (s : Shared) (L : Ledger) (G : GLedger) (Q : Flow → Shared → Prop) (C f : Addr) (cd : Value) (outer : List Env) (fl : List (Str × VP)), A.handled = none → A.frames = some (rEnv C f cd :: outer) → FmsOk (rEnv C f cd :: outer) L → St b s L G → (C, frC fl) ∈ L → (("which" : Str), vE v2) ∈ fl →
    (∀ e t T u s', St b s' (excL e t T cls [.str txt u] (rawInt C) ++ L) G → E (.ref e) s') → wpAny (model prog w) A (exec rTry (rEnv C f cd)) Q E s
theorem tryBad_key {v2 : Value} {n : Int} {txt : Str} (B : Bs b mg mb names) (h1 : n ≠ 1) (h2 : n ≠ 2) (hI : IntTo prog w b v2 n) (hP : PctTo prog w b v2 txt) (hint : ("int" : Str) ∉ names) (hke : ("KeyError" : Str) ∉ names) (hve : ("ValueError" : Str) ∉ names) :
    TryBad prog w b v2 "ValueError" txt := by
  unfold TryBad
  intro A E s L G Q C f cd outer fl hh hfr hf S hC hw h
  with_reducible exact rg_tryKey B h1 h2 hI hP hh hfr hf S hC hw hint hke hve h
theorem rKind : rScope.kind = .function := by kernel_rfl
theorem rKindE {C f : Addr} {cd : Value} : (rEnv C f cd).scope.kind ≠ .module := fun h => by
  have h' : rScope.kind = .module := h
  rw [rKind] at h'
  cases h'

/-- the reader's first turn, where the wish is refused -/
theorem sx_bad {C f a : Addr} {cd v1 v2 : Value} {cls : String} {txt : Str} {P : End → Shared → Prop} (hT : TryBad prog w b v2 cls txt) (hh : A.handled = none) (hfr : A.frames = some outer) (hf : FmsOk outer L) (hC : (C, frC (fl0 v1 v2)) ∈ L) (S : St b s L G)
    (h : ∀ e t T u s', St b s' (excL e t T cls [.str txt u] .none ++ L) G → P (.ret (.error (.ref e))) s') :
    SegX (model prog w) A (.func rBody (rEnv C f cd)) (denote table (.func rBody (rEnv C f cd))) [] s P := by
  have hf' : FmsOk (rEnv C f cd :: outer) L := fun env he => by
    rcases List.mem_cons.mp he with rfl | he
    · exact ⟨rKindE, rfl, _, hC⟩
    · exact hf env he
  refine sx_start ?_ (by intro x; kernel_rfl)
  unfold TryBad at hT
  have hfr' : (A.over (.func rBody (rEnv C f cd)) []).frames = some (rEnv C f cd :: outer) := by
    show pushEnvs [rEnv C f cd] (pushEnvs [] A.frames) = _
    rw [hfr]; rfl
  have hh' : (A.over (.func rBody (rEnv C f cd)) []).handled = none := hh
  have hw : (("which" : Str), vE v2) ∈ fl0 v1 v2 := .tail _ (.head _)
  with_reducible refine hT _ _ _ _ _ _ C f cd outer _ hh' hfr' hf' S hC hw ?_
  intro e t T u s' S'
  exact sx_leave hf' S' fun s₂ S₂ => h e t T u s₂ S₂

/-- __next__ of a generator -/
theorem r_dnext {a : Addr} {g : Nat} {gs : GenState} {Q : Option Value → Shared → Prop} {c₀ : Code} {t₀ : Sem Fin} {fs₀ : List Frame} (hh : A.handled = none) (hl : s.heap.NoLimit) (hroom : A.depth < recursionLimit)
    (hg : s.heap.IsGen a g) (hgs : s.gens[g]? = some gs) (hw : WakeOf gs c₀ t₀ fs₀)
    (hgo : SegX (model prog w) A.in1 c₀ t₀ fs₀ (s.setGen g .running) (fun e s₁ => match e.result with
      | .yielded v => Q (some v) (s₁.setGen g e.genState)
      | .returned v => v = .none ∧ wpAny (model prog w) A.in1 (newExc (.type "StopIteration") [] >>= fun x => (raiseNew x : Sem Unit)) (fun _ _ => False) E (s₁.setGen g e.genState)
      | .raised x => ∃ T : String, s₁.TypeIs x T ∧ isSubtype (.type T) (.type "StopIteration") = pure false ∧ s₁.heap.IsGen a g ∧ E x (s₁.setGen g e.genState)
      | _ => False)) :
    wpAny (model prog w) A (callSpecial? (.ref a) (Str.ofString "__next__")) Q E s := by
  refine wpAny_callSpecial?_slot (name := Str.ofString "__next__") hg.typeIs slot_gen_next
    (wpAny_call_entry slot_gen_next hg.typeIs entry_gen_next ?_ (args_gen_next _))
  show wpAny _ A.in1 (Builtin.Generator.genWake (.ref a) (.send .none)) _ _ s
  refine g_wake hl hroom hg hgs hw (hgo.mono fun e s₁ h => ?_)
  revert h
  cases e.result with
  | yielded v => intro h; exact ⟨_, rfl, h⟩
  | returned v => intro h; exact h
  | raised x =>
    rintro ⟨T, hT, hs, hg', h⟩
    obtain ⟨o, nm, qn, ho, hc, hd, hsl⟩ := hg'
    show wpAny _ A.in1 (Builtin.Generator.genLeft (.ref a) x) _ _ _
    unfold Builtin.Generator.genLeft Builtin.Generator.madeByALambda
    refine wpAny_bind (wpAny_bind (wpAny_load (o := o) ho ?_))
    rw [hc, hd]
    have hT' : (s₁.setGen g e.genState).TypeIs x T := hT
    refine wpAny_pure (wpAny_bind (wpAny_isInstance (T := T) (b := false) hT' hs ?_))
    rw [if_neg (by rw [Bool.and_false]; exact Bool.false_ne_true)]
    show wpAny _ A.in1 (Builtin.Generator.genEscaped x) _ _ _
    unfold Builtin.Generator.genEscaped
    refine wpAny_bind (wpAny_isInstance (T := T) (b := false) hT' hs ?_)
    exact wpAny_throw h
  | running => intro h; exact h.elim
  | justStarted => intro h; exact h.elim
  | finished => intro h; exact h.elim

/-- next(..) -/
theorem r_nextB {it : Value} {T id : String} {Q : Value → Shared → Prop} (hT : s.TypeIs it T) (hs : Slot T (Str.ofString "__next__") id) (h : wpAny (model prog w) A.in1 (callSpecial? it (Str.ofString "__next__")) (fun r s' => ∃ v, r = some v ∧ Q v s') E s) :
    wpAny (model prog w) A (call (.builtin "next") [it]) Q E s := by
  refine call_function_entry (by decide +kernel) (by decide +kernel) kdk_entry_next (kdk_args_next _) ?_
  unfold Builtin.«next»
  refine wpAny_bind (m := someArgs "next" 1 2 _) (wpAny_of_eq (a := [it]) (by first | rfl | kernel_rfl!) ?_)
  dsimp only
  refine wpAny_bind (wpAny_specialOf (name := Str.ofString "__next__") hT hs.lookup ?_)
  refine wpAny_ite_split (fun hab => absurd hab (by simp)) (fun _ => ?_)
  refine wpAny_bind (wpAny_mono h (fun r s' h' => ?_) fun _ _ x => x)
  obtain ⟨v, rfl, h'⟩ := h'
  exact wpAny_pure ⟨_, rfl, h'⟩

theorem sub_value_stop : isSubtype (.type "ValueError") (.type "StopIteration") = pure false := by kernel_rfl
theorem sub_type_stop : isSubtype (.type "TypeError") (.type "StopIteration") = pure false := by kernel_rfl

/-- the first row of a reader that refuses its wish -/
theorem r_dnext_bad {a C f : Addr} {g : Nat} {cd v1 v2 : Value} {cls : String} {txt : Str} {Q : Option Value → Shared → Prop} {F : Ledger} {GF : GLedger} (B : Bs b mg mb names) (hT : TryBad prog w b v2 cls txt) (hs : isSubtype (.type cls) (.type "StopIteration") = pure false)
    (hA : Ar A 1) (hfr : A.frames = some outer) (hf : FmsOk outer F)
    (S : St b s ((a, genC g) :: (C, frC (fl0 v1 v2)) :: F) ((g, IsFresh (rEnv C f cd)) :: GF))
    (h : ∀ e t T u s', St b s' (excL e t T cls [.str txt u] .none ++ ((a, genC g) :: F)) ((g, IsFin) :: GF) → E (.ref e) s') :
    wpAny (model prog w) A (callSpecial? (.ref a) (Str.ofString "__next__")) Q E s := by
  obtain ⟨gs, hgs, hfresh⟩ := S.gens _ (.head _)
  have hroom : A.depth < recursionLimit := by have := hA.depth; omega
  cases hfresh
  have hg := S.isGen (.head _)
  refine r_dnext hA.handled (B.nolimit.keeps S.keep) hroom hg hgs (.inl ⟨rfl, rfl, rfl⟩) ?_
  have S0 := S.setGen (P' := IsRun) (gs := .running) .head rfl rfl
  have hf0 : FmsOk outer ((a, genC g) :: (C, frC (fl0 v1 v2)) :: F) := hf.sub fun a fl h => ⟨fl, .tail _ (.tail _ h)⟩
  have hfr1 : A.in1.frames = some outer := hfr
  have hh1 : A.in1.handled = none := hA.handled
  have hC0 : (C, frC (fl0 v1 v2)) ∈ ((a, genC g) :: (C, frC (fl0 v1 v2)) :: F) := .tail _ (.head _)
  have key : SegX (model prog w) A.in1 (.func rBody (rEnv C f cd)) (denote table (.func rBody (rEnv C f cd))) [] (s.setGen g .running)
      (fun e s₁ => ∃ e0 t T u, e = .ret (.error (.ref e0)) ∧ St b s₁ (excL e0 t T cls [.str txt u] .none ++ ((a, genC g) :: (C, frC (fl0 v1 v2)) :: F)) ((g, IsRun) :: GF)) := by
    with_reducible refine sx_bad (a := a) (v1 := v1) (v2 := v2) hT hh1 hfr1 hf0 hC0 S0 ?_
    intro e t T u s' S'
    exact ⟨e, t, T, u, rfl, S'⟩
  refine key.mono ?_
  rintro _ s' ⟨e, t, T, u, rfl, S'⟩
  refine ⟨cls, S'.excType, hs, S'.isGen (.tail _ (.tail _ (.tail _ (.head _)))), ?_⟩
  have S2 := S'.setGen (P' := IsFin) (gs := .finished) .head rfl rfl
  refine h e t T u _ (S2.sub ?_)
  exact .cons_cons _ (.cons_cons _ (.cons_cons _ (.cons_cons _ (.cons _ (.refl _)))))
end
end Mine

-- part X4
open PySem PySem.W PySem.W.X PyProof.Rows PySem.Calls PySem.Spec PySem.SeqAt
set_option Elab.async false
set_option maxRecDepth 100000
set_option maxHeartbeats 1000000
set_option linter.all false
namespace Mine
section
variable {prog : Program} {w : World} {A : Around} {E : Value → Shared → Prop} {b s : Shared} {L L' : Ledger} {G : GLedger} {mg mb : Str → Option Value} {names : List Str} {outer : List Env}
/-- %r of a plain value -/
theorem reprUnder_gives {T id : String} {B : Builtin} {v : Value} {x : Str} {n : Nat} {Q : Value → Shared → Prop} (hT : s.TypeIs v T) (slot : Slot T "__repr__" id)
    (entry : entryFor table id = some B) (args : argsOk id ⟨[v], []⟩) (g : PySem.Gives (B ⟨[v], []⟩) (.str x)) (htw : reprUnder? (.builtin id) = none) (h : Q (.str x s.toks) { s with toks := s.toks + 1 })
    (hv : [v].any Value.onHeap = false := by rfl) (hx : x.length ≤ sizeLine := by size_fits) :
    wpAny (model prog w) A (pyReprObjUnder n v) Q E s := by
  unfold pyReprObjUnder pyReprObjBy
  simp only [cRoomFor, hv, Bool.false_eq_true, if_false, pure_bind]
  refine wpAny_bind (wpAny_specialOf (name := Str.ofString "__repr__") hT slot.lookup ?_)
  refine wpAny_bind (wpAny_callSpecialIfBoundBy?_slotG (name := Str.ofString "__repr__") hT slot.toG ?_)
  simp only [htw]
  refine call_gives slot hT entry args g ⟨hx, ?_⟩
  exact wpAny_bind (wpAny_isInstance (T := "str") (b := true) rfl isSubtype_str_str (wpAny_pure h))
end
def preR : Str := "unknown delta choice (must be 1 or 2): "
theorem fmtR_eq : fmtR = ⟨#[117, 110, 107, 110, 111, 119, 110, 32, 100, 101, 108, 116, 97, 32, 99, 104, 111, 105, 99, 101, 32, 40, 109, 117, 115, 116, 32, 98, 101, 32, 49, 32, 111, 114, 32, 50, 41, 58, 32, 37, 114]⟩ := by decide +kernel
theorem meets_pctS {z : Str} {t u : Tok} (hz : (reprText z).length ≤ 1000000) : Meets (Builtin.«str.__mod__» ⟨[.str fmtR t, .str z u], []⟩) (fun _ R s => ∀ t' k, R (.ok (.ret (.str (preR ++ reprText z) t'))) { s with toks := k }) := by
  rw [fmtR_eq]
  apply KPc.meets_of
  intro prog w A s Q E hQ
  rw [KPc.entry_is_s]
  unfold Builtin.Str.percentFormat
  refine wpAny_bind (wpAny_isInstance (typeIs_str _ _ _) F.sub_str_tuple ?_)
  refine wpAny_bind (wpAny_of_eq (a := some _) rfl ?_)
  refine wpAny_bind (KPc.wp_fills_str ?_)
  intro _
  kpc_if
  refine wpAny_bind (wpAny_pure ?_)
  refine wpAny_bind ?_
  rw [KPc.range_list]
  refine KPc.start ?_
  intro _ _
  refine KPc.turn ?_; kpc_check; (repeat kpc_if)
  refine wpAny_pure ?_; kpc_piece
  refine KPc.turn ?_; kpc_check; (repeat kpc_if)
  refine wpAny_bind ?_; refine wpAny_holding ?_; (repeat kpc_if)
  refine wpAny_bind ?_
  (repeat kpc_if)
  refine reprUnder_gives (typeIs_str _ _ _) F.slot_str_repr F.entry_str_repr (F.args_str_repr_1 _) (gives_str_repr _ _) (by decide) ?_ (hx := Nat.le_trans hz (by decide))
  refine wpAny_bind (wpAny_of_eq (a := some _) rfl ?_)
  refine wpAny_pure ?_; refine wpAny_pure ?_
  refine KPc.after_str (by kpc_g) hz (by kpc_obj) ?_; intro _ _
  kpc_turns
theorem pctTo_str {prog : Program} {w : World} {b : Shared} {z : Str} {u : Tok} (hz : (reprText z).length ≤ 1000000) : PctTo prog w b (.str z u) (preR ++ reprText z) := fun A E s L G Q t₀ S h =>
  binaryOp_meets (T := "str") (op := .Mod) (typeIs_str s fmtR t₀) (typeIs_str s z u) F.fills_str_mod F.slot_str_mod F.entry_str_mod (F.args_str_mod_2 _ _) (meets_pctS hz) (fun t' k => ⟨(fun e => nomatch e), h _ _ (S.toks k)⟩)
end Mine

-- part N1
open PySem PySem.W PySem.W.X PyProof.Rows PySem.Calls PySem.Spec PySem.SeqAt
set_option Elab.async false
set_option maxRecDepth 100000
set_option maxHeartbeats 400000
set_option linter.all false
namespace Mine
/-- a list's iterator that has met the end -/
def itE : Cell := fun o => ∃ x, o.cls = .type "list_iterator" ∧ o.data = .fields #[.none, x]
def itX (l : Addr) : Option Nat → Cell
  | some i => itC l i
  | none => itE
section
variable {prog : Program} {w : World} {A : Around} {E : Value → Shared → Prop} {b s : Shared} {L L' : Ledger} {G : GLedger} {mg mb : Str → Option Value} {names : List Str} {outer : List Env}
/-- a new StopIteration, raised where nothing is handled -/
theorem r_stopX {α : Type} {Q : α → Shared → Prop} (hh : A.handled = none) (S : St b s L G) (h : ∀ e t s', St b s' (excN e t "StopIteration" [] ++ L) G → E (.ref e) s') :
    wpAny (model prog w) A (newExc (.type "StopIteration") [] >>= fun x => (raiseNew x : Sem α)) Q E s := by
  refine wpAny_bind ?_
  unfold newExc
  refine wpAny_bind (r_newTuple S (P := tupV []) tupV_mk fun t s₁ S₁ => ?_)
  refine wpAny_bind (m := firstArgMember _ _) (wpAny_of_eq (a := Value.none) (by first | rfl | (simp only [firstArgMember]; rfl)) ?_)
  refine wpAny_newObj_type ?_ (by size_fits)
  have S₂ := S₁.alloc (o := { cls := .type "StopIteration", data := .fields (#[.ref t, .none, .none, .none, .bool false, .none] ++ ownMembersOf (.type "StopIteration") []) }) (P := excC "StopIteration" (.ref t) .none anyV) ⟨_, rfl, rfl, rfl, rfl, .none, rfl, trivial⟩
  simp only [raiseNew]
  refine wpAny_bind (wpAny_handled ?_)
  rw [hh]
  refine wpAny_bind (wpAny_pure (wpAny_throw ?_))
  exact h _ _ _ S₂
theorem St.excType0 {e t : Addr} {cls : String} {args : List Value} (S : St b s (excN e t cls args ++ L) G) : s.TypeIs (.ref e) cls :=
  let ⟨o, ho, _, hc, _⟩ := S.get (.head _); ⟨o, ho, hc⟩
/-- the next item of a list's iterator -/
theorem r_nextItem {I l : Addr} {i : Nat} {ys : List Str} {y : Str} {Q : Option Value → Shared → Prop} (S : St b s L G) (hI : (I, itC l i) ∈ L) (hl : (l, lstS ys) ∈ L) (hy : ys[i]? = some y) (u : Upd L I (itC l (i + 1)) L')
    (h : ∀ t s', St b s' L' G → Q (some (.str y t)) s') : wpAny (model prog w) A (pyNext (.ref I)) Q E s := by
  obtain ⟨vs, hv, hs⟩ := S.lst hl
  obtain ⟨t, ht⟩ := strsAre_get hs hy
  obtain ⟨o, ho, hc, hd⟩ := S.get hI
  refine wpAny_pyNext_list_item ⟨o, ho, hc, hd⟩ hv (x := .str y t) (by rw [← Array.getElem?_toList]; exact ht) fun h' hit hsb => ?_
  obtain ⟨o', ho', hc', hd'⟩ := hit
  exact h t _ (S.set u ⟨_, hI⟩ hsb.extBut ho' ⟨hc', hd'⟩)
/-- a list's iterator meets the end -/
theorem r_nextEnd {I l : Addr} {i : Nat} {vs : Array Value} {Q : Option Value → Shared → Prop} (hh : A.handled = none) (S : St b s L G) (hI : (I, itC l i) ∈ L) (hl : s.heap.IsList l vs) (hx : vs[i]? = none) (u : Upd L I itE L')
    (h : ∀ s', St b s' L' G → Q none s') : wpAny (model prog w) A (pyNext (.ref I)) Q E s := by
  obtain ⟨o, ho, hc, hd⟩ := S.get hI
  have hit : s.heap.IsListIter I l i := ⟨o, ho, hc, hd⟩
  obtain ⟨ol, hol, _, nl, hdl⟩ := hl
  unfold pyNext
  refine wpAny_bind (wpAny_attempt (wpAny_callSpecial?_slot (name := Str.ofString "__next__") hit.typeIs slot_listiter_next
    (wpAny_call_entry slot_listiter_next hit.typeIs entry_listiter_next ?_ (args_listiter_next _))))
  show wpAny _ _ (field (.ref I) 0 >>= _) _ _ s
  refine wpAny_bind (wpAny_field ho hd (x := .ref l) rfl ?_)
  show wpAny _ _ (if (Value.ref l == Value.none) = true then _ else _) _ _ s
  rw [if_neg (show ¬ ((Value.ref l == Value.none) = true) from Bool.false_ne_true)]
  show wpAny _ _ (field (.ref I) 1 >>= _) _ _ s
  refine wpAny_bind (wpAny_field ho hd (x := .int i 0) rfl ?_)
  show wpAny _ _ (seqItems? (.ref l) >>= _) _ _ s
  refine wpAny_bind (wpAny_seqItems hol hdl ?_)
  simp only [Int.toNat_natCast, hx]
  refine wpAny_bind (wpAny_rule (wpAny_bind (wpAny_setField ho hd (by simp) ?_)))
  have hd' := Obj.data_mapFields hd (·.setIfInBounds 0 Value.none)
  have S₁ : St b { s with heap := s.heap.update I (Obj.mapFields (·.setIfInBounds 0 Value.none)) } L' G :=
    S.set u ⟨_, hI⟩ (Heap.SameBut.update ..).extBut (Heap.get?_update_self _ ho (Obj.isFreed_of_fields hd')) ⟨.int i 0, (Obj.cls_mapFields ..).trans hc, hd'⟩
  show wpAny _ _ (newExc (.type "StopIteration") [] >>= _) _ _ _
  refine r_stopX hh S₁ fun e t s' S' => ?_
  refine wpAny_bind (wpAny_isInstance (T := "StopIteration") (b := true) S'.excType0 isSubtype_stop ?_)
  exact wpAny_pure (h _ (S'.sub (.cons _ (.cons _ (.refl _)))))
/-- a list's iterator that has met the end -/
theorem r_nextOver {I : Addr} {Q : Option Value → Shared → Prop} (hh : A.handled = none) (S : St b s L G) (hI : (I, itE) ∈ L)
    (h : ∀ s', St b s' L G → Q none s') : wpAny (model prog w) A (pyNext (.ref I)) Q E s := by
  obtain ⟨o, ho, x, hc, hd⟩ := S.get hI
  have hT : s.TypeIs (.ref I) "list_iterator" := ⟨o, ho, hc⟩
  unfold pyNext
  refine wpAny_bind (wpAny_attempt (wpAny_callSpecial?_slot (name := Str.ofString "__next__") hT slot_listiter_next
    (wpAny_call_entry slot_listiter_next hT entry_listiter_next ?_ (args_listiter_next _))))
  show wpAny _ _ (field (.ref I) 0 >>= _) _ _ s
  refine wpAny_bind (wpAny_field ho hd (x := .none) rfl ?_)
  show wpAny _ _ (if (Value.none == Value.none) = true then _ else _) _ _ s
  rw [if_pos (show ((Value.none == Value.none) = true) from rfl)]
  refine wpAny_bind (wpAny_rule ?_)
  refine wpAny_bind (wpAny_mono (Q := fun _ _ => False) (?_ : wpAny _ _ (newExc (.type "StopIteration") [] >>= fun x => (raiseNew x : Sem Unit)) _ _ _) (fun _ _ x => x.elim) fun _ _ x => x)
  refine r_stopX hh S fun e t s' S' => ?_
  refine wpAny_bind (wpAny_isInstance (T := "StopIteration") (b := true) S'.excType0 isSubtype_stop ?_)
  exact wpAny_pure (h _ (S'.sub (.cons _ (.cons _ (.refl _)))))
theorem r_iterIt {I : Addr} {Q : Value → Shared → Prop} (hT : s.TypeIs (.ref I) "list_iterator") (h : Q (.ref I) s) : wpAny (model prog w) A (pyIter (.ref I)) Q E s := by
  refine wpAny_pyIter_slot hT slot_listiter_iter (wpAny_call_entry slot_listiter_iter hT entry_listiter_iter ?_ (args_listiter_iter _))
  show wpAny _ _ (ret (.ref I)) _ _ s
  exact wpAny_pure ⟨_, rfl, "list_iterator", _, hT, slot_listiter_next.lookup, h⟩
theorem St.itType {I l : Addr} {o : Option Nat} (S : St b s L G) (h : (I, itX l o) ∈ L) : s.TypeIs (.ref I) "list_iterator" := by
  obtain ⟨ob, ho, hX⟩ := S.get h
  cases o with
  | some i => exact ⟨ob, ho, hX.1⟩
  | none => obtain ⟨x, hc, hd⟩ := hX; exact ⟨ob, ho, hc⟩
/-- iter(list) -/
theorem r_iterB {l : Addr} {ys : List Str} {Q : Value → Shared → Prop} (S : St b s L G) (hl : (l, lstS ys) ∈ L) (h : ∀ I s', St b s' ((I, itC l 0) :: L) G → Q (.ref I) s') : wpAny (model prog w) A (call (.builtin "iter") [.ref l]) Q E s := by
  obtain ⟨vs, hv, hs⟩ := S.lst hl
  refine call_function_entry (by decide +kernel) (by decide +kernel) kdk_entry_iter (kdk_args_iter _) ?_
  unfold Builtin.«iter»
  refine wpAny_bind (m := someArgs "iter" 1 2 _) (wpAny_of_eq (a := [Value.ref l]) (by first | rfl | kernel_rfl!) ?_)
  show wpAny _ _ (pyIter (.ref l) >>= _) _ _ _
  refine wpAny_bind (wpAny_pyIter_list hv ?_)
  exact wpAny_pure ⟨_, rfl, h _ _ (S.alloc (P := itC l 0) ⟨rfl, rfl⟩)⟩
end
end Mine

-- part N2
open PySem PySem.W PySem.W.X PyProof.Rows PySem.Calls PySem.Spec PySem.SeqAt
set_option Elab.async false
set_option maxRecDepth 100000
set_option maxHeartbeats 400000
set_option linter.all false
namespace Mine
/-- the first row of the side from the place i on -/
def scanL (tag : Str) : List Str → Nat → Option (Str × Nat)
  | [], _ => none
  | y :: r, i => if keepS tag y then some (cutS y, i + 1) else scanL tag r (i + 1)
/-- what a reader at the place o gives, and where it is then -/
def scanX (n : Int) (ys : List Str) : Option Nat → Option Str × Option Nat
  | none => (none, none)
  | some i => match scanL (tagOf n) (ys.drop i) i with
    | some (y, j) => (some y, some j)
    | none => (none, none)
theorem scanX_end {n : Int} {ys : List Str} {i : Nat} (h : ys[i]? = none) : scanX n ys (some i) = (none, none) := by
  have : ys.drop i = [] := List.drop_eq_nil_iff.mpr (by simpa using h)
  simp [scanX, this, scanL]
theorem drop_at {α : Type} {ys : List α} {i : Nat} {y : α} (h : ys[i]? = some y) : ys.drop i = y :: ys.drop (i + 1) := by
  obtain ⟨hi, rfl⟩ := List.getElem?_eq_some_iff.mp h
  exact List.drop_eq_getElem_cons hi
theorem scanX_hit {n : Int} {ys : List Str} {i : Nat} {y : Str} (h : ys[i]? = some y) (hk : keepS (tagOf n) y = true) : scanX n ys (some i) = (some (cutS y), some (i + 1)) := by
  simp [scanX, drop_at h, scanL, hk]
theorem scanX_pass {n : Int} {ys : List Str} {i : Nat} {y : Str} (h : ys[i]? = some y) (hk : keepS (tagOf n) y = false) : scanX n ys (some i) = scanX n ys (some (i + 1)) := by
  simp [scanX, drop_at h, scanL, hk]

theorem Upd.eq_setL {α β : Type} [DecidableEq α] {L L' : List (α × β)} {a : α} {P : β} (u : Upd L a P L') (hn : (L.map (·.1)).Nodup) : L' = setL a P L := by
  induction u with
  | head => simp [setL]
  | @tail e a P' r r' u ih =>
    have hn' := List.nodup_cons.mp (show (e.1 :: r.map (·.1)).Nodup from hn)
    unfold setL
    obtain ⟨P₀, hm⟩ := u.has
    rw [if_neg (fun e0 => hn'.1 (by rw [e0]; exact List.mem_map.mpr ⟨_, hm, rfl⟩)), ih hn'.2]
theorem setL_same {α β : Type} [DecidableEq α] {L : List (α × β)} {a : α} {P : β} (h : (a, P) ∈ L) (hn : (L.map (·.1)).Nodup) : setL a P L = L := ((upd_same h).eq_setL hn).symm
theorem setL_other {α β : Type} [DecidableEq α] {a c : α} {P Q : β} (hne : c ≠ a) : ∀ {L : List (α × β)}, (c, P) ∈ L → (c, P) ∈ setL a Q L
  | [], h => nomatch h
  | e :: r, h => by
    unfold setL
    by_cases he : e.1 = a
    · rw [if_pos he]
      rcases List.mem_cons.mp h with rfl | h
      · exact absurd he hne
      · exact .tail _ h
    · rw [if_neg he]
      rcases List.mem_cons.mp h with rfl | h
      · exact .head _
      · exact .tail _ (setL_other hne h)
theorem setL_mem {α β : Type} [DecidableEq α] {L : List (α × β)} {a : α} {P P' : β} (h : (a, P) ∈ L) : (a, P') ∈ setL a P' L := (setL_upd ⟨_, h⟩).here
theorem setL_again {α β : Type} [DecidableEq α] {L : List (α × β)} {a : α} {P Q P' : β} (h : (a, P) ∈ L) : Upd (setL a Q L) a P' (setL a P' L) := by
  have := setL_upd (P := P') (L := setL a Q L) ⟨Q, setL_mem h⟩
  rwa [setL_setL] at this
theorem it_ne {b s : Shared} {L : Ledger} {G : GLedger} {I l : Addr} {o : Option Nat} {ys : List Str} (S : St b s L G) (hI : (I, itX l o) ∈ L) (hl : (l, lstS ys) ∈ L) : l ≠ I := fun e => by
  subst e
  obtain ⟨ob, ho, hc⟩ := S.itType hI
  obtain ⟨_, ho', vs, n, rfl, _⟩ := S.get hl
  rw [ho] at ho'
  cases ho'
  exact absurd hc (by simp)

section
variable {prog : Program} {w : World} {A : Around} {E : Value → Shared → Prop} {b s : Shared} {L L' : Ledger} {G : GLedger} {mg mb : Str → Option Value} {names : List Str} {outer : List Env}

abbrev rdL (a C tp : Addr) (g : Nat) (n : Int) : Ledger := [(a, genC g), (C, frC (flP tp)), (tp, tupS ["  ", tagOf n])]
/-- the reader's run from the head of its loop, over a list's iterator -/
theorem seg_scan {a C f tp I l : Addr} {cd : Value} {g : Nat} {n : Int} {F : Ledger} {GF : GLedger} {p' : Pos} {ys : List Str} {o : Option Nat}
    (hA : Ar A 1) (hI : (I, itX l o) ∈ F) (hl : (l, lstS ys) ∈ F) (hlen : ∀ x ∈ ys, x.length ≤ sizeLine)
    (S0 : St b s (rdL a C tp g n ++ F) ((g, IsRun) :: GF)) :
    SegX (model prog w) A (FL (.ref I) (rEnv C f cd)) (denote table (FL (.ref I) (rEnv C f cd))) (fsR (rEnv C f cd) p') s (fun e s₁ => match e.result with
      | .yielded v => AtLoop (.ref I) (rEnv C f cd) e.genState ∧ e.genState.bare = true ∧ ∃ y t, (scanX n ys o).1 = some y ∧ v = .str y t ∧ St b s₁ (rdL a C tp g n ++ setL I (itX l (scanX n ys o).2) F) ((g, IsRun) :: GF)
      | .returned v => v = .none ∧ e.genState = .finished ∧ (scanX n ys o).1 = none ∧ St b s₁ (rdL a C tp g n ++ setL I (itX l (scanX n ys o).2) F) ((g, IsRun) :: GF)
      | _ => False) := by
  have hne : l ≠ I := it_ne S0 (List.mem_append_right _ hI) (List.mem_append_right _ hl)
  let J : Nat → Shared → Prop := fun m s => ∃ o', scanX n ys o' = scanX n ys o ∧ m = o'.elim 0 (fun i => ys.length - i) ∧ St b s (rdL a C tp g n ++ setL I (itX l o') F) ((g, IsRun) :: GF)
  let Pend : Shared → Prop := fun s => (scanX n ys o).1 = none ∧ St b s (rdL a C tp g n ++ setL I (itX l (scanX n ys o).2) F) ((g, IsRun) :: GF)
  let Py : Value → Shared → Prop := fun v s => ∃ y t, (scanX n ys o).1 = some y ∧ v = .str y t ∧ St b s (rdL a C tp g n ++ setL I (itX l (scanX n ys o).2) F) ((g, IsRun) :: GF)
  have hS0 : St b s (rdL a C tp g n ++ setL I (itX l o) F) ((g, IsRun) :: GF) := by
    rw [setL_same hI]
    · exact S0
    · have := S0.nodup
      rw [List.map_append] at this
      exact (List.nodup_append.mp this).2.1
  refine rg_loop (b := b) (tp := tp) (tag := tagOf n) J (Pend := Pend) (Py := Py) ?_ _ _ ⟨o, rfl, rfl, hS0⟩
  rintro m s₁ ⟨o', hsc, hm, S₁⟩
  have hA1 : (A.over (FL (.ref I) (rEnv C f cd)) (fsR (rEnv C f cd) p')).handled = none := hA.handled
  have hIm : (I, itX l o') ∈ rdL a C tp g n ++ setL I (itX l o') F := List.mem_append_right _ (setL_mem hI)
  have hlm : (l, lstS ys) ∈ rdL a C tp g n ++ setL I (itX l o') F := List.mem_append_right _ (setL_other hne hl)
  cases o' with
  | none =>
    refine r_nextOver hA1 S₁ hIm fun s₂ S₂ => ?_
    have e : scanX n ys o = (none, none) := hsc.symm
    refine ⟨by rw [e], ?_⟩
    rw [e]; exact S₂
  | some i =>
    cases hy : ys[i]? with
    | none =>
      obtain ⟨vs, hv, hs⟩ := S₁.lst hlm
      refine r_nextEnd hA1 S₁ hIm hv (i := i) ?_ (Upd.left (setL_again (P' := itE) hI) _) fun s₂ S₂ => ?_
      · have h1 := strsAre_len hs
        have h2 : ys.length ≤ i := by simpa using hy
        exact Array.getElem?_eq_none (by simp only [Array.length_toList] at h1; omega)
      · have e : scanX n ys o = (none, none) := hsc.symm.trans (scanX_end hy)
        refine ⟨by rw [e], ?_⟩
        rw [e]; exact S₂
    | some y =>
      have hil : i < ys.length := (List.getElem?_eq_some_iff.mp hy).1
      refine r_nextItem S₁ hIm hlm hy (Upd.left (setL_again (P' := itC l (i + 1)) hI) _) fun t s₂ S₂ => ?_
      refine ⟨y, ⟨t, rfl⟩, hlen y (List.mem_of_getElem? hy), _, _, flP tp, [(("prefixes" : Str), vE (.ref tp)), (("line" : Str), vS y)], (a, genC g) :: (C, frC [(("prefixes" : Str), vE (.ref tp)), (("line" : Str), vS y)]) :: (tp, tupS ["  ", tagOf n]) :: setL I (itC l (i + 1)) F, S₂,
        .tail _ (.head _), .skip (by kernel_rfl) .nil, .tail .head, .head _, .tail _ (.tail _ (.head _)), fun s₃ S₃ => ?_⟩
      have back : ∀ {s}, St b s ((a, genC g) :: (C, frC [(("prefixes" : Str), vE (.ref tp)), (("line" : Str), vS y)]) :: (tp, tupS ["  ", tagOf n]) :: setL I (itC l (i + 1)) F) ((g, IsRun) :: GF) → St b s (rdL a C tp g n ++ setL I (itX l (some (i + 1))) F) ((g, IsRun) :: GF) := fun S =>
        S.less (.tail _ (.head _)) (.tail .head) fun o ho => frC_sub (fun q hq => by cases List.mem_singleton.mp hq; exact .head _) ho
      cases hkp : keepS (tagOf n) y with
      | true =>
        rw [if_pos rfl]
        intro t' s₄ S₄
        have e : scanX n ys o = (some (cutS y), some (i + 1)) := hsc.symm.trans (scanX_hit hy hkp)
        refine ⟨cutS y, t', by rw [e], rfl, ?_⟩
        rw [e]; exact back S₄
      | false =>
        rw [if_neg Bool.false_ne_true]
        refine ⟨ys.length - (i + 1), by rw [hm]; simp only [Option.elim]; omega, some (i + 1), (scanX_pass hy hkp).symm.trans hsc, rfl, back S₃⟩
end
end Mine

-- part N3
open PySem PySem.W PySem.W.X PyProof.Rows PySem.Calls PySem.Spec PySem.SeqAt
set_option Elab.async false
set_option maxRecDepth 100000
set_option maxHeartbeats 400000
set_option linter.all false
namespace Mine
section
variable {prog : Program} {w : World} {A : Around} {E : Value → Shared → Prop} {b s : Shared} {L L' : Ledger} {G : GLedger} {mg mb : Str → Option Value} {names : List Str} {outer : List Env}

/-- what a reader's answer is to be good for -/
structure Says (b : Shared) (Q : Option Value → Shared → Prop) (E : Value → Shared → Prop) (a C f tp I l : Addr) (cd : Value) (g : Nat) (n : Int) (ys : List Str) (o : Option Nat) (F : Ledger) (GF : GLedger) : Prop where
  row : ∀ y t s', (scanX n ys o).1 = some y → St b s' (rdL a C tp g n ++ setL I (itX l (scanX n ys o).2) F) ((g, AtLoop (.ref I) (rEnv C f cd)) :: GF) → Q (some (.str y t)) s'
  fin : (scanX n ys o).1 = none → ∀ e t s', St b s' (excN e t "StopIteration" [] ++ ((a, genC g) :: setL I (itX l (scanX n ys o).2) F)) ((g, IsFin) :: GF) → E (.ref e) s'

/-- from the head of the loop on -/
theorem dn_seg {a C f tp I l : Addr} {cd : Value} {g : Nat} {n : Int} {F : Ledger} {GF : GLedger} {p' : Pos} {ys : List Str} {o : Option Nat} {Q : Option Value → Shared → Prop}
    (hA : Ar A 1) (hI : (I, itX l o) ∈ F) (hl : (l, lstS ys) ∈ F) (hlen : ∀ x ∈ ys, x.length ≤ sizeLine)
    (S0 : St b s (rdL a C tp g n ++ F) ((g, IsRun) :: GF)) (H : Says b Q E a C f tp I l cd g n ys o F GF) :
    SegX (model prog w) A.in1 (FL (.ref I) (rEnv C f cd)) (denote table (FL (.ref I) (rEnv C f cd))) (fsR (rEnv C f cd) p') s (fun e s₁ => match e.result with
      | .yielded v => Q (some v) (s₁.setGen g e.genState)
      | .returned v => v = .none ∧ wpAny (model prog w) A.in1 (newExc (.type "StopIteration") [] >>= fun x => (raiseNew x : Sem Unit)) (fun _ _ => False) E (s₁.setGen g e.genState)
      | .raised x => ∃ T : String, s₁.TypeIs x T ∧ isSubtype (.type T) (.type "StopIteration") = pure false ∧ s₁.heap.IsGen a g ∧ E x (s₁.setGen g e.genState)
      | _ => False) := by
  refine (seg_scan hA.in1 hI hl hlen S0).mono fun e s₁ h => ?_
  revert h
  cases e.result with
  | yielded v =>
    rintro ⟨hat, hbare, y, t, hy, rfl, S₁⟩
    exact H.row y t _ hy (S₁.setGen .head hat hbare)
  | returned v =>
    rintro ⟨rfl, hfin, hy, S₁⟩
    refine ⟨rfl, ?_⟩
    rw [hfin]
    have S₂ := S₁.setGen (P' := IsFin) (gs := .finished) .head rfl rfl
    refine r_stopX hA.handled (S₂.sub (L' := (a, genC g) :: setL I (itX l (scanX n ys o).2) F) (.cons_cons _ (.cons _ (.cons _ (.refl _))))) fun e t s' S' => ?_
    exact H.fin hy e t s' S'
  | raised x => intro h; exact h.elim
  | running => intro h; exact h.elim
  | justStarted => intro h; exact h.elim
  | finished => intro h; exact h.elim

/-- a reader within its loop -/
theorem dn_loop {a C f tp I l : Addr} {cd : Value} {g : Nat} {n : Int} {F : Ledger} {GF : GLedger} {ys : List Str} {o : Option Nat} {Q : Option Value → Shared → Prop} (B : Bs b mg mb names)
    (hA : Ar A 1) (hI : (I, itX l o) ∈ F) (hl : (l, lstS ys) ∈ F) (hlen : ∀ x ∈ ys, x.length ≤ sizeLine)
    (S : St b s (rdL a C tp g n ++ F) ((g, AtLoop (.ref I) (rEnv C f cd)) :: GF)) (H : Says b Q E a C f tp I l cd g n ys o F GF) :
    wpAny (model prog w) A (callSpecial? (.ref a) (Str.ofString "__next__")) Q E s := by
  obtain ⟨gs, hgs, kk, l', p, p', rfl, hkk⟩ := S.gens _ (.head _)
  have hg := S.isGen (.head _)
  have hw : WakeOf (.suspended kk l' (FL (.ref I) (rEnv C f cd)) p (fsR (rEnv C f cd) p') false) (FL (.ref I) (rEnv C f cd)) (.pure (.again (FL (.ref I) (rEnv C f cd)))) (fsR (rEnv C f cd) p') := .inr ⟨kk, l', p, false, rfl, hkk.symm⟩
  refine r_dnext hA.handled (B.nolimit.keeps S.keep) (by have := hA.depth; omega) hg hgs hw ?_
  refine s_again _ _ _ _ _ _ _ _ rfl ?_
  exact dn_seg hA hI hl hlen (S.setGen (P' := IsRun) .head rfl rfl) H

theorem setL_hd {a C : Addr} {g : Nat} {P Q : Cell} {s : Shared} {F : Ledger} {G : GLedger} (S : St b s ((a, genC g) :: (C, P) :: F) G) : setL C Q ((a, genC g) :: (C, P) :: F) = (a, genC g) :: (C, Q) :: F :=
  ((Upd.tail .head).eq_setL S.nodup).symm

/-- a fresh reader of a list -/
theorem dn_freshL {a C f l : Addr} {cd v2 : Value} {g : Nat} {n : Int} {F : Ledger} {GF : GLedger} {ys : List Str} {Q : Option Value → Shared → Prop} (B : Bs b mg mb names) (hfree : ("int" : Str) ∉ names) (hn : n = 1 ∨ n = 2) (hI2 : IntTo prog w b v2 n)
    (hA : Ar A 1) (hl : (l, lstS ys) ∈ F) (hlen : ∀ x ∈ ys, x.length ≤ sizeLine)
    (S : St b s ((a, genC g) :: (C, frC (fl0 (.ref l) v2)) :: F) ((g, IsFresh (rEnv C f cd)) :: GF))
    (H : ∀ tp I, Says b Q E a C f tp I l cd g n ys (some 0) ((I, itX l (some 0)) :: F) GF) :
    wpAny (model prog w) A (callSpecial? (.ref a) (Str.ofString "__next__")) Q E s := by
  obtain ⟨gs, hgs, hfr⟩ := S.gens _ (.head _)
  cases hfr
  have hg := S.isGen (.head _)
  refine r_dnext hA.handled (B.nolimit.keeps S.keep) (by have := hA.depth; omega) hg hgs (.inl ⟨rfl, rfl, rfl⟩) ?_
  have S0 := S.setGen (P' := IsRun) (gs := .running) .head rfl rfl
  refine rg_begin (v1 := .ref l) (v2 := v2) B hfree hn hI2 hA.handled S0 (.tail _ (.head _)) fun tp s₁ S₁ => ?_
  rw [setL_hd S0] at S₁
  obtain ⟨vs, hv, _⟩ := S₁.lst (.tail _ (.tail _ (.tail _ hl)))
  refine wpAny_pyIter_list hv fun p => ?_
  have S₂ := S₁.alloc (P := itC l 0) (o := { cls := .type "list_iterator", data := .fields #[.ref l, .int 0 0] }) ⟨rfl, rfl⟩
  have S₃ := (S₂.less (P' := frC (flP tp)) (.tail _ (.tail _ (.tail _ (.head _)))) (.tail (.tail (.tail .head))) fun o ho => frC_sub (fun q hq => by cases List.mem_singleton.mp hq; exact .tail _ (.tail _ (.tail _ (.head _)))) ho).perm (L' := rdL a C tp g n ++ ((s₁.heap.objs.size, itX l (some 0)) :: F)) (by
    refine List.Perm.trans (l₂ := (a, genC g) :: (C, frC (flP tp)) :: (s₁.heap.objs.size, itX l (some 0)) :: (tp, tupS ["  ", tagOf n]) :: F) ?_ ?_
    · exact .cons _ (.cons _ (.swap _ _ _))
    · exact (List.perm_append_comm (l₁ := [(a, genC g), (C, frC (flP tp))]) (l₂ := [(s₁.heap.objs.size, itX l (some 0)), (tp, tupS ["  ", tagOf n])])).append_right F)
  exact dn_seg hA (.head _) (.tail _ hl) hlen S₃ (H tp _)

/-- a fresh reader of a list's iterator -/
theorem dn_freshI {a C f l I : Addr} {cd v2 : Value} {g : Nat} {n : Int} {F : Ledger} {GF : GLedger} {ys : List Str} {o : Option Nat} {Q : Option Value → Shared → Prop} (B : Bs b mg mb names) (hfree : ("int" : Str) ∉ names) (hn : n = 1 ∨ n = 2) (hI2 : IntTo prog w b v2 n)
    (hA : Ar A 1) (hI : (I, itX l o) ∈ F) (hl : (l, lstS ys) ∈ F) (hlen : ∀ x ∈ ys, x.length ≤ sizeLine)
    (S : St b s ((a, genC g) :: (C, frC (fl0 (.ref I) v2)) :: F) ((g, IsFresh (rEnv C f cd)) :: GF))
    (H : ∀ tp, Says b Q E a C f tp I l cd g n ys o F GF) :
    wpAny (model prog w) A (callSpecial? (.ref a) (Str.ofString "__next__")) Q E s := by
  obtain ⟨gs, hgs, hfr⟩ := S.gens _ (.head _)
  cases hfr
  have hg := S.isGen (.head _)
  refine r_dnext hA.handled (B.nolimit.keeps S.keep) (by have := hA.depth; omega) hg hgs (.inl ⟨rfl, rfl, rfl⟩) ?_
  have S0 := S.setGen (P' := IsRun) (gs := .running) .head rfl rfl
  refine rg_begin (v1 := .ref I) (v2 := v2) B hfree hn hI2 hA.handled S0 (.tail _ (.head _)) fun tp s₁ S₁ => ?_
  rw [setL_hd S0] at S₁
  refine r_iterIt (S₁.itType (.tail _ (.tail _ (.tail _ hI)))) fun p => ?_
  have S₃ := (S₁.less (P' := frC (flP tp)) (.tail _ (.tail _ (.head _))) (.tail (.tail .head)) fun o ho => frC_sub (fun q hq => by cases List.mem_singleton.mp hq; exact .tail _ (.tail _ (.tail _ (.head _)))) ho).perm (L' := rdL a C tp g n ++ F) (by
    refine List.Perm.trans (l₂ := (a, genC g) :: (tp, tupS ["  ", tagOf n]) :: (C, frC (flP tp)) :: F) ?_ (.swap _ _ _)
    exact .cons _ (.swap _ _ _))
  exact dn_seg hA hI hl hlen S₃ (H tp)

/-- a reader that has ended -/
theorem dn_fin {a : Addr} {g : Nat} {Q : Option Value → Shared → Prop} (hh : A.handled = none) (S : St b s L G) (ha : (a, genC g) ∈ L) (hg : (g, IsFin) ∈ G)
    (h : ∀ e t s', St b s' (excN e t "StopIteration" [] ++ L) G → E (.ref e) s') :
    wpAny (model prog w) A (callSpecial? (.ref a) (Str.ofString "__next__")) Q E s := by
  obtain ⟨gs, hgs, rfl⟩ := S.gens _ hg
  have hgn := S.isGen ha
  refine wpAny_callSpecial?_slot (name := Str.ofString "__next__") hgn.typeIs slot_gen_next
    (wpAny_call_entry slot_gen_next hgn.typeIs entry_gen_next ?_ (args_gen_next _))
  show wpAny _ A.in1 (Builtin.Generator.genWake (.ref a) (.send .none)) _ _ s
  unfold Builtin.Generator.genWake
  refine wpAny_bind (wpAny_holding (wpAny_genNumber hgn (wpAny_bind (wpAny_genState hgs ?_))))
  show wpAny _ A.in1 (resume g (.send .none) >>= _) _ _ s
  refine wpAny_bind ?_
  intro Γ p hΓ
  show Sem.wp _ Γ (.resume g (.send .none) [] .pure) _ _ p s
  rw [Sem.wp_resume]
  refine ⟨.finished, s, by unfold Wakes; rw [hgs]; exact ⟨rfl, rfl⟩, ?_⟩
  show wpAny (model prog w) A.in1 (newExc (.type "StopIteration") [] >>= fun x => (raiseNew x)) _ _ s
  exact r_stopX hh S h
end
end Mine

-- part M4
open PySem PySem.W PySem.W.X PyProof.Rows PySem.Calls PySem.Spec PySem.SeqAt
set_option Elab.async false
set_option maxRecDepth 100000
set_option maxHeartbeats 400000
set_option linter.all false
namespace Mine

def lstI (ns : List Int) : Cell := fun o => ∃ vs n, o = lstObj vs n ∧ IntsAre vs.toList ns
theorem hasL_I {b : Shared} {Lr : Ledger} {l : Addr} {ns : List Int} (h : (l, lstI ns) ∈ Lr) : HasL b Lr l (ns.map vI) := fun s F G hF S => by
  obtain ⟨_, e, vs, n, rfl, hi⟩ := S.get (hF _ h)
  refine ⟨vs, ⟨_, e, rfl, n, rfl⟩, by simpa using hi.length, fun i P e => ?_⟩
  rw [List.getElem?_map] at e
  obtain ⟨y, hy, rfl⟩ := Option.map_eq_some_iff.mp e
  obtain ⟨t, ht⟩ := intsAre_get hi hy
  exact ⟨_, by rw [← Array.getElem?_toList]; exact ht, t, rfl⟩

theorem strs_reverse {vs : List Value} {ys : List Str} (h : StrsAre vs ys) : StrsAre vs.reverse ys.reverse := by
  induction h with
  | nil => exact .nil
  | cons y t _ ih => rw [List.reverse_cons, List.reverse_cons]; exact ih.append' (.cons y t .nil)

section
variable {prog : Program} {w : World} {A : Around} {E : Value → Shared → Prop} {b s : Shared} {L L' X : Ledger} {G : GLedger} {env : Env} {mg mb : Str → Option Value} {names : List Str} {Q : Value → Shared → Prop}

theorem r_min2 {x y : Int} {t u : Tok} (hh : A.handled = none) (S : St b s L G) (h : ∀ t s', St b s' L G → Q (.int (min x y) t) s') : wpAny (model prog w) A (call (.builtin "min") [.int x t, .int y u]) Q E s := by
  refine PySem.Flt.min_two_num hh (.int x t) (.int y u) fun h' tk hk => ?_
  have S' : St b { s with heap := h', toks := tk } L G := S.keeps hk
  show Q (if decide (y < x) = true then .int y u else .int x t) _
  by_cases hlt : y < x
  · rw [if_pos (by simpa using hlt)]
    have := h u _ S'
    rwa [Int.min_eq_right (by omega)] at this
  · rw [if_neg (by simpa using hlt)]
    have := h t _ S'
    rwa [Int.min_eq_left (by omega)] at this

theorem r_callB2 {x : Str} {e₁ e₂ : Expr} {p pos : Pos} {id : String} (B : Bs b mg mb names) (S : St b s L G) (hv : bootBuiltins x = some (.builtin id))
    (h : wpAny (model prog w) A (eval e₁ env) (fun v₁ s₁ => wpAny (model prog w) A (eval e₂ env) (fun v₂ s₂ => wpAny (model prog w) A (call (.builtin id) [v₁, v₂]) Q E s₂) E s₁) E s)
    (hfree : x ∉ names := by decide) (hn : x ≠ "__name__" := by decide) (hg : env.globals = mainGlobals := by kernel_rfl) (hb : env.builtins = builtinsNs := by kernel_rfl)
    (hk : env.scope.kind = .function := by kernel_rfl) (hx : env.kindOf x = some .globalImplicit := by kernel_rfl) (hd : (x == ("__debug__" : Str)) = false := by decide)
    (ht : backTo pos (starEach [e₁, e₂] env) = [(false, eval e₁ env), (false, eval e₂ env)] := by kernel_rfl) :
    wpAny (model prog w) A (eval (.Call (.Name x p) [e₁, e₂] [] pos) env) Q E s := by
  refine wpAny_Call_NameR (r_bname B S hv ?_ hfree hn hg hb hk hx hd)
  rw [ht]
  exact Calls.callWith_builtin rfl (Calls.evalArgs_plain (Calls.spliced_cons (wpAny_mono h (fun _ _ h₁ => Calls.spliced_cons (wpAny_mono h₁ (fun _ _ h₂ => Calls.spliced_nil h₂) fun _ _ e => e)) fun _ _ e => e)))

theorem r_addLS {l l' : Addr} {ys zs : List Str} (S : St b s L G) (hl : (l, lstS ys) ∈ L) (hl' : (l', lstS zs) ∈ L) (hz : ys.length + zs.length ≤ sizeLine) (h : ∀ a s', St b s' ((a, lstS (ys ++ zs)) :: L) G → Q (.ref a) s') : wpAny (model prog w) A (binaryOp .Add (.ref l) (.ref l')) Q E s := by
  obtain ⟨vs, n, hv, hs⟩ := S.isLS hl
  obtain ⟨us, m, hv', hs'⟩ := S.isLS hl'
  refine P.add_list hv hv' (h _ _ (S.alloc (P := lstS (ys ++ zs)) ⟨_, 0, rfl, ?_⟩)) (by rw [size_of hs, size_of hs']; exact hz)
  simpa using hs.append' hs'
theorem r_addLI {l l' : Addr} {ys zs : List Int} (S : St b s L G) (hl : (l, lstI ys) ∈ L) (hl' : (l', lstI zs) ∈ L) (hz : ys.length + zs.length ≤ sizeLine) (h : ∀ a s', St b s' ((a, lstI (ys ++ zs)) :: L) G → Q (.ref a) s') : wpAny (model prog w) A (binaryOp .Add (.ref l) (.ref l')) Q E s := by
  obtain ⟨_, hv, vs, n, rfl, hs⟩ := S.get hl
  obtain ⟨_, hv', us, m, rfl, hs'⟩ := S.get hl'
  have e1 : vs.size = ys.length := by simpa using hs.length
  have e2 : us.size = zs.length := by simpa using hs'.length
  refine P.add_list hv hv' (h _ _ (S.alloc (P := lstI (ys ++ zs)) ⟨_, 0, rfl, ?_⟩)) (by rw [e1, e2]; exact hz)
  simpa using hs.append hs'
/-- list(ints of the call) -/
theorem r_listI {l : Addr} {vs : List Value} {ns : List Int} (S : St b s L G) (hL : b.heap.IsList l vs.toArray) (hI : IntsAre vs ns) (hz : ns.length ≤ sizeLine) (h : ∀ a s', St b s' ((a, lstI ns) :: L) G → Q (.ref a) s') : wpAny (model prog w) A (call (.type "list") [.ref l]) Q E s := by
  obtain ⟨o, ho, hc, n, hd⟩ := hL
  refine call_list_seq l (.inl rfl) (S.keep _ _ ho) hc hd (fun h' c' hk hg => h _ _ (S.new (heap_get_size _) hk hg ⟨_, c', rfl, by simpa using hI⟩)) (by
    have := hI.length
    simpa [this] using hz)

theorem r_itemVneg {value slice : Expr} {l : Addr} {vs : List Value} {k : Int} {u : Tok} {v : Value} (S : St b s L G) (hl : (l, lstV vs) ∈ L) (h0 : k < 0) (h1 : -(vs.length : Int) ≤ k) (hz : -(2 ^ 63) ≤ k) (hy : vs[(k + vs.length).toNat]? = some v) (h : Q v s)
    (hs : subscripted slice false (.ref l) (.int k u) = operate [.ref l, .int k u] (getItem (.ref l) (.int k u)) := by kernel_rfl) :
    wpAny (model prog w) A (subscriptTail value slice (.ref l) (.int k u)) Q E s := by
  obtain ⟨n, hv⟩ := S.isLV hl
  exact tail_any hv.isList.typeIs slot_list_getitem.lookup (wpAny_getItem_list_neg hv.isList h0 (by simpa using h1) hz (by simpa using hy) h) hs

theorem fm_some {α β : Type} (f : α → Option β) : ∀ (l : List α) (r : List β), l.map f = r.map some → l.filterMap f = r
  | [], [], _ => rfl
  | [], _ :: _, h => by simp at h
  | _ :: _, [], h => by simp at h
  | a :: l, c :: r, h => by
    simp only [List.map_cons, List.cons.injEq] at h
    rw [List.filterMap_cons, h.1, fm_some f l r h.2]
theorem rev_pick (items : Array Value) : slicePick items none none (some (-1)) = items.toList.reverse.toArray := by
  unfold slicePick sliceBounds sliceRange
  simp only [Option.getD_some, show ¬ ((-1 : Int) > 0) by decide, if_false]
  congr 1
  have hn : (if ((items.size : Int) - 1) > -1 then ((items.size : Int) - 1 - -1 - -1 - 1) / (- -1) else 0).toNat = items.size := by
    split
    · rw [show (- -1 : Int) = 1 by decide, Int.ediv_one]; omega
    · omega
  rw [hn]
  apply fm_some
  rw [List.map_map]
  apply List.ext_getElem?
  intro i
  simp only [List.getElem?_map]
  by_cases hi : i < items.size
  · rw [List.getElem?_range hi, List.getElem?_reverse (by simpa using hi)]
    simp only [Option.map_some, Function.comp, Array.length_toList]
    rw [show ((items.size : Int) - 1 + -1 * (i : Int)).toNat = items.size - 1 - i by omega, Array.getElem?_toList, Array.getElem?_eq_getElem (show items.size - 1 - i < items.size by omega)]
    rfl
  · rw [List.getElem?_eq_none (by simpa using hi), List.getElem?_eq_none (by simpa using hi)]
    rfl

/-- texts[::-1] -/
theorem r_rev {value : Expr} {st : Expr} {p pos : Pos}
    (h : wpAny (model prog w) A (eval value env) (fun o s₁ => ∃ l, o = .ref l ∧ wpAny (model prog w) A (eval st env) (fun v s₂ => ∃ t ys L G, v = .int (-1) t ∧ St b s₂ L G ∧ (l, lstS ys) ∈ L ∧ ys.length ≤ sizeLine ∧ ∀ a s', St b s' ((a, lstS ys.reverse) :: L) G → Q (.ref a) s') E s₁) E s)
    (ht : ∀ o r, letTemporaryGo value o r = pure () := by intro _ _; kernel_rfl) :
    wpAny (model prog w) A (eval (.Subscript value (.Slice none none (some st) p) pos) env) Q E s := by
  refine wpAny_Subscript_Slice_step (T := "list") list_getitem_lookup (wpAny_mono h (fun o s₁ h₁ => ?_) fun _ _ x => x) ht
  obtain ⟨l, rfl, h₁⟩ := h₁
  refine wpAny_Slice (wpAny_evalPart_none (wpAny_evalPart_none (wpAny_evalPart_some (wpAny_mono h₁ (fun v s₂ h₂ => ?_) fun _ _ x => x))))
  obtain ⟨t, ys, L, G, rfl, S, hl, hz, hQ⟩ := h₂
  obtain ⟨vs, n, hv, hs⟩ := S.isLS hl
  have S₁ := S.push { cls := .type "slice", data := .fields #[.none, .none, .int (-1) t] } s₂.toks
  refine ⟨(hv.isList.push _).typeIs, wpAny_getItem_list_slice (hv.isList.push _) (Heap.IsSliceOf.new ..) .none .none (.int _ _) (by decide) (hQ _ _ (S₁.alloc (P := lstS ys.reverse) ⟨_, 0, rfl, ?_⟩)) (by rw [size_of hs]; exact hz)⟩
  rw [rev_pick]
  exact strs_reverse hs

/-- a method of a list's without arguments -/
theorem r_meth0 {o : Expr} {name : Str} {apos pos : Pos} {id : String} (slot : Slot "list" name id) (hty : typeOf (.builtin id) = pure (.type "method_descriptor"))
    (h : wpAny (model prog w) A (eval o env) (fun ov s₁ => ∃ D ob, ov = .ref D ∧ s₁.heap.get? D = some ob ∧ ob.cls = .type "list" ∧ ob.dict = none ∧ wpAny (model prog w) A (callWith pos (.builtin id) [.ref D] [] []) Q E s₁) E s)
    (hbase : attributeBase o name env (eval o env) = eval o env := by kernel_rfl) (hline : (apos.endLine == pos.line) = true := by kernel_rfl) :
    wpAny (model prog w) A (eval (.Call (.Attribute o name apos) [] [] pos) env) Q E s := by
  refine wpAny_Call_method (T := "list") (id := id) hbase rfl hline F.plainAttrs_list slot hty (wpAny_mono h (fun ov s₁ h₁ => ?_) fun _ _ x => x)
  obtain ⟨D, ob, rfl, ho, hc, hd, h₂⟩ := h₁
  refine ⟨⟨ob, ho, hc⟩, fun a e => ?_, h₂⟩
  cases e
  exact ⟨ob, ho, hd⟩
theorem r_popV {o : Expr} {apos pos : Pos} 
    (h : wpAny (model prog w) A (eval o env) (fun ov s₁ => ∃ l vs v L L' G, ov = .ref l ∧ St b s₁ L G ∧ (l, lstV (vs ++ [v])) ∈ L ∧ Upd L l (lstV vs) L' ∧ vs.length < sizeLine ∧ ∀ s', St b s' L' G → Q v s') E s)
    (hbase : attributeBase o "pop" env (eval o env) = eval o env := by kernel_rfl) (hline : (apos.endLine == pos.line) = true := by kernel_rfl) :
    wpAny (model prog w) A (eval (.Call (.Attribute o "pop" apos) [] [] pos) env) Q E s := by
  refine r_meth0 F.slot_list_pop F.type_list_pop (wpAny_mono h (fun ov s₁ h₁ => ?_) fun _ _ x => x) hbase hline
  obtain ⟨l, vs, v, L, L', G, rfl, S, hl, hu, hz, hQ⟩ := h₁
  obtain ⟨n, hv⟩ := S.isLV hl
  refine ⟨_, _, rfl, hv, rfl, rfl, P.pop_list hv (y := v) (by simp) (hQ _ (S.set hu ⟨_, hl⟩ (Heap.SameBut.update ..).extBut (hv.update _) ?_)) (by simp; omega)⟩
  obtain ⟨n', e⟩ := lst_push (vs := (vs ++ [v]).toArray) (n := n) (fun xs => xs.eraseIdxIfInBounds ((vs ++ [v]).toArray.size - 1))
  refine ⟨n', e.trans ?_⟩
  have : (vs ++ [v]).toArray.eraseIdxIfInBounds ((vs ++ [v]).toArray.size - 1) = vs.toArray := by
    simp
    rw [List.eraseIdx_append_of_length_le (Nat.le_refl _)]
    simp
  rw [this]
theorem r_methV {o e : Expr} {name : Str} {apos pos : Pos} {id : String} {env : Env} (slot : Slot "list" name id) (hty : typeOf (.builtin id) = pure (.type "method_descriptor"))
    (h : wpAny (model prog w) A (eval o env) (fun ov s₁ => ∃ l ys L G, ov = .ref l ∧ St b s₁ L G ∧ (l, lstV ys) ∈ L ∧ wpAny (model prog w) A (callWith pos (.builtin id) [.ref l] [(false, eval e env)] []) Q E s₁) E s)
    (hbase : attributeBase o name env (eval o env) = eval o env := by kernel_rfl) (hline : (apos.endLine == pos.line) = true := by kernel_rfl) (htrees : backTo pos (starEach [e] env) = [(false, eval e env)] := by kernel_rfl) :
    wpAny (model prog w) A (eval (.Call (.Attribute o name apos) [e] [] pos) env) Q E s := by
  refine r_meth1 slot hty (wpAny_mono h (fun ov s₁ h₁ => ?_) fun _ _ x => x) hbase hline htrees
  obtain ⟨l, ys, L, G, rfl, S, hl, h₂⟩ := h₁
  obtain ⟨_, e, m, rfl⟩ := S.get hl
  exact ⟨_, _, rfl, e, rfl, rfl, h₂⟩

theorem strs_any {vs : List Value} {ys : List Str} (h : StrsAre vs ys) (x : Str) (e : Value → Bool) (he : ∀ y t, e (.str y t) = (y == x)) : vs.any e = ys.any (· == x) := by
  induction h with
  | nil => rfl
  | cons y t _ ih => simp only [List.any_cons, he, ih]
theorem strs_mem {vs : List Value} {ys : List Str} (h : StrsAre vs ys) : ∀ v ∈ vs, ∃ y t, v = .str y t := by
  induction h with
  | nil => intro v hv; cases hv
  | cons y t _ ih =>
    intro v hv
    rcases List.mem_cons.mp hv with rfl | hv
    · exact ⟨y, t, rfl⟩
    · exact ih v hv
theorem r_notInS {l : Addr} {ys : List Str} {x : Str} {t : Tok} (S : St b s L G) (hl : (l, lstS ys) ∈ L) (h : Q (.bool (!ys.any (· == x))) s) : wpAny (model prog w) A (compareOp .NotIn (.str x t) (.ref l)) Q E s := by
  obtain ⟨vs, n, hv, hs⟩ := S.isLS hl
  refine PySem.SeqAt.notIn_listAt (fun v => match v with | .str y _ => y == x | _ => false) hv.isList (fun y hy => ?_) ?_
  · obtain ⟨z, u, rfl⟩ := strs_mem hs y (by simpa using hy)
    exact EqAt.str_str _ _ _ _
  · rw [← Array.any_toList, strs_any hs x _ (fun _ _ => rfl)]
    exact h
end
theorem intTo_two {prog : Program} {w : World} {b : Shared} {t : Tok} : IntTo prog w b (.str "2" t) 2 := fun _ _ _ _ _ _ _ S h => KIN.call_text (by decide +kernel) (by decide +kernel) (h _ _ (S.toks _))
end Mine

-- part M4b
open PySem PySem.W PySem.W.X PyProof.Rows PySem.Calls PySem.Spec PySem.SeqAt
set_option Elab.async false
set_option maxRecDepth 100000
set_option maxHeartbeats 400000
set_option linter.all false
namespace Mine
section
variable {prog : Program} {w : World} {A : Around} {E : Value → Shared → Prop} {b s : Shared} {L L' X : Ledger} {G : GLedger} {env : Env} {mg mb : Str → Option Value} {names : List Str} {Q : Value → Shared → Prop}

theorem r_usub {x : Int} {t : Tok} (S : St b s L G) (h : ∀ t s', St b s' L G → Q (.int (-x) t) s') : wpAny (model prog w) A (unaryOp .USub (.int x t)) Q E s := PyProof.Rows.neg_int (h _ _ (S.toks _))
theorem r_isub {x y : Int} {t u : Tok} (S : St b s L G) (h : ∀ t s', St b s' L G → Q (.int (x - y) t) s') : wpAny (model prog w) A (inplaceOp .Sub (.int x t) (.int y u)) Q E s := PyProof.Rows.isub_int (h _ _ (S.toks _))
/-- len of a list of the call's -/
theorem r_lenB {l : Addr} {vs : List Value} (S : St b s L G) (hL : b.heap.IsList l vs.toArray) (hz : vs.length ≤ sizeLine) (h : ∀ t s', St b s' L G → Q (.int vs.length t) s') : wpAny (model prog w) A (call (.builtin "len") [.ref l]) Q E s := by
  have hv : s.heap.IsList l vs.toArray := hL.at fun o e => S.keep _ _ e
  refine call_len_list hv ?_ ?_
  · rw [List.size_toArray]; have : sizeLine < 2 ^ 63 := by decide
    omega
  · rw [List.size_toArray]; exact h _ _ (S.toks _)
/-- [text] -/
theorem r_list1S {e : Expr} {pos : Pos} (h : wpAny (model prog w) A (eval e env) (fun v s₁ => ∃ y t L G, v = .str y t ∧ St b s₁ L G ∧ ∀ a s', St b s' ((a, lstS [y]) :: L) G → Q (.ref a) s') E s)
    (ht : backTo pos (starEach [e] env) = [(false, eval e env)] := by kernel_rfl) : wpAny (model prog w) A (eval (.List [e] pos) env) Q E s := by
  refine wpAny_List ?_
  rw [ht]
  refine Calls.spliced_cons (wpAny_mono h (fun v s₁ h₁ => Calls.spliced_nil ?_) fun _ _ x => x)
  obtain ⟨y, t, L, G, rfl, S, hQ⟩ := h₁
  exact ⟨by show 1 ≤ sizeLine; decide, hQ _ _ (S.alloc (P := lstS [y]) (lstS_mk (.cons y t .nil)))⟩
/-- [a, b, c] -/
theorem r_list3V {e₁ e₂ e₃ : Expr} {pos : Pos} (h : wpAny (model prog w) A (eval e₁ env) (fun v₁ s₁ => wpAny (model prog w) A (eval e₂ env) (fun v₂ s₂ => wpAny (model prog w) A (eval e₃ env) (fun v₃ s₃ => ∃ L G, St b s₃ L G ∧ ∀ a s', St b s' ((a, lstV [v₁, v₂, v₃]) :: L) G → Q (.ref a) s') E s₂) E s₁) E s)
    (ht : backTo pos (starEach [e₁, e₂, e₃] env) = [(false, eval e₁ env), (false, eval e₂ env), (false, eval e₃ env)] := by kernel_rfl) : wpAny (model prog w) A (eval (.List [e₁, e₂, e₃] pos) env) Q E s := by
  refine wpAny_List ?_
  rw [ht]
  refine Calls.spliced_cons (wpAny_mono h (fun v₁ s₁ h₁ => Calls.spliced_cons (wpAny_mono h₁ (fun v₂ s₂ h₂ => Calls.spliced_cons (wpAny_mono h₂ (fun v₃ s₃ h₃ => Calls.spliced_nil ?_) fun _ _ x => x)) fun _ _ x => x)) fun _ _ x => x)
  obtain ⟨L, G, S, hQ⟩ := h₃
  exact ⟨by show 3 ≤ sizeLine; decide, hQ _ _ (S.alloc (P := lstV [v₁, v₂, v₃]) lstV_mk)⟩
/-- [i, j, k] of ints -/
theorem r_list3I {e₁ e₂ e₃ : Expr} {pos : Pos} {i j k : Int} (h : wpAny (model prog w) A (eval e₁ env) (fun v₁ s₁ => vI i v₁ ∧ wpAny (model prog w) A (eval e₂ env) (fun v₂ s₂ => vI j v₂ ∧ wpAny (model prog w) A (eval e₃ env) (fun v₃ s₃ => vI k v₃ ∧ ∃ L G, St b s₃ L G ∧ ∀ a s', St b s' ((a, lstI [i, j, k]) :: L) G → Q (.ref a) s') E s₂) E s₁) E s)
    (ht : backTo pos (starEach [e₁, e₂, e₃] env) = [(false, eval e₁ env), (false, eval e₂ env), (false, eval e₃ env)] := by kernel_rfl) : wpAny (model prog w) A (eval (.List [e₁, e₂, e₃] pos) env) Q E s := by
  refine r_list3V (b := b) (wpAny_mono h (fun v₁ s₁ h₁ => wpAny_mono h₁.2 (fun v₂ s₂ h₂ => wpAny_mono h₂.2 (fun v₃ s₃ h₃ => ?_) fun _ _ x => x) fun _ _ x => x) fun _ _ x => x) ht
  obtain ⟨⟨t₃, rfl⟩, L, G, S, hQ⟩ := h₃
  obtain ⟨⟨t₂, rfl⟩, _⟩ := h₂
  obtain ⟨⟨t₁, rfl⟩, _⟩ := h₁
  refine ⟨L, G, S, fun a s' S' => hQ a s' (S'.less (.head _) .head ?_)⟩
  rintro o ⟨n, rfl⟩
  exact ⟨_, n, rfl, .cons i t₁ (.cons j t₂ (.cons k t₃ .nil))⟩
/-- [x] of any value -/
theorem r_list1V {e : Expr} {pos : Pos} (h : wpAny (model prog w) A (eval e env) (fun v s₁ => ∃ L G, St b s₁ L G ∧ ∀ a s', St b s' ((a, lstV [v]) :: L) G → Q (.ref a) s') E s)
    (ht : backTo pos (starEach [e] env) = [(false, eval e env)] := by kernel_rfl) : wpAny (model prog w) A (eval (.List [e] pos) env) Q E s := by
  refine wpAny_List ?_
  rw [ht]
  refine Calls.spliced_cons (wpAny_mono h (fun v s₁ h₁ => Calls.spliced_nil ?_) fun _ _ x => x)
  obtain ⟨L, G, S, hQ⟩ := h₁
  exact ⟨by show 1 ≤ sizeLine; decide, hQ _ _ (S.alloc (P := lstV [v]) lstV_mk)⟩
theorem r_list0V {pos : Pos} (S : St b s L G) (h : ∀ a s', St b s' ((a, lstV []) :: L) G → Q (.ref a) s') : wpAny (model prog w) A (eval (.List [] pos) env) Q E s :=
  wpAny_List (Calls.spliced_nil ⟨by show 0 ≤ sizeLine; decide, h _ _ (S.alloc (P := lstV []) lstV_mk)⟩)
end
end Mine

-- part N4
open PySem PySem.W PySem.W.X PyProof.Rows PySem.Calls PySem.Spec PySem.SeqAt
set_option Elab.async false
set_option maxRecDepth 100000
set_option maxHeartbeats 400000
set_option linter.all false
namespace Mine
/-- values of these makes -/
inductive Are : List Value → List VP → Prop
  | nil : Are [] []
  | cons {v : Value} {P : VP} {vs : List Value} {Ps : List VP} : P v → Are vs Ps → Are (v :: vs) (P :: Ps)
theorem Are.len {vs : List Value} {Ps : List VP} (h : Are vs Ps) : vs.length = Ps.length := by
  induction h with
  | nil => rfl
  | cons _ _ ih => simp [ih]
theorem Are.get {vs : List Value} {Ps : List VP} (h : Are vs Ps) {i : Nat} {P : VP} (e : Ps[i]? = some P) : ∃ v, vs[i]? = some v ∧ P v := by
  induction h generalizing i with
  | nil => simp at e
  | @cons v P' vs Ps hv _ ih =>
    cases i with
    | zero => simp at e; subst e; exact ⟨v, rfl, hv⟩
    | succ i => simp at e; simpa using ih e
theorem lstP_mk {vs : List Value} {Ps : List VP} {n : Nat} (h : Are vs Ps) : lstP Ps (lstObj vs.toArray n) := ⟨_, n, rfl, by simpa using h.len, fun i P e => by simpa using h.get e⟩

section
variable {prog : Program} {w : World} {A : Around} {E : Value → Shared → Prop} {b s : Shared} {L L' : Ledger} {G : GLedger} {mg mb : Str → Option Value} {names : List Str} {outer : List Env} {env : Env}

theorem St.isLP (S : St b s L G) {l : Addr} {Ps : List VP} (h : (l, lstP Ps) ∈ L) : ∃ vs n, IsL s.heap l vs n ∧ vs.size = Ps.length ∧ ∀ (i : Nat) (P : VP), Ps[i]? = some P → ∃ v, vs[i]? = some v ∧ P v := by
  obtain ⟨_, e, vs, n, rfl, h1, h2⟩ := S.get h
  exact ⟨vs, n, e, h1, h2⟩
theorem r_getP {Q : Value → Shared → Prop} {l : Addr} {Ps : List VP} {k : Int} {u : Tok} {P : VP} (S : St b s L G) (hl : (l, lstP Ps) ∈ L) (h0 : 0 ≤ k) (hz : k < 2 ^ 63) (hy : Ps[k.toNat]? = some P) (h : ∀ v, P v → Q v s) :
    wpAny (model prog w) A (getItem (.ref l) (.int k u)) Q E s := by
  obtain ⟨vs, n, hv, h1, h2⟩ := S.isLP hl
  obtain ⟨v, hx, hP⟩ := h2 _ _ hy
  exact wpAny_getItem_list hv.isList h0 hz hx (h v hP)
theorem r_itemP {Q : Value → Shared → Prop} {value slice : Expr} {l : Addr} {Ps : List VP} {k : Int} {u : Tok} {P : VP} (S : St b s L G) (hl : (l, lstP Ps) ∈ L) (h0 : 0 ≤ k) (hz : k < 2 ^ 63) (hy : Ps[k.toNat]? = some P) (h : ∀ v, P v → Q v s)
    (hs : subscripted slice false (.ref l) (.int k u) = operate [.ref l, .int k u] (getItem (.ref l) (.int k u)) := by kernel_rfl) :
    wpAny (model prog w) A (subscriptTail value slice (.ref l) (.int k u)) Q E s := by
  obtain ⟨vs, n, hv, h1, h2⟩ := S.isLP hl
  exact tail_any hv.isList.typeIs slot_list_getitem.lookup (r_getP S hl h0 hz hy h) hs
theorem w_setL {Q : Unit → Shared → Prop} {l : Addr} {vs : Array Value} {n : Nat} {k : Int} {u : Tok} {v : Value} (hl : IsL s.heap l vs n) (h0 : 0 ≤ k) (hz : k < 2 ^ 63) (hk : k < vs.size)
    (hQ : Q () { s with heap := s.heap.update l (Obj.mapSeq (·.setIfInBounds k.toNat v)) }) : wpAny (model prog w) A (setItem (.ref l) (.int k u) v) Q E s := by
  have hL := hl.isList
  unfold setItem
  try with_reducible refine wpAny_holding ?_
  first | refine wpAny_bind (wpAny_pure ?_) | skip
  refine wpAny_bind (wpAny_sequenceKey hL.typeIs (by decide) ?_)
  refine wpAny_bind (wpAny_callSpecial?_slot (name := Str.ofString "__setitem__") hL.typeIs slot_list_setitem
    (wpAny_call_entry slot_list_setitem hL.typeIs entry_list_setitem ?_ (args_list_setitem _ _ _)))
  show wpAny _ _ (Builtin.List.listSubscript? (.int k u) >>= _) _ _ s
  refine wpAny_bind (wpAny_listSubscript_int (fitsIndex_of h0 hz) ?_)
  clear hz
  obtain ⟨j, rfl⟩ := Int.eq_ofNat_of_zero_le h0
  have hj : j < vs.size := by omega
  have hx' : vs[j]? = some vs[j] := Array.getElem?_eq_getElem hj
  show wpAny _ _ ((seqItemAt l j >>= fun r => pure (r.map (j, ·))) >>= _) _ _ s
  refine wpAny_bind (wpAny_bind (wpAny_seqItemAt hl rfl (wpAny_pure ?_)))
  rw [hx']
  show wpAny _ _ (setSeqItemAt l j v >>= _) _ _ s
  refine wpAny_bind (wpAny_setSeqItemAt hl rfl ?_)
  first
    | exact wpAny_bind (wpAny_pure (wpAny_pure ⟨.none, rfl, wpAny_pure hQ⟩))
    | exact wpAny_pure ⟨.none, rfl, wpAny_pure hQ⟩
theorem r_setP {Q : Unit → Shared → Prop} {l : Addr} {Ps : List VP} {k : Int} {u : Tok} {P : VP} {v : Value} (S : St b s L G) (hl : (l, lstP Ps) ∈ L) (h0 : 0 ≤ k) (hz : k < 2 ^ 63) (hk : k.toNat < Ps.length) (hP : P v) (hu : Upd L l (lstP (Ps.set k.toNat P)) L') (h : ∀ s', St b s' L' G → Q () s') :
    wpAny (model prog w) A (setItem (.ref l) (.int k u) v) Q E s := by
  obtain ⟨vs, n, hv, h1, h2⟩ := S.isLP hl
  refine w_setL hv h0 hz (by rw [h1]; omega) (h _ (S.set hu ⟨_, hl⟩ (Heap.SameBut.update ..).extBut (hv.update _) ⟨_, _, rfl, by simp [h1], fun i P' e => ?_⟩))
  by_cases hi : i = k.toNat
  · subst hi
    rw [List.getElem?_set_self hk] at e
    cases e
    exact ⟨v, by simp [h1, hk], hP⟩
  · rw [List.getElem?_set_ne (Ne.symm hi)] at e
    obtain ⟨v', e', hP'⟩ := h2 i P' e
    exact ⟨v', by rw [Array.getElem?_setIfInBounds_ne (Ne.symm hi)]; exact e', hP'⟩
theorem r_setV {Q : Unit → Shared → Prop} {l : Addr} {vs : List Value} {k : Int} {u : Tok} {v : Value} (S : St b s L G) (hl : (l, lstV vs) ∈ L) (h0 : 0 ≤ k) (hz : k < 2 ^ 63) (hk : k.toNat < vs.length) (hu : Upd L l (lstV (vs.set k.toNat v)) L') (h : ∀ s', St b s' L' G → Q () s') :
    wpAny (model prog w) A (setItem (.ref l) (.int k u) v) Q E s := by
  obtain ⟨n, hv⟩ := S.isLV hl
  refine w_setL hv h0 hz (by rw [List.size_toArray]; omega) (h _ (S.set hu ⟨_, hl⟩ (Heap.SameBut.update ..).extBut (hv.update _) ?_))
  obtain ⟨n', e⟩ := lst_push (vs := vs.toArray) (n := n) (·.setIfInBounds k.toNat v)
  exact ⟨n', e.trans (by simp)⟩

/-! what an iterable gives, drawn and unpacked -/
theorem r_draw {Lr : Ledger} {d : Nat} {it : Value} {F : Ledger} {GF : GLedger} (hA : Ar A d) (hF : ∀ p ∈ Lr, p ∈ F) : ∀ (Ps : List VP) (L₁ : Ledger) (G₁ : GLedger) (s : Shared) (Q : List Value → Shared → Prop), Gives prog w b Lr d it Ps L₁ G₁ → St b s (L₁ ++ F) (G₁ ++ GF) →
    (∀ items L₂ G₂ s', Are items Ps → Gives prog w b Lr d it [] L₂ G₂ → St b s' (L₂ ++ F) (G₂ ++ GF) → Q items s') → wpAny (model prog w) A (draw it Ps.length) Q E s
  | [], L₁, G₁, s, Q, hg, S, hQ => by
    show wpAny _ _ (pure []) Q E s
    exact wpAny_pure (hQ [] L₁ G₁ s .nil hg S)
  | P :: r, L₁, G₁, s, Q, hg, S, hQ => by
    show wpAny _ _ (pyNext it >>= _) Q E s
    refine wpAny_bind (hg A _ s F GF _ hA hF S fun u s' L₂ G₂ hu hg₂ S₂ => ?_)
    refine wpAny_bind (wpAny_holding (r_draw hA hF r L₂ G₂ s' _ hg₂ S₂ fun items L₃ G₃ s₃ hi hg₃ S₃ => wpAny_pure ?_))
    exact hQ _ L₃ G₃ s₃ (.cons hu hi) hg₃ S₃
theorem r_unpack {Lr : Ledger} {d : Nat} {v : Value} {F L₁ : Ledger} {G₁ GF : GLedger} {Ps : List VP} {T : String} {r : Value} {Q : List Value → Shared → Prop} (hsrc : GivesI prog w b Lr d v Ps L₁ G₁) (hA : Ar A d) (hF : ∀ p ∈ Lr, p ∈ F) (S : St b s (L₁ ++ F) (G₁ ++ GF))
    (hT : s.TypeIs v T) (hl : typeLookup (.type T) "__iter__" = pure (some r)) (h : ∀ items s', Are items Ps → St b s' F GF → Q items s') : wpAny (model prog w) A (unpackItems v Ps.length none) Q E s := by
  unfold unpackItems
  refine wpAny_bind ?_
  unfold notIterableAtAll
  refine wpAny_bind (wpAny_specialOf hT hl ?_)
  refine wpAny_pure ?_
  simp only [Bool.false_eq_true, if_false]
  refine wpAny_bind (wpAny_holding (hsrc A _ s F GF _ hA hF S fun it s₁ L₂ G₂ hg _ S₁ => ?_))
  refine wpAny_bind (wpAny_holding (r_draw hA hF Ps L₂ G₂ s₁ _ hg S₁ fun items L₃ G₃ s₂ hi hg₃ S₂ => ?_))
  rw [if_neg (by rw [hi.len]; simp)]
  refine wpAny_bind (wpAny_holding (hg₃ A _ s₂ F GF _ hA hF S₂ fun s₃ S₃ => ?_))
  simp only [Option.isSome_none, Bool.false_eq_true, if_false]
  exact wpAny_pure (h items s₃ hi S₃)
theorem r_asgTup {Lr : Ledger} {d : Nat} {v : Value} {F L₁ : Ledger} {G₁ GF : GLedger} {Ps : List VP} {T : String} {r : Value} {elts : List Expr} {x1 : Nat} {pos : Pos} {Q : Unit → Shared → Prop} (hsrc : GivesI prog w b Lr d v Ps L₁ G₁) (hA : Ar A d) (hF : ∀ p ∈ Lr, p ∈ F) (S : St b s (L₁ ++ F) (G₁ ++ GF))
    (hT : s.TypeIs v T) (hl : typeLookup (.type T) "__iter__" = pure (some r)) (h : ∀ items s', Are items Ps → St b s' F GF → wpAny (model prog w) A (assignInOrder ((assignEach elts env).map (·.2)) items) Q E s')
    (hn : (assignEach elts env).length = Ps.length := by kernel_rfl) (hstar : (assignEach elts env).findIdx? (·.1) = none := by kernel_rfl) :
    wpAny (model prog w) A (assign (.Tuple elts x1 pos) env v) Q E s := by
  rw [assign_Tuple]
  refine wpAny_bind (wpAny_standAt ?_)
  unfold unpack
  rw [hn, hstar]
  exact wpAny_bind (wpAny_holding (r_unpack hsrc hA hF S hT hl h))

/-! texts: their signs -/
theorem r_lenStr {Q : Value → Shared → Prop} {x : Str} {t : Tok} (S : St b s L G) (hz : x.length ≤ sizeLine) (h : ∀ t s', St b s' L G → Q (.int x.length t) s') : wpAny (model prog w) A (call (.builtin "len") [.str x t]) Q E s :=
  P.len_str (by have : sizeLine < 2 ^ 63 := by decide
                omega) (h _ _ (S.toks _))
theorem r_itemStr {Q : Value → Shared → Prop} {value slice : Expr} {x : Str} {t u : Tok} {k : Int} {c : Nat} (S : St b s L G) (h0 : 0 ≤ k) (hz : k < 2 ^ 63) (hc : x.cps[k.toNat]? = some c) (h : ∀ t s', St b s' L G → Q (.str ⟨#[c]⟩ t) s')
    (hs : subscripted slice false (.str x t) (.int k u) = operate [.str x t, .int k u] (getItem (.str x t) (.int k u)) := by kernel_rfl) :
    wpAny (model prog w) A (subscriptTail value slice (.str x t) (.int k u)) Q E s := by
  refine tail_any (typeIs_str s x t) F.slot_str_getitem.lookup (P.getItem_str ?_ (c := c) ?_ (h _ _ (S.toks _))) hs
  · simp only [Bool.or_eq_false_iff, decide_eq_false_iff_not]
    omega
  · obtain ⟨j, rfl⟩ := Int.eq_ofNat_of_zero_le h0
    have hj : j < x.cps.size := (Array.getElem?_eq_some_iff.mp hc).1
    have e : seqIndex? (j : Int) x.length = some j := by
      unfold seqIndex?
      have : x.length = x.cps.size := rfl
      simp only [show ¬ ((j : Int) < 0) by omega, if_false]
      simp
      omega
    rw [e]
    exact hc
end
end Mine

-- part N5
open PySem PySem.W PySem.W.X PyProof.Rows PySem.Calls PySem.Spec PySem.SeqAt
set_option Elab.async false
set_option maxRecDepth 100000
set_option maxHeartbeats 400000
set_option linter.all false
namespace Mine
section
variable {prog : Program} {w : World} {A : Around} {E : Value → Shared → Prop} {b s : Shared} {L L' : Ledger} {G : GLedger} {mg mb : Str → Option Value} {names : List Str} {env : Env}
/-- what a for is to do, where the generators change too -/
structure ForG (prog : Program) (w : World) (A : Around) (b : Shared) (env : Env) (target : Expr) (body : List Stmt) (Q : Flow → Shared → Prop) (v₀ : Value) (s₁ : Shared)
    (Lr : Ledger) (d : Nat) (Ps : List VP) (L₁ F₀ X : Ledger) (G₁ H₀ : GLedger) (J : List VP → Ledger → GLedger → Prop) : Prop where
  src : GivesI prog w b Lr d v₀ Ps L₁ G₁
  room : Ar A d
  st : St b s₁ (L₁ ++ (F₀ ++ X)) (G₁ ++ H₀)
  h0 : J [] F₀ H₀
  hR : ∀ pre F H, J pre F H → ∀ p ∈ Lr, p ∈ F ++ X
  turn : ∀ pre P r u F H L₂ G₂ s, Ps = pre ++ P :: r → P u → J pre F H → St b s (F ++ (L₂ ++ X)) (G₂ ++ H) →
      wpAny (model prog w) A (assign target env u) (fun _ s₂ => wpAny (model prog w) A (execs body env) (Turn Q fun s₃ => ∃ F' H', J (pre ++ [P]) F' H' ∧ St b s₃ (F' ++ (L₂ ++ X)) (G₂ ++ H')) NoE s₂) NoE s
  done : ∀ F H s, J Ps F H → St b s (F ++ X) H → Q .next s
theorem r_forg {target iter : Expr} {body : List Stmt} {pos : Pos} {Q : Flow → Shared → Prop}
    (hiter : wpAny (model prog w) A (eval iter env) (fun v s₁ => ∃ Lr d Ps L₁ F₀ X G₁ H₀ J, ForG prog w A b env target body Q v s₁ Lr d Ps L₁ F₀ X G₁ H₀ J) NoE s)
    (hs : ∀ x, foldedSetIterable iter env x = pure x := by intro _; kernel_rfl) (ht : ∀ it v, letOwnedTupleGo target it v = pure () := by intro _ _; kernel_rfl) :
    wpAny (model prog w) A (exec (.For target iter body [] pos) env) Q E s := by
  refine wpAny_For (wpAny_mono hiter (fun v s₁ h₁ => ?_) fun _ _ x => x.elim) hs
  obtain ⟨Lr, d, Ps, L₁, F₀, X, G₁, H₀, J, hsrc, hA, S₁, h0, hR, turn, done⟩ := h₁
  refine hsrc A _ _ _ _ _ hA (hR [] F₀ H₀ h0) S₁ fun it s₂ L₂ G₂ hg _ S₂ => ?_
  refine codeAny_forLoop (fun n s => ∃ pre post F H L₂ G₂, Ps = pre ++ post ∧ post.length = n ∧ J pre F H ∧ Gives prog w b Lr d it post L₂ G₂ ∧ St b s (L₂ ++ (F ++ X)) (G₂ ++ H)) ?_ Ps.length ⟨[], Ps, F₀, H₀, L₂, G₂, rfl, rfl, h0, hg, S₂⟩ (ht it)
  rintro n s₃ ⟨pre, post, F, H, L₃, G₃, e, hn, hj, hg₃, S₃⟩
  refine hg₃.next hA (hR pre F H hj) S₃ (fun e' s₄ S₄ => ?_) (fun P r e' u s₄ L₄ G₄ hu hg₄ S₄ => ?_)
  · subst e'
    rw [List.append_nil] at e
    subst e
    exact wpAny_execs_nil (done F H s₄ hj S₄)
  · subst e'
    refine wpAny_mono (turn pre P r u F H L₄ G₄ s₄ e hu hj (S₄.perm (perm_swap3 F L₄ X))) (fun _ s₅ h₅ => ?_) fun _ _ x => x.elim
    refine wpAny_mono h₅ (fun f s₆ h₆ => ?_) fun _ _ x => x.elim
    have nx : (∃ F' H', J (pre ++ [P]) F' H' ∧ St b s₆ (F' ++ (L₄ ++ X)) (G₄ ++ H')) → ∃ m, m < n ∧ ∃ pre post F H L₂ G₂, Ps = pre ++ post ∧ post.length = m ∧ J pre F H ∧ Gives prog w b Lr d it post L₂ G₂ ∧ St b s₆ (L₂ ++ (F ++ X)) (G₂ ++ H) := by
      rintro ⟨F', H', hj', S'⟩
      exact ⟨r.length, by simp only [List.length_cons] at hn; omega, pre ++ [P], r, F', H', L₄, G₄, by rw [e]; simp, rfl, hj', hg₄, S'.perm (perm_swap3 L₄ F' X)⟩
    cases f with
    | next => exact nx h₆
    | cont => exact nx h₆
    | brk => exact h₆
    | ret v => exact h₆

/-! displays, item by item -/
theorem r_spl {pos : Pos} {e : Expr} {r : List Expr} {Q : List Value → Shared → Prop} (h : wpAny (model prog w) A (eval e env) (fun v s₁ => wpAny (model prog w) A (spliced (backTo pos (starEach r env))) (fun vs s₂ => Q (v :: vs) s₂) E s₁) E s)
    (he : backTo pos (starEach (e :: r) env) = (false, eval e env) :: backTo pos (starEach r env) := by kernel_rfl) : wpAny (model prog w) A (spliced (backTo pos (starEach (e :: r) env))) Q E s := by
  rw [he]
  exact Calls.spliced_cons h
theorem r_spl0 {pos : Pos} {Q : List Value → Shared → Prop} (h : Q [] s) : wpAny (model prog w) A (spliced (backTo pos (starEach [] env))) Q E s := Calls.spliced_nil h
/-- a list display -/
theorem r_disp {elts : List Expr} {pos : Pos} {Q : Value → Shared → Prop} (h : wpAny (model prog w) A (spliced (backTo pos (starEach elts env))) (fun vs s₁ => vs.length ≤ sizeLine ∧ ∃ P L G, St b s₁ L G ∧ P (lstObj vs.toArray 0) ∧ ∀ a s', St b s' ((a, P) :: L) G → Q (.ref a) s') E s) :
    wpAny (model prog w) A (eval (.List elts pos) env) Q E s := by
  refine wpAny_List (wpAny_mono h (fun vs s₁ h₁ => ?_) fun _ _ x => x)
  obtain ⟨hz, P, L, G, S, hP, hQ⟩ := h₁
  exact ⟨hz, hQ _ _ (S.alloc hP)⟩
/-- list(texts) -/
theorem r_listLS {l : Addr} {ys : List Str} {Q : Value → Shared → Prop} (S : St b s L G) (hl : (l, lstS ys) ∈ L) (hz : ys.length ≤ sizeLine) (h : ∀ a s', St b s' ((a, lstS ys) :: L) G → Q (.ref a) s') : wpAny (model prog w) A (call (.type "list") [.ref l]) Q E s := by
  obtain ⟨_, ho, vs, n, rfl, hs⟩ := S.get hl
  refine call_list_seq l (.inl rfl) ho rfl rfl (fun h' c' hk hg => h _ _ (S.new (heap_get_size _) hk hg ⟨_, c', rfl, hs⟩)) (by
    rw [size_of hs]; exact hz)
end
end Mine


-- part T2
open PySem PySem.W PySem.W.X PyProof.Rows PySem.Calls PySem.Spec PySem.SeqAt
set_option Elab.async false
set_option maxRecDepth 100000
set_option maxHeartbeats 400000
set_option linter.all false
namespace Mine
local macro_rules | `(tactic| walk_at "mem") => `(tactic| first | assumption | exact List.Mem.head _ | (refine List.Mem.tail _ ?_; walk_at "mem") | (refine List.mem_append_right _ ?_; walk_at "mem"))
local macro_rules | `(tactic| walk_at "mn") => `(tactic| first | with_reducible exact List.mem_cons_self | ((with_reducible refine List.mem_cons_of_mem _ ?_); walk_at "mn"))
local macro_rules | `(tactic| walk_at "upd") => `(tactic| first | exact Upd.head | ((with_reducible apply Upd.tail); walk_at "upd"))
local macro_rules | `(tactic| walk_at "set") => `(tactic| first | with_reducible exact SetN.nil | ((with_reducible refine SetN.hit ?_); kernel_rfl) | ((with_reducible apply SetN.skip); kernel_rfl; walk_at "set"))

def tDef : Stmt := match PySem.Challenge.pw_dm0050_02.main.body with | _ :: _ :: _ :: d :: _ => d | _ => .Pass default
def tBody : List Stmt := match tDef with | .FunctionDef _ _ b .. => b | _ => []
def tScope : Scope := match tDef with | .FunctionDef _ _ _ _ _ _ sc .. => sc | _ => default
def tParams : Arguments := match tDef with | .FunctionDef _ a .. => a | _ => default
abbrev tEnv (C f : Addr) (cd : Value) : Env := envOf "_law_told" tScope C f cd
def tAt (k : Nat) : Stmt := (tBody[k]?).getD (.Pass default)
theorem tBody_eq : tBody = [tAt 0] := rfl

/-- an answer of a reader -/
inductive Ans | row (y : Str) | fin | bad (x : Str)
/-- the value that stands for it, and what is new for it -/
def AnsV : Ans → Value → Ledger → Prop
  | .row y, v, N => vS y v ∧ N = []
  | .fin, v, N => v = .none ∧ N = []
  | .bad x, v, N => ∃ l, v = .ref l ∧ N = [(l, lstS [x])]

/-- asking the reader a, in the ledger L, G, is answered so -/
def Asks (prog : Program) (w : World) (b : Shared) (a : Addr) (L : Ledger) (G : GLedger) (R : Ans → Ledger → GLedger → Prop) : Prop :=
  ∀ (A : Around) (E : Value → Shared → Prop) (Q : Option Value → Shared → Prop) (s : Shared) (X : Ledger) (outer : List Env), Ar A 1 → A.frames = some outer → FmsOk outer X → St b s (X ++ L) G →
    (∀ y t s' L' G', R (.row y) L' G' → St b s' (X ++ L') G' → Q (some (.str y t)) s') →
    (∀ e t s' L' G', R .fin L' G' → St b s' (excN e t "StopIteration" [] ++ (X ++ L')) G' → E (.ref e) s') →
    (∀ e t T u x s' L' G', R (.bad x) L' G' → St b s' (excL e t T "ValueError" [.str x u] .none ++ (X ++ L')) G' → E (.ref e) s') →
    wpAny (model prog w) A (callSpecial? (.ref a) (Str.ofString "__next__")) Q E s

theorem sub_stop_base : isSubtype (.type "StopIteration") (.type "BaseException") = pure true := by kernel_rfl
theorem stop_nt : isSubtype (.type ((Manifest.find? "StopIteration").elim "type" fun x => x.metatype)) (.type "tuple") = pure false := by kernel_rfl
theorem sub_stop_stop : isSubtype (.type "StopIteration") (.type "StopIteration") = pure true := by kernel_rfl
theorem sub_val_base : isSubtype (.type "ValueError") (.type "BaseException") = pure true := by kernel_rfl
theorem val_nt : isSubtype (.type ((Manifest.find? "ValueError").elim "type" fun x => x.metatype)) (.type "tuple") = pure false := by kernel_rfl
theorem sub_val_val : isSubtype (.type "ValueError") (.type "ValueError") = pure true := by kernel_rfl

theorem tKindE {C f : Addr} {cd : Value} : (tEnv C f cd).scope.kind ≠ .module := fun h => by
  have h' : tScope.kind = .module := h
  rw [show tScope.kind = .function by kernel_rfl] at h'
  cases h'
section
variable {prog : Program} {w : World} {A : Around} {E : Value → Shared → Prop} {b s : Shared} {L L' X : Ledger} {G : GLedger} {mg mb : Str → Option Value} {names : List Str} {outer : List Env}

theorem St.excAt {e t T : Addr} {cls : String} {args : List Value} {fl : Value} (S : St b s (excL e t T cls args fl ++ L) G) : s.heap.ExcAt e cls (.ref t) ∧ s.heap.TupAt t args := by
  obtain ⟨o, ho, vs, hc, hd, h0, _⟩ := S.get (.head _)
  obtain ⟨o', ho', n, rfl⟩ := S.get (a := t) (.tail _ (.tail _ (.head _)))
  exact ⟨⟨o, vs, ho, hc, hd, h0⟩, ⟨_, n, ho', rfl, rfl⟩⟩

theorem w_told {ft a : Addr} {ct : Value} {g : Nat} {R : Ans → Ledger → GLedger → Prop} {Q : Value → Shared → Prop} (B : Bs b mg mb names) (hn : ∀ x ∈ ([("next" : Str), "StopIteration", "ValueError", "str"] : List Str), x ∉ names)
    (Ft : FnAt b mg ft "_law_told" tParams tBody tScope ct) (hA : Ar A 2) (hu : A.units + 64 < cLine) (hfr : A.frames = some outer) (hf : FmsOk outer X) (S : St b s (X ++ L) G) (ha : (a, genC g) ∈ L) (H : Asks prog w b a L G R)
    (h : ∀ ans v N s' L' G', R ans L' G' → AnsV ans v N → St b s' (N ++ (X ++ L')) G' → Q v s') :
    wpAny (model prog w) A (call (.ref ft) [.ref a]) Q E s := by
  have hroom : A.depth < recursionLimit := by have := hA.depth; omega
  refine r_callDef [(("reader" : Str), .ref a)] B Ft S hroom (fun pm doc => rfl) (locs rfl) (by intro p hp; rw [List.mem_singleton] at hp; subst hp; rfl) (fun C s₁ S₁ => ?_) rfl rfl rfl (by decide)
  replace S₁ : St b s₁ ((C, frC [(("reader" : Str), vE (.ref a))]) :: (X ++ L)) G := S₁
  have hA1 : Ar (A.deeper (tEnv C ft ct)) 1 := hA.deeper
  have hfr1 : (A.deeper (tEnv C ft ct)).frames = some (tEnv C ft ct :: outer) := by show A.frames.map _ = _; rw [hfr]; rfl
  have hu1 : (A.deeper (tEnv C ft ct)).units + 2 < cLine := by show A.units + 3 + 2 < cLine; omega
  generalize A.deeper (tEnv C ft ct) = A' at hA1 hfr1 hu1
  have hf1 : ∀ fl, FmsOk (tEnv C ft ct :: outer) ((C, frC fl) :: X) := fun fl env he => by
    rcases List.mem_cons.mp he with rfl | he
    · exact ⟨tKindE, rfl, _, .head _⟩
    · exact hf.app [_] env he
  have hfL : ∀ fl (Y : Ledger), FmsOk (tEnv C ft ct :: outer) ((C, frC fl) :: X ++ Y) := fun fl Y => (hf1 fl).sub fun a fl h => ⟨fl, List.mem_append_left _ h⟩
  show wpAny _ A' (execs tBody (tEnv C ft ct)) _ _ _
  rw [tBody_eq]
  refine r_seq ?_
  conv in tAt 0 => whnf
  refine wpAny_Try_except ?_
  refine r_seq ?_
  refine wpAny_Return_some ?_
  refine r_callB1 (id := "next") B S₁ (by decide +kernel) ?_ (hfree := hn _ (.head _))
  refine r_nameE S₁ (by walk_at "mem") (by walk_at "mn") ?_
  refine r_nextB (S₁.isGen (.tail _ (List.mem_append_right _ ha))).typeIs slot_gen_next ?_
  refine H A'.in1 _ _ _ ((C, frC [(("reader" : Str), vE (.ref a))]) :: X) (tEnv C ft ct :: outer) hA1.in1 hfr1 (hf1 _) S₁ ?_ ?_ ?_
  · intro y t s' L' G' hR S'
    refine ⟨_, rfl, then_ret ?_⟩
    exact then_ret (h (.row y) _ [] _ L' G' hR ⟨⟨t, rfl⟩, rfl⟩ (S'.sub (.cons _ (.refl _))))
  · intro e t s' L' G' hR S'
    refine r_noteX0 S' hfr1 (hfL _ _) fun T s₂ S₂ => ?_
    refine r_flightX (fr := none) S₂ fun s₃ S₃ => ?_
    refine wpAny_handleBy_builtin (X := "StopIteration") (T := "StopIteration") (b := true) sub_stop_base stop_nt sub_stop_stop ?_
    refine r_bname B S₃ (v := .type "StopIteration") (by decide +kernel) ?_ (hn _ (.tail _ (.head _)))
    refine ⟨rfl, S₃.excType, ?_⟩
    rw [if_pos rfl]
    refine r_flightX (fr := none) S₃ fun s₄ S₄ => ?_
    refine r_seq ?_
    refine wpAny_Return_some ?_
    refine wpAny_Constant_none ?_
    refine then_ret ?_
    exact then_ret (h .fin _ [] _ L' G' hR ⟨rfl, rfl⟩ (S₄.sub (.cons _ (.cons _ (.cons _ (.cons _ (.refl _)))))))
  · intro e t T u x s' L' G' hR S'
    refine r_noteX S' hfr1 (hfL _ _) fun T s₂ S₂ => ?_
    refine r_flightX (fr := none) S₂ fun s₃ S₃ => ?_
    refine wpAny_handleBy_builtin (X := "ValueError") (T := "StopIteration") (b := false) sub_stop_base stop_nt sub_value_stop ?_
    refine r_bname B S₃ (v := .type "StopIteration") (by decide +kernel) ?_ (hn _ (.tail _ (.head _)))
    refine ⟨rfl, S₃.excType, ?_⟩
    rw [if_neg Bool.false_ne_true]
    refine wpAny_handleBy_builtin_as (X := "ValueError") (T := "ValueError") (b := true) sub_val_base val_nt sub_val_val ?_
    refine r_bname B S₃ (v := .type "ValueError") (by decide +kernel) ?_ (hn _ (.tail _ (.tail _ (.head _))))
    refine ⟨rfl, S₃.excType, ?_⟩
    rw [if_pos rfl]
    refine r_flightX (fr := none) S₃ fun s₄ S₄ => ?_
    refine r_store (P := vE (.ref e)) S₄ (.tail _ (.tail _ (.tail _ (.head _)))) rfl (by walk_at "set") (.tail (.tail (.tail .head))) fun s₅ S₅ => ?_
    refine r_seq ?_
    refine wpAny_Return_some ?_
    refine r_list1S (b := b) ?_
    refine r_callT1 (T := "str") B S₅ (by decide +kernel) ?_ (hfree := hn _ (.tail _ (.tail _ (.tail _ (.head _)))))
    refine r_nameE S₅ (.tail _ (.tail _ (.tail _ (.head _)))) (by walk_at "mn") ?_
    obtain ⟨x1, x2⟩ := St.excAt S₅
    refine P.str_of_exc_one F.excStr_ValueError ?_ x1 x2 ?_
    · exact hu1
    refine ⟨_, _, _, _, rfl, S₅, fun l s₆ S₆ => ?_⟩
    refine then_ret ?_
    obtain ⟨oC, hoC, hcC⟩ := S₆.get (a := C) (.tail _ (.tail _ (.tail _ (.tail _ (.head _)))))
    obtain ⟨m, hm, _⟩ := frC_ns hoC hcC
    refine wpAny_nameGoes (by kernel_rfl) hm (by kernel_rfl) fun h' m' hm' hsb => ?_
    refine then_ret (h (.bad x) _ [(l, lstS [x])] _ L' G' hR ⟨l, rfl, rfl⟩ ?_)
    have S₇ := S₆.perm (L' := (C, frC [(("reader" : Str), vE (.ref a)), (("err" : Str), vE (.ref e))]) :: (l, lstS [x]) :: (excL e t T "ValueError" [.str x u] .none ++ (X ++ L'))) (by
      exact (List.perm_middle (l₁ := (l, lstS [x]) :: excL e t T "ValueError" [.str x u] .none) (l₂ := X ++ L')).symm)
    exact (S₇.drop1 hsb.extBut _).sub (.cons_cons _ (.cons _ (.cons _ (.cons _ (.refl _)))))
end
end Mine

-- part D2
open PySem PySem.W PySem.W.X PyProof.Rows PySem.Calls PySem.Spec PySem.SeqAt
set_option Elab.async false
set_option maxRecDepth 100000
set_option maxHeartbeats 400000
set_option linter.all false
namespace Mine
local macro_rules | `(tactic| walk_at "mem") => `(tactic| first | assumption | exact List.Mem.head _ | (refine List.Mem.tail _ ?_; walk_at "mem") | (refine List.mem_append_right _ ?_; walk_at "mem"))
local macro_rules | `(tactic| walk_at "mn") => `(tactic| first | with_reducible exact List.mem_cons_self | ((with_reducible refine List.mem_cons_of_mem _ ?_); walk_at "mn"))
local macro_rules | `(tactic| walk_at "upd") => `(tactic| first | exact Upd.head | ((with_reducible apply Upd.tail); walk_at "upd"))
local macro_rules | `(tactic| walk_at "set") => `(tactic| first | with_reducible exact SetN.nil | ((with_reducible refine SetN.hit ?_); kernel_rfl) | ((with_reducible apply SetN.skip); kernel_rfl; walk_at "set"))

def sgnOf (n : Int) : Str := if n = 1 then "-" else "+"
theorem cps_two {x : Str} {c0 c1 : Nat} (h0 : x.cps[0]? = some c0) (h1 : x.cps[1]? = some c1) : x.cps.toList.take 2 = [c0, c1] := by
  rw [← Array.getElem?_toList] at h0 h1
  cases hx : x.cps.toList with
  | nil => rw [hx] at h0; simp at h0
  | cons a r =>
    cases r with
    | nil => rw [hx] at h1; simp at h1
    | cons c r =>
      rw [hx] at h0 h1
      simp at h0 h1
      simp [h0, h1]
theorem str1_eq (c d : Nat) : ((⟨#[c]⟩ : Str) == ⟨#[d]⟩) = (c == d) := by
  rw [Bool.eq_iff_iff]; simp
theorem str2_eq (a b c d : Nat) : ((⟨#[a, b]⟩ : Str) == ⟨#[c, d]⟩) = (a == c && b == d) := by
  rw [Bool.eq_iff_iff]; simp
theorem keep_two {n : Int} {x : Str} {c0 c1 : Nat} (h0 : x.cps[0]? = some c0) (h1 : x.cps[1]? = some c1) :
    keepS (tagOf n) x = (((⟨#[c1]⟩ : Str) == " ") && (((⟨#[c0]⟩ : Str) == " ") || ((⟨#[c0]⟩ : Str) == sgnOf n))) := by
  have e0 : ("  " : Str) = ⟨#[32, 32]⟩ := by decide +kernel
  have e1 : (" " : Str) = ⟨#[32]⟩ := by decide +kernel
  have e2 : ("- " : Str) = ⟨#[45, 32]⟩ := by decide +kernel
  have e3 : ("+ " : Str) = ⟨#[43, 32]⟩ := by decide +kernel
  have e4 : ("-" : Str) = ⟨#[45]⟩ := by decide +kernel
  have e5 : ("+" : Str) = ⟨#[43]⟩ := by decide +kernel
  unfold keepS tagOf sgnOf
  rw [slice_pre, cps_two h0 h1]
  have e : ([c0, c1] : List Nat).toArray = #[c0, c1] := rfl
  rw [e]
  by_cases hn : n = 1
  · rw [if_pos hn, if_pos hn, e0, e1, e2, e4]
    simp only [List.any_cons, List.any_nil, Bool.or_false, str1_eq, str2_eq]
    rw [Bool.eq_iff_iff]
    simp
    omega
  · rw [if_neg hn, if_neg hn, e0, e1, e3, e5]
    simp only [List.any_cons, List.any_nil, Bool.or_false, str1_eq, str2_eq]
    rw [Bool.eq_iff_iff]
    simp
    omega
theorem keep_small {n : Int} {x : Str} (h : x.length ≤ 1) : keepS (tagOf n) x = false := by
  have hl := str_len x
  unfold keepS
  rw [slice_pre]
  have hz : (x.cps.toList.take 2).length ≤ 1 := by rw [List.length_take]; omega
  have key : ∀ t : Str, t.length = 2 → (t == (⟨(x.cps.toList.take 2).toArray⟩ : Str)) = false := fun t ht => by
    rw [beq_eq_false_iff_ne]
    intro e
    have := congrArg Str.length e
    rw [ht] at this
    simp only [Str.length, List.size_toArray] at this
    omega
  simp only [List.any_cons, List.any_nil, Bool.or_false, Bool.or_eq_false_iff]
  refine ⟨key _ (by decide +kernel), key _ ?_⟩
  unfold tagOf
  split <;> decide +kernel

def dDef : Stmt := match PySem.Challenge.pw_dm0050_02.main.body with | _ :: _ :: _ :: _ :: d :: _ => d | _ => .Pass default
def dBody : List Stmt := match dDef with | .FunctionDef _ _ b .. => b | _ => []
def dScope : Scope := match dDef with | .FunctionDef _ _ _ _ _ _ sc .. => sc | _ => default
def dParams : Arguments := match dDef with | .FunctionDef _ a .. => a | _ => default
abbrev dEnv (C f : Addr) (cd : Value) : Env := envOf "_law_due" dScope C f cd
def dAt (k : Nat) : Stmt := (dBody[k]?).getD (.Pass default)
theorem dBody_eq : dBody = [dAt 0, dAt 1, dAt 2, dAt 3, dAt 4, dAt 5, dAt 6] := rfl

/-- a place: an index, and whether it has met the end -/
def plV : Option Nat → VP
  | some i => vI i
  | none => fun v => ∃ i, vI i v
def plC (o : Option Nat) : Cell := lstP [plV o, vE (.bool o.isNone)]
def pnC (sgn : Str) (q : Addr) (e : Bool) : Cell := lstP [vS sgn, vE (.ref q), vE (.bool e)]
theorem lstP_mono {Ps Ps' : List VP} (hz : Ps.length = Ps'.length) (h : ∀ (i : Nat) (P P' : VP), Ps[i]? = some P → Ps'[i]? = some P' → ∀ v, P v → P' v) {o : Obj} (ho : lstP Ps o) : lstP Ps' o := by
  obtain ⟨vs, n, rfl, h1, h2⟩ := ho
  refine ⟨vs, n, rfl, h1.trans hz, fun i P' e => ?_⟩
  have hi : i < Ps.length := by rw [hz]; exact (List.getElem?_eq_some_iff.mp e).1
  obtain ⟨v, hv, hP⟩ := h2 i _ (List.getElem?_eq_getElem hi)
  exact ⟨v, hv, h i _ P' (List.getElem?_eq_getElem hi) e v hP⟩

def refusal3 : Str := "unknown delta choice (must be 1 or 2): '3'"
/-- what is due, and the plain reader then -/
def dueX (n : Option Int) (ys : List Str) (o : Option Nat) (e : Bool) : Ans × Option Nat × Bool :=
  if e then (.fin, o, true) else match n with
    | none => (.bad refusal3, o, true)
    | some n => match (scanX n ys o).1 with
      | some y => (.row y, (scanX n ys o).2, false)
      | none => (.fin, (scanX n ys o).2, true)
theorem scanX_none {n : Int} {ys : List Str} {o : Option Nat} (h : (scanX n ys o).1 = none) : (scanX n ys o).2 = none := by
  cases o with
  | none => rfl
  | some i =>
    cases hs : scanL (tagOf n) (ys.drop i) i with
    | none => simp [scanX, hs]
    | some p => simp [scanX, hs] at h
theorem scanX_some {n : Int} {ys : List Str} {o : Option Nat} {y : Str} (h : (scanX n ys o).1 = some y) : ∃ j, (scanX n ys o).2 = some j := by
  cases o with
  | none => cases h
  | some i =>
    cases hs : scanL (tagOf n) (ys.drop i) i with
    | none => simp [scanX, hs] at h
    | some p => exact ⟨p.2, by simp [scanX, hs]⟩

section
variable {prog : Program} {w : World} {A : Around} {E : Value → Shared → Prop} {b s : Shared} {L L' X : Ledger} {G : GLedger} {mg mb : Str → Option Value} {names : List Str} {outer : List Env}
abbrev flD (r p : Addr) (sgn : Str) (q : Addr) (e : Bool) : List (Str × VP) := [(("rows" : Str), vE (.ref r)), (("plain" : Str), vE (.ref p)), (("sign" : Str), vS sgn), (("place" : Str), vE (.ref q)), (("ended" : Str), vE (.bool e))]
abbrev flDr (r p : Addr) (sgn : Str) (q : Addr) (e : Bool) (y : Str) : List (Str × VP) := [(("rows" : Str), vE (.ref r)), (("plain" : Str), vE (.ref p)), (("sign" : Str), vS sgn), (("place" : Str), vE (.ref q)), (("ended" : Str), vE (.bool e)), (("row" : Str), vS y)]

/-- the search for the next row -/
theorem w_seek {C f r p q : Addr} {cd : Value} {n : Int} {ys : List Str} {o : Option Nat} {Q : Flow → Shared → Prop} (B : Bs b mg mb names) (hln : ("len" : Str) ∉ names) (hn : n = 1 ∨ n = 2)
    (hr : (r, lstS ys) ∈ L) (hq : (q, plC o) ∈ L) (hqr : r ≠ q) (hz : ys.length ≤ sizeLine) (hlen : ∀ x ∈ ys, x.length ≤ sizeLine)
    (S : St b s ((C, frC (flD r p (sgnOf n) q false)) :: L) G)
    (h1 : (scanX n ys o).1 = none → ∀ o' s', St b s' ((C, frC (flD r p (sgnOf n) q false)) :: setL q (plC o') L) G → Q .next s')
    (h2 : ∀ y t s', (scanX n ys o).1 = some y → St b s' ((C, frC (flD r p (sgnOf n) q false)) :: setL q (plC (scanX n ys o).2) L) G → Q (.ret (.str y t)) s') :
    wpAny (model prog w) A (exec (dAt 3) (dEnv C f cd)) Q NoE s := by
  conv in dAt 3 => whnf
  have hb : sizeLine < 2 ^ 63 := by decide
  have hS0 : St b s ((C, frC (flD r p (sgnOf n) q false)) :: setL q (plC o) L) G := by
    rw [setL_same hq (List.nodup_cons.mp S.nodup).2]; exact S
  refine r_while (fun m s => ∃ o', scanX n ys o' = scanX n ys o ∧ m = o'.elim 0 (fun i => ys.length - i) ∧ St b s ((C, frC (flD r p (sgnOf n) q false)) :: setL q (plC o') L) G) _ ⟨o, rfl, rfl, hS0⟩ ?_
  rintro m s ⟨o', hsc, hm, S⟩
  have hqm : (q, plC o') ∈ (C, frC (flD r p (sgnOf n) q false)) :: setL q (plC o') L := .tail _ (setL_mem hq)
  have hrm : ∀ (P : Cell), (r, lstS ys) ∈ setL q P L := fun P => setL_other hqr hr
  refine wpAny_isTrue_BoolOp ?_
  refine wpAny_allTrue_And_cons ?_
  refine wpAny_isTrue_Not ?_
  refine wpAny_isTrue_value ?_ (by kernel_rfl)
  refine Subscript_ ?_
  refine r_nameE S (by walk_at "mem") (by walk_at "mn") ?_
  refine r_int S fun t₁ s₁ S₁ => ?_
  refine r_itemP S₁ hqm (by decide) (by decide) (P := vE (.bool o'.isNone)) rfl fun v hv => ?_
  cases hv
  refine wpAny_truthy_bool ?_
  cases o' with
  | none =>
    rw [if_neg (by simp)]
    exact h1 (by rw [← hsc]; rfl) none _ S₁
  | some i =>
    rw [if_pos (by simp)]
    refine wpAny_allTrue_And_cons ?_
    refine wpAny_isTrue_Compare1 ?_ (by kernel_rfl)
    refine Subscript_ ?_
    refine r_nameE S₁ (by walk_at "mem") (by walk_at "mn") ?_
    refine r_int S₁ fun t₂ s₂ S₂ => ?_
    refine r_itemP S₂ hqm (by decide) (by decide) (P := vI i) rfl fun v hv => ?_
    obtain ⟨t₃, rfl⟩ := hv
    refine r_callB1 (id := "len") B S₂ (by decide +kernel) ?_ (hfree := hln)
    refine r_nameE S₂ (by walk_at "mem") (by walk_at "mn") ?_
    refine r_lenS S₂ (.tail _ (hrm _)) hz fun t₄ s₃ S₃ => ?_
    refine r_lt ?_
    refine wpAny_truthy_bool ?_
    rw [lt_natB]
    by_cases hil : i < ys.length
    · rw [if_pos (by simpa using hil)]
      refine wpAny_allTrue_And_nil ?_
      rw [if_pos rfl]
      obtain ⟨y, hy⟩ : ∃ y, ys[i]? = some y := ⟨_, List.getElem?_eq_getElem hil⟩
      have hyl := hlen y (List.mem_of_getElem? hy)
      refine r_seq ?_
      refine wpAny_Assign_Name ?_ (by kernel_rfl)
      refine Subscript_ ?_
      refine r_nameE S₃ (by walk_at "mem") (by walk_at "mn") ?_
      refine Subscript_ ?_
      refine r_nameE S₃ (by walk_at "mem") (by walk_at "mn") ?_
      refine r_int S₃ fun t₅ s₄ S₄ => ?_
      refine r_itemP S₄ hqm (by decide) (by decide) (P := vI i) rfl fun v hv => ?_
      obtain ⟨t₆, rfl⟩ := hv
      refine r_itemS S₄ (.tail _ (hrm _)) (by omega) (by omega) (by simpa using hy) fun t₇ => ?_
      refine r_store (P := vS y) S₄ (by walk_at "mem") ⟨_, rfl⟩ (by walk_at "set") (by walk_at "upd") fun s₅ S₅ => ?_
      refine then_next ?_
      refine r_seq ?_
      refine wpAny_AugAssign_SubscriptAny ?_ (by intros; kernel_rfl)
      refine r_nameE S₅ (by walk_at "mem") (by walk_at "mn") ?_
      refine r_int S₅ fun t₈ s₆ S₆ => ?_
      have hqm2 : (q, plC (some i)) ∈ (C, frC (flDr r p (sgnOf n) q false y)) :: setL q (plC (some i)) L := .tail _ (setL_mem hq)
      refine r_getP S₆ hqm2 (by decide) (by decide) (P := vI i) rfl fun v hv => ?_
      obtain ⟨t₉, rfl⟩ := hv
      refine r_int S₆ fun t₁₀ s₇ S₇ => ?_
      refine r_iadd S₇ fun t₁₁ s₈ S₈ => ?_
      refine r_setP S₈ hqm2 (by decide) (by decide) (P := vI ((i + 1 : Nat) : Int)) (by show (0 : Nat) < 2; decide) ⟨_, rfl⟩ (.tail (setL_again (P' := plC (some (i + 1))) hq)) fun s₉ S₉ => ?_
      refine then_next ?_
      refine r_seq ?_
      have back : ∀ {s}, St b s ((C, frC (flDr r p (sgnOf n) q false y)) :: setL q (plC (some (i + 1))) L) G → St b s ((C, frC (flD r p (sgnOf n) q false)) :: setL q (plC (some (i + 1))) L) G := fun S =>
        S.less (.head _) .head fun o ho => frC_sub (fun a ha => by
          simp only [List.mem_cons, List.not_mem_nil, or_false] at ha
          rcases ha with rfl | rfl | rfl | rfl | rfl <;> simp) ho
      have again : ∀ {s}, keepS (tagOf n) y = false → St b s ((C, frC (flDr r p (sgnOf n) q false y)) :: setL q (plC (some (i + 1))) L) G → Turn Q (fun s₃ => ∃ m_1, m_1 < m ∧ ∃ o', scanX n ys o' = scanX n ys o ∧ m_1 = o'.elim 0 (fun i => ys.length - i) ∧ St b s₃ ((C, frC (flD r p (sgnOf n) q false)) :: setL q (plC o') L) G) .next s := fun hk S =>
        turn_next ⟨_, by rw [hm]; simp only [Option.elim]; omega, some (i + 1), (scanX_pass hy hk).symm.trans hsc, rfl, back S⟩
      refine wpAny_If (wpAny_mono (Q := fun c s' => c = keepS (tagOf n) y ∧ St b s' ((C, frC (flDr r p (sgnOf n) q false y)) :: setL q (plC (some (i + 1))) L) G) ?_ (fun c s' hc => ?_) fun _ _ x => x)
      · refine wpAny_isTrue_BoolOp ?_
        refine wpAny_allTrue_And_cons ?_
        refine wpAny_isTrue_Compare1 ?_ (by kernel_rfl)
        refine r_callB1 (id := "len") B S₉ (by decide +kernel) ?_ (hfree := hln)
        refine r_nameS S₉ (by walk_at "mem") (by walk_at "mn") fun t₁₂ => ?_
        refine r_lenStr S₉ hyl fun t₁₃ s₁₀ S₁₀ => ?_
        refine r_int S₁₀ fun t₁₄ s₁₁ S₁₁ => ?_
        refine r_gt ?_
        refine wpAny_truthy_bool ?_
        by_cases h2l : 1 < y.length
        · rw [if_pos (by simp; omega)]
          obtain ⟨c0, hc0⟩ : ∃ c, y.cps[0]? = some c := ⟨_, Array.getElem?_eq_getElem (show 0 < y.cps.size by have : y.length = y.cps.size := rfl; omega)⟩
          obtain ⟨c1, hc1⟩ : ∃ c, y.cps[1]? = some c := ⟨_, Array.getElem?_eq_getElem (show 1 < y.cps.size by have : y.length = y.cps.size := rfl; omega)⟩
          rw [keep_two (n := n) hc0 hc1]
          refine wpAny_allTrue_And_cons ?_
          refine wpAny_isTrue_Compare1 ?_ (by kernel_rfl)
          refine Subscript_ ?_
          refine r_nameS S₁₁ (by walk_at "mem") (by walk_at "mn") fun t₁₅ => ?_
          refine r_int S₁₁ fun t₁₆ s₁₂ S₁₂ => ?_
          refine r_itemStr S₁₂ (by decide) (by decide) hc1 fun t₁₇ s₁₃ S₁₃ => ?_
          refine r_str S₁₃ fun t₁₈ s₁₄ S₁₄ => ?_
          refine r_eqS ?_
          refine wpAny_truthy_bool ?_
          cases hb1 : ((⟨#[c1]⟩ : Str) == " ") with
          | false =>
            rw [if_neg Bool.false_ne_true]
            exact ⟨by simp, S₁₄⟩
          | true =>
            rw [if_pos rfl]
            refine wpAny_allTrue_And_cons ?_
            refine wpAny_isTrue_BoolOp ?_
            refine wpAny_allTrue_Or_cons ?_
            refine wpAny_isTrue_Compare1 ?_ (by kernel_rfl)
            refine Subscript_ ?_
            refine r_nameS S₁₄ (by walk_at "mem") (by walk_at "mn") fun t₁₉ => ?_
            refine r_int S₁₄ fun t₂₀ s₁₅ S₁₅ => ?_
            refine r_itemStr S₁₅ (by decide) (by decide) hc0 fun t₂₁ s₁₆ S₁₆ => ?_
            refine r_str S₁₆ fun t₂₂ s₁₇ S₁₇ => ?_
            refine r_eqS ?_
            refine wpAny_truthy_bool ?_
            cases hb2 : ((⟨#[c0]⟩ : Str) == " ") with
            | true =>
              rw [if_pos rfl]
              rw [if_pos rfl]
              exact wpAny_allTrue_And_nil ⟨by simp, S₁₇⟩
            | false =>
              rw [if_neg Bool.false_ne_true]
              refine wpAny_allTrue_Or_cons ?_
              refine wpAny_isTrue_Compare1 ?_ (by kernel_rfl)
              refine Subscript_ ?_
              refine r_nameS S₁₇ (by walk_at "mem") (by walk_at "mn") fun t₂₃ => ?_
              refine r_int S₁₇ fun t₂₄ s₁₈ S₁₈ => ?_
              refine r_itemStr S₁₈ (by decide) (by decide) hc0 fun t₂₅ s₁₉ S₁₉ => ?_
              refine r_nameS S₁₉ (by walk_at "mem") (by walk_at "mn") fun t₂₆ => ?_
              refine r_eqS ?_
              refine wpAny_truthy_bool ?_
              cases hb3 : ((⟨#[c0]⟩ : Str) == sgnOf n) with
              | true =>
                rw [if_pos rfl]
                rw [if_pos rfl]
                exact wpAny_allTrue_And_nil ⟨by simp, S₁₉⟩
              | false =>
                rw [if_neg Bool.false_ne_true]
                refine wpAny_allTrue_Or_nil ?_
                rw [if_neg Bool.false_ne_true]
                exact ⟨by simp, S₁₉⟩
        · rw [if_neg (by simp; omega)]
          exact ⟨(keep_small (by omega)).symm, S₁₁⟩
      · obtain ⟨rfl, S₁₀⟩ := hc
        cases hk : keepS (tagOf n) y with
        | false =>
          rw [if_neg Bool.false_ne_true]
          refine wpAny_execs_nil ?_
          refine then_next ?_
          exact wpAny_execs_nil (again hk S₁₀)
        | true =>
          rw [if_pos rfl]
          refine r_seq ?_
          refine wpAny_Return_some ?_
          refine r_slice_sn (b := b) ?_ (by intros; kernel_rfl)
          refine r_nameS S₁₀ (by walk_at "mem") (by walk_at "mn") fun t₂₇ => ?_
          refine ⟨_, _, rfl, hyl, ?_⟩
          refine r_int S₁₀ fun t₂₈ s₂₀ S₂₀ => ?_
          refine ⟨_, _, rfl, _, _, S₂₀, fun s₂₁ t₂₉ S₂₁ => ?_⟩
          refine then_ret ?_
          refine then_ret ?_
          have e : scanX n ys o = (some (cutS y), some (i + 1)) := hsc.symm.trans (scanX_hit hy hk)
          refine turn_ret (h2 _ _ _ (by rw [e]; rfl) ?_)
          rw [e]; exact back S₂₁
    · rw [if_neg (by simpa using hil)]
      exact h1 (by rw [← hsc, scanX_end (by simpa using hil)]) (some i) _ S₃
end
end Mine

-- part D2b
open PySem PySem.W PySem.W.X PyProof.Rows PySem.Calls PySem.Spec PySem.SeqAt
set_option Elab.async false
set_option maxRecDepth 100000
set_option maxHeartbeats 400000
set_option linter.all false
namespace Mine
local macro_rules | `(tactic| walk_at "mem") => `(tactic| first | assumption | exact List.Mem.head _ | (refine List.Mem.tail _ ?_; walk_at "mem") | (refine List.mem_append_right _ ?_; walk_at "mem"))
local macro_rules | `(tactic| walk_at "mn") => `(tactic| first | with_reducible exact List.mem_cons_self | ((with_reducible refine List.mem_cons_of_mem _ ?_); walk_at "mn"))
local macro_rules | `(tactic| walk_at "upd") => `(tactic| first | exact Upd.head | ((with_reducible apply Upd.tail); walk_at "upd"))
local macro_rules | `(tactic| walk_at "set") => `(tactic| first | with_reducible exact SetN.nil | ((with_reducible refine SetN.hit ?_); kernel_rfl) | ((with_reducible apply SetN.skip); kernel_rfl; walk_at "set"))
theorem slot_list_iterL : Slot "list" "__iter__" "list.__iter__" := slot_list_iter
section
variable {prog : Program} {w : World} {A : Around} {E : Value → Shared → Prop} {b s : Shared} {L L' X : Ledger} {G : GLedger} {mg mb : Str → Option Value} {names : List Str} {outer : List Env}

theorem Are.three {items : List Value} {P1 P2 P3 : VP} (h : Are items [P1, P2, P3]) : ∃ v1 v2 v3, items = [v1, v2, v3] ∧ P1 v1 ∧ P2 v2 ∧ P3 v3 := by
  cases h with
  | cons h1 h => cases h with
    | cons h2 h => cases h with
      | cons h3 h => cases h with
        | nil => exact ⟨_, _, _, rfl, h1, h2, h3⟩
theorem Are.two {items : List Value} {P1 P2 : VP} (h : Are items [P1, P2]) : ∃ v1 v2, items = [v1, v2] ∧ P1 v1 ∧ P2 v2 := by
  cases h with
  | cons h1 h => cases h with
    | cons h2 h => cases h with
      | nil => exact ⟨_, _, rfl, h1, h2⟩
theorem sgn_ne {n : Int} : (sgnOf n == ("" : Str)) = false := by unfold sgnOf; split <;> decide +kernel
def sgnX (n : Option Int) : Str := n.elim "" sgnOf
theorem w_due {fd r p q : Addr} {cd : Value} {n : Option Int} {ys : List Str} {o : Option Nat} {e : Bool} {Q : Value → Shared → Prop} (B : Bs b mg mb names) (hln : ("len" : Str) ∉ names) (hn : ∀ k, n = some k → k = 1 ∨ k = 2)
    (Fd : FnAt b mg fd "_law_due" dParams dBody dScope cd) (hA : Ar A 1) (S : St b s L G) (hr : (r, lstS ys) ∈ L) (hp : (p, pnC (sgnX n) q e) ∈ L) (hq : (q, plC o) ∈ L) (hqr : r ≠ q) (hqp : p ≠ q) (hz : ys.length ≤ sizeLine) (hlen : ∀ x ∈ ys, x.length ≤ sizeLine)
    (h : ∀ v N s', AnsV (dueX n ys o e).1 v N → St b s' (N ++ setL p (pnC (sgnX n) q (dueX n ys o e).2.2) (setL q (plC (dueX n ys o e).2.1) L)) G → Q v s') :
    wpAny (model prog w) A (call (.ref fd) [.ref r, .ref p]) Q E s := by
  have hroom : A.depth < recursionLimit := by have := hA.depth; omega
  refine r_callDef [(("rows" : Str), .ref r), (("plain" : Str), .ref p)] B Fd S hroom (fun pm doc => rfl) (locs rfl) (by intro p hp; simp only [List.mem_cons, List.not_mem_nil, or_false] at hp; rcases hp with rfl | rfl <;> rfl) (fun C s₁ S₁ => ?_) rfl rfl rfl (by decide)
  replace S₁ : St b s₁ ((C, frC [(("rows" : Str), vE (.ref r)), (("plain" : Str), vE (.ref p))]) :: L) G := S₁
  have hA1 : Ar (A.deeper (dEnv C fd cd)) 0 := hA.deeper
  generalize A.deeper (dEnv C fd cd) = A' at hA1
  show wpAny _ A' (execs dBody (dEnv C fd cd)) _ _ _
  rw [dBody_eq]
  refine r_seq ?_
  conv in dAt 0 => whnf
  refine Assign_Tuple ?_ (by kernel_rfl) (by kernel_rfl)
  refine r_nameE S₁ (by walk_at "mem") (by walk_at "mn") ?_
  obtain ⟨vs, nn, hv, _⟩ := S₁.isLP (.tail _ hp)
  refine r_asgTup (Lr := [(p, pnC (sgnX n) q e)]) (d := 0) (Ps := [vS (sgnX n), vE (.ref q), vE (.bool e)]) (L₁ := []) (G₁ := []) (givesI_list (hasL_P (.head _))) hA1 (fun x hx => by rw [List.mem_singleton] at hx; subst hx; exact .tail _ hp) S₁ hv.isList.typeIs slot_list_iter.lookup (fun items s₂ hi S₂ => ?_)
  obtain ⟨v1, v2, v3, rfl, hv1, hv2, hv3⟩ := hi.three
  cases hv2
  cases hv3
  show wpAny _ _ (assignInOrder [assign (.Name "sign" _) _, assign (.Name "place" _) _, assign (.Name "ended" _) _] _) _ _ _
  refine assignInOrder_cons (wpAny_assign_Name (r_store (P := vS (sgnX n)) S₂ (by walk_at "mem") hv1 (by walk_at "set") (by walk_at "upd") fun s₃ S₃ => ?_))
  refine assignInOrder_cons (wpAny_assign_Name (r_store (P := vE (.ref q)) S₃ (by walk_at "mem") rfl (by walk_at "set") (by walk_at "upd") fun s₄ S₄ => ?_))
  refine assignInOrder_cons (wpAny_assign_Name (r_store (P := vE (.bool e)) S₄ (by walk_at "mem") rfl (by walk_at "set") (by walk_at "upd") fun s₅ S₅ => ?_))
  refine assignInOrder_nil ?_
  refine then_next ?_
  have hnd := (List.nodup_cons.mp S₅.nodup).2
  have hsq : setL q (plC o) L = L := setL_same hq hnd
  have hsp : setL p (pnC (sgnX n) q e) L = L := setL_same hp hnd
  refine r_seq ?_
  conv in dAt 1 => whnf
  refine wpAny_If ?_
  refine wpAny_isTrue_value ?_ (by kernel_rfl)
  refine r_nameE S₅ (by walk_at "mem") (by walk_at "mn") ?_
  refine wpAny_truthy_bool ?_
  cases e with
  | true =>
    rw [if_pos rfl]
    refine r_seq ?_
    refine wpAny_Return_some ?_
    refine wpAny_Constant_none ?_
    refine then_ret ?_
    refine then_ret ?_
    refine h .none [] _ ⟨rfl, rfl⟩ ?_
    show St b s₅ (setL p (pnC (sgnX n) q true) (setL q (plC o) L)) G
    rw [hsq, hsp]
    exact S₅.sub (.cons _ (.refl _))
  | false =>
    rw [if_neg Bool.false_ne_true]
    refine wpAny_execs_nil ?_
    refine then_next ?_
    refine r_seq ?_
    conv in dAt 2 => whnf
    refine wpAny_If ?_
    refine wpAny_isTrue_Compare1 ?_ (by kernel_rfl)
    refine r_nameS S₅ (by walk_at "mem") (by walk_at "mn") fun t₁ => ?_
    refine r_str S₅ fun t₂ s₆ S₆ => ?_
    refine r_eqS ?_
    refine wpAny_truthy_bool ?_
    cases n with
    | none =>
      rw [if_pos (by decide +kernel)]
      refine r_seq ?_
      refine wpAny_Assign_Subscript ?_ (by kernel_rfl)
      refine wpAny_Constant_bool ?_
      refine r_nameE S₆ (by walk_at "mem") (by walk_at "mn") ?_
      refine r_int S₆ fun t₃ s₇ S₇ => ?_
      refine r_setP S₇ (.tail _ hp) (by decide) (by decide) (P := vE (.bool true)) (by show (2 : Nat) < 3; decide) rfl (.tail (setL_upd (P := pnC (sgnX none) q true) ⟨_, hp⟩)) fun s₈ S₈ => ?_
      refine then_next ?_
      refine r_seq ?_
      refine wpAny_Return_some ?_
      refine r_list1S (b := b) ?_
      refine r_str S₈ fun t₄ s₉ S₉ => ?_
      refine ⟨_, _, _, _, rfl, S₉, fun l s₁₀ S₁₀ => ?_⟩
      refine then_ret ?_
      refine then_ret ?_
      refine h (.ref l) [(l, lstS [refusal3])] _ ⟨l, rfl, rfl⟩ ?_
      show St b s₁₀ ((l, lstS [refusal3]) :: setL p (pnC (sgnX none) q true) (setL q (plC o) L)) G
      rw [hsq]
      exact S₁₀.sub (.cons_cons _ (.cons _ (.refl _)))
    | some k =>
      rw [if_neg (by show ¬ ((sgnOf k == ("" : Str)) = true); rw [sgn_ne]; exact Bool.false_ne_true)]
      refine wpAny_execs_nil ?_
      refine then_next ?_
      refine r_seq ?_
      refine w_seek B hln (hn k rfl) hr hq hqr hz hlen S₆ (fun hno o' s' S' => ?_) (fun y t s' hy S' => ?_)
      · refine then_next ?_
        refine r_seq ?_
        conv in dAt 4 => whnf
        refine wpAny_Assign_Subscript ?_ (by kernel_rfl)
        refine wpAny_Constant_bool ?_
        refine r_nameE S' (by walk_at "mem") (by walk_at "mn") ?_
        refine r_int S' fun t₃ s₇ S₇ => ?_
        refine r_setP S₇ (.tail _ (setL_mem hq)) (by decide) (by decide) (P := vE (.bool true)) (by show (1 : Nat) < 2; decide) rfl (.tail (setL_again (P' := lstP [plV o', vE (.bool true)]) hq)) fun s₈ S₈ => ?_
        have S₉ : St b s₈ ((C, frC (flD r p (sgnOf k) q false)) :: setL q (plC none) L) G := S₈.less (.tail _ (setL_mem hq)) (.tail (setL_again hq)) fun ob hob => by
          refine lstP_mono (by rfl) (fun i P P' e1 e2 v hP => ?_) hob
          match i with
          | 0 =>
            simp at e1 e2
            subst e1 e2
            cases o' with
            | none => exact hP
            | some j => exact ⟨_, hP⟩
          | 1 =>
            simp at e1 e2
            subst e1 e2
            exact hP
          | i + 2 => simp at e1
        refine then_next ?_
        refine r_seq ?_
        conv in dAt 5 => whnf
        refine wpAny_Assign_Subscript ?_ (by kernel_rfl)
        refine wpAny_Constant_bool ?_
        refine r_nameE S₉ (by walk_at "mem") (by walk_at "mn") ?_
        refine r_int S₉ fun t₄ s₁₀ S₁₀ => ?_
        have hp2 : (p, pnC (sgnX (some k)) q false) ∈ setL q (plC none) L := setL_other hqp hp
        refine r_setP S₁₀ (.tail _ hp2) (by decide) (by decide) (P := vE (.bool true)) (by show (2 : Nat) < 3; decide) rfl (.tail (setL_upd (P := pnC (sgnX (some k)) q true) ⟨_, hp2⟩)) fun s₁₁ S₁₁ => ?_
        refine then_next ?_
        refine r_seq ?_
        conv in dAt 6 => whnf
        refine wpAny_Return_some ?_
        refine wpAny_Constant_none ?_
        refine then_ret ?_
        have e1 : dueX (some k) ys o false = (.fin, none, true) := by
          have := scanX_none hno
          simp [dueX, hno, this]
        refine h .none [] _ (by rw [e1]; exact ⟨rfl, rfl⟩) ?_
        rw [e1]
        exact S₁₁.sub (.cons _ (.refl _))
      · refine then_ret ?_
        have e1 : dueX (some k) ys o false = (.row y, (scanX k ys o).2, false) := by simp [dueX, hy]
        refine h _ [] _ (by rw [e1]; exact ⟨⟨t, rfl⟩, rfl⟩) ?_
        rw [e1]
        have S₇ := S'.sub (.cons _ (.refl _))
        show St b s' (setL p (pnC (sgnX (some k)) q false) (setL q (plC (scanX k ys o).2) L)) G
        rw [setL_same (setL_other hqp hp) S₇.nodup]
        exact S₇
end
end Mine

-- part R2
open PySem PySem.W PySem.W.X PyProof.Rows PySem.Calls PySem.Spec PySem.SeqAt
set_option Elab.async false
set_option maxRecDepth 100000
set_option maxHeartbeats 400000
set_option linter.all false
namespace Mine
section
variable {prog : Program} {w : World} {b : Shared} {mg mb : Str → Option Value} {names : List Str}

/-- a reader of the list l with a place of its own -/
def RdO (f : Addr) (cd : Value) (l : Addr) (n : Int) (a : Addr) (o : Option Nat) (e : Bool) (L₁ : Ledger) (G₁ : GLedger) : Prop :=
  (∃ C g t, e = false ∧ o = some 0 ∧ L₁ = [(a, genC g), (C, frC (fl0 (.ref l) (.int n t)))] ∧ G₁ = [(g, IsFresh (rEnv C f cd))]) ∨
  (∃ C tp I g i, e = false ∧ o = some i ∧ L₁ = rdL a C tp g n ++ [(I, itC l i)] ∧ G₁ = [(g, AtLoop (.ref I) (rEnv C f cd))]) ∨
  (∃ g, e = true ∧ L₁ = [(a, genC g)] ∧ G₁ = [(g, IsFin)])
/-- a reader of the iterator I -/
def RdS (f : Addr) (cd : Value) (I : Addr) (n : Int) (a : Addr) (e : Bool) (L₁ : Ledger) (G₁ : GLedger) : Prop :=
  (∃ C g t, e = false ∧ L₁ = [(a, genC g), (C, frC (fl0 (.ref I) (.int n t)))] ∧ G₁ = [(g, IsFresh (rEnv C f cd))]) ∨
  (∃ C tp g, e = false ∧ L₁ = rdL a C tp g n ∧ G₁ = [(g, AtLoop (.ref I) (rEnv C f cd))]) ∨
  (∃ g, e = true ∧ L₁ = [(a, genC g)] ∧ G₁ = [(g, IsFin)])
/-- the reader with the wish 3 -/
def RdB (f : Addr) (cd : Value) (I : Addr) (a : Addr) (e : Bool) (L₁ : Ledger) (G₁ : GLedger) : Prop :=
  (∃ C g t, e = false ∧ L₁ = [(a, genC g), (C, frC (fl0 (.ref I) (.str "3" t)))] ∧ G₁ = [(g, IsFresh (rEnv C f cd))]) ∨
  (∃ g, e = true ∧ L₁ = [(a, genC g)] ∧ G₁ = [(g, IsFin)])

theorem dueX_row {n : Int} {ys : List Str} {o : Option Nat} {y : Str} (h : (scanX n ys o).1 = some y) : dueX (some n) ys o false = (.row y, (scanX n ys o).2, false) := by simp [dueX, h]
theorem dueX_fin {n : Int} {ys : List Str} {o : Option Nat} (h : (scanX n ys o).1 = none) : dueX (some n) ys o false = (.fin, (scanX n ys o).2, true) := by simp [dueX, h]
theorem perm_in {α : Type} (X R F : List α) : (X ++ (R ++ F)).Perm (R ++ (X ++ F)) := perm_swap3 X R F

theorem asks_O {f l a : Addr} {cd : Value} {n : Int} {o : Option Nat} {e : Bool} {L₁ F : Ledger} {G₁ GF : GLedger} {ys : List Str} (B : Bs b mg mb names) (hfree : ("int" : Str) ∉ names) (hn : n = 1 ∨ n = 2)
    (hl : (l, lstS ys) ∈ F) (hlen : ∀ x ∈ ys, x.length ≤ sizeLine) (hR : RdO f cd l n a o e L₁ G₁) :
    Asks prog w b a (L₁ ++ F) (G₁ ++ GF) (fun ans L' G' => ∃ L₂ G₂, RdO f cd l n a (dueX (some n) ys o e).2.1 (dueX (some n) ys o e).2.2 L₂ G₂ ∧ ans = (dueX (some n) ys o e).1 ∧ L' = L₂ ++ F ∧ G' = G₂ ++ GF) := by
  intro A E Q s X outer hA hfr hf S h1 h2 h3
  rcases hR with ⟨C, g, t, rfl, rfl, rfl, rfl⟩ | ⟨C, tp, I, g, i, rfl, rfl, rfl, rfl⟩ | ⟨g, rfl, rfl, rfl⟩
  · have S₁ := S.perm (perm_in X _ F).symm
    refine dn_freshL B hfree hn intTo_int hA (List.mem_append_right _ hl) hlen S₁ fun tp I => ⟨fun y t s' hy S' => ?_, fun hy e t s' S' => ?_⟩
    · obtain ⟨j, hj⟩ := scanX_some hy
      rw [hj] at S'
      refine h1 y t s' _ _ ⟨rdL a C tp g n ++ [(I, itC l j)], _, .inr (.inl ⟨C, tp, I, g, j, ?_, ?_, rfl, rfl⟩), ?_, rfl, rfl⟩ ?_
      · rw [dueX_row hy]
      · rw [dueX_row hy]; exact hj
      · rw [dueX_row hy]
      · have e : setL I (itX l (some j)) ((I, itX l (some 0)) :: (X ++ F)) = (I, itC l j) :: (X ++ F) := by unfold setL; rw [if_pos rfl]; rfl
        rw [e] at S'
        refine S'.perm ((perm_in X _ F).trans ?_)
        rw [List.append_assoc]
        exact .refl _
    · have hj := scanX_none hy
      rw [hj] at S'
      refine h2 e t s' _ _ ⟨[(a, genC g)], _, .inr (.inr ⟨g, ?_, rfl, rfl⟩), ?_, rfl, rfl⟩ ?_
      · rw [dueX_fin hy]
      · rw [dueX_fin hy]
      · have e1 : setL I (itX l none) ((I, itX l (some 0)) :: (X ++ F)) = (I, itE) :: (X ++ F) := by unfold setL; rw [if_pos rfl]; rfl
        rw [e1] at S'
        have S₂ := S'.sub (L' := excN e t "StopIteration" [] ++ ((a, genC g) :: (X ++ F))) (.cons_cons _ (.cons_cons _ (.cons_cons _ (.cons _ (.refl _)))))
        exact S₂.perm (.append (.refl _) (perm_in X [_] F))
  · have S₁ := S.perm (L' := rdL a C tp g n ++ ((I, itX l (some i)) :: (X ++ F))) (by
      refine List.Perm.trans ?_ (perm_in X _ F).symm
      rw [List.append_assoc]
      exact .refl _)
    refine dn_loop B hA (o := some i) (.head _) (.tail _ (List.mem_append_right _ hl)) hlen S₁ ⟨fun y t s' hy S' => ?_, fun hy e t s' S' => ?_⟩
    · obtain ⟨j, hj⟩ := scanX_some hy
      rw [hj] at S'
      refine h1 y t s' _ _ ⟨rdL a C tp g n ++ [(I, itC l j)], _, .inr (.inl ⟨C, tp, I, g, j, ?_, ?_, rfl, rfl⟩), ?_, rfl, rfl⟩ ?_
      · rw [dueX_row hy]
      · rw [dueX_row hy]; exact hj
      · rw [dueX_row hy]
      · have e : setL I (itX l (some j)) ((I, itX l (some i)) :: (X ++ F)) = (I, itC l j) :: (X ++ F) := by unfold setL; rw [if_pos rfl]; rfl
        rw [e] at S'
        refine S'.perm ((perm_in X _ F).trans ?_)
        rw [List.append_assoc]
        exact .refl _
    · have hj := scanX_none hy
      rw [hj] at S'
      refine h2 e t s' _ _ ⟨[(a, genC g)], _, .inr (.inr ⟨g, ?_, rfl, rfl⟩), ?_, rfl, rfl⟩ ?_
      · rw [dueX_fin hy]
      · rw [dueX_fin hy]
      · have e1 : setL I (itX l none) ((I, itX l (some i)) :: (X ++ F)) = (I, itE) :: (X ++ F) := by unfold setL; rw [if_pos rfl]; rfl
        rw [e1] at S'
        have S₂ := S'.sub (L' := excN e t "StopIteration" [] ++ ((a, genC g) :: (X ++ F))) (.cons_cons _ (.cons_cons _ (.cons_cons _ (.cons _ (.refl _)))))
        exact S₂.perm (.append (.refl _) (perm_in X [_] F))
  · refine dn_fin hA.handled S (List.mem_append_right _ (.head _)) (.head _) fun e t s' S' => ?_
    exact h2 e t s' _ _ ⟨[(a, genC g)], _, .inr (.inr ⟨g, rfl, rfl, rfl⟩), rfl, rfl, rfl⟩ S'

theorem setL_app {X F : Ledger} {I : Addr} {P P₀ : Cell} {s : Shared} {R : Ledger} {G : GLedger} (S : St b s (R ++ (X ++ F)) G) (hI : (I, P₀) ∈ F) : setL I P (X ++ F) = X ++ setL I P F := by
  have hn : ((X ++ F).map (·.1)).Nodup := by
    have := S.nodup
    rw [List.map_append] at this
    exact (List.nodup_append.mp this).2.1
  exact ((Upd.left (setL_upd (P := P) ⟨_, hI⟩) X).eq_setL hn).symm

theorem asks_S {f l a I : Addr} {cd : Value} {n : Int} {o : Option Nat} {e : Bool} {L₁ F : Ledger} {G₁ GF : GLedger} {ys : List Str} (B : Bs b mg mb names) (hfree : ("int" : Str) ∉ names) (hn : n = 1 ∨ n = 2)
    (hl : (l, lstS ys) ∈ F) (hI : (I, itX l o) ∈ F) (hlen : ∀ x ∈ ys, x.length ≤ sizeLine) (hR : RdS f cd I n a e L₁ G₁) :
    Asks prog w b a (L₁ ++ F) (G₁ ++ GF) (fun ans L' G' => ∃ L₂ G₂, RdS f cd I n a (dueX (some n) ys o e).2.2 L₂ G₂ ∧ ans = (dueX (some n) ys o e).1 ∧ L' = L₂ ++ setL I (itX l (dueX (some n) ys o e).2.1) F ∧ G' = G₂ ++ GF) := by
  intro A E Q s X outer hA hfr hf S h1 h2 h3
  have says : ∀ {C tp : Addr} {g : Nat} {s₀ : Shared} {R : Ledger} {G₀ : GLedger}, e = false → St b s₀ (R ++ (X ++ F)) G₀ → G₁ ++ GF = G₁ ++ GF → Says b Q E a C f tp I l cd g n ys o (X ++ F) GF := by
    intro C tp g s₀ R G₀ he S₀ _
    subst he
    refine ⟨fun y t s' hy S' => ?_, fun hy e t s' S' => ?_⟩
    · refine h1 y t s' _ _ ⟨rdL a C tp g n, _, .inr (.inl ⟨C, tp, g, ?_, rfl, rfl⟩), ?_, rfl, rfl⟩ ?_
      · rw [dueX_row hy]
      · rw [dueX_row hy]
      · rw [dueX_row hy]
        rw [setL_app S₀ hI] at S'
        exact S'.perm (perm_in X _ _)
    · refine h2 e t s' _ _ ⟨[(a, genC g)], _, .inr (.inr ⟨g, ?_, rfl, rfl⟩), ?_, rfl, rfl⟩ ?_
      · rw [dueX_fin hy]
      · rw [dueX_fin hy]
      · rw [dueX_fin hy]
        rw [setL_app S₀ hI] at S'
        exact S'.perm (.append (.refl _) (perm_in X [_] _))
  rcases hR with ⟨C, g, t, rfl, rfl, rfl⟩ | ⟨C, tp, g, rfl, rfl, rfl⟩ | ⟨g, rfl, rfl, rfl⟩
  · have S₁ := S.perm (perm_in X _ F).symm
    exact dn_freshI B hfree hn intTo_int hA (List.mem_append_right _ hI) (List.mem_append_right _ hl) hlen S₁ fun tp => says rfl S₁ rfl
  · have S₁ := S.perm (perm_in X _ F).symm
    exact dn_loop B hA (List.mem_append_right _ hI) (List.mem_append_right _ hl) hlen S₁ (says rfl S₁ rfl)
  · refine dn_fin hA.handled S (List.mem_append_right _ (.head _)) (.head _) fun e t s' S' => ?_
    have e1 : dueX (some n) ys o true = (.fin, o, true) := rfl
    refine h2 e t s' _ _ ⟨[(a, genC g)], _, .inr (.inr ⟨g, rfl, rfl, rfl⟩), rfl, rfl, rfl⟩ ?_
    rw [e1]
    rw [setL_same hI]
    · exact S'
    · have := S.nodup
      rw [List.map_append, List.map_append] at this
      exact (List.nodup_append.mp (List.nodup_append.mp this).2.1).2.1

theorem intTo_three {t : Tok} : IntTo prog w b (.str "3" t) 3 := fun _ _ _ _ _ _ _ S h => KIN.call_text (by decide +kernel) (by decide +kernel) (h _ _ (S.toks _))
theorem pct_three {t : Tok} : PctTo prog w b (.str "3" t) refusal3 := by
  have h := pctTo_str (prog := prog) (w := w) (b := b) (z := ("3" : Str)) (u := t) (by decide +kernel)
  rwa [show preR ++ reprText ("3" : Str) = refusal3 by decide +kernel] at h
theorem asks_B {f a I : Addr} {cd : Value} {ys : List Str} {o : Option Nat} {e : Bool} {L₁ F : Ledger} {G₁ GF : GLedger} (B : Bs b mg mb names) (hfree : ("int" : Str) ∉ names) (hke : ("KeyError" : Str) ∉ names) (hve : ("ValueError" : Str) ∉ names) (hR : RdB f cd I a e L₁ G₁) :
    Asks prog w b a (L₁ ++ F) (G₁ ++ GF) (fun ans L' G' => ∃ L₂ G₂, RdB f cd I a (dueX none ys o e).2.2 L₂ G₂ ∧ ans = (dueX none ys o e).1 ∧ L' = L₂ ++ F ∧ G' = G₂ ++ GF) := by
  intro A E Q s X outer hA hfr hf S h1 h2 h3
  rcases hR with ⟨C, g, t, rfl, rfl, rfl⟩ | ⟨g, rfl, rfl, rfl⟩
  · have S₁ := S.perm (perm_in X _ F).symm
    have hT : TryBad prog w b (.str "3" t) "ValueError" refusal3 := by
      with_reducible exact tryBad_key B (n := 3) (by decide) (by decide) intTo_three pct_three hfree hke hve
    have hfF : FmsOk outer (X ++ F) := hf.sub fun a fl h => ⟨fl, List.mem_append_left _ h⟩
    replace S₁ : St b s ((a, genC g) :: (C, frC (fl0 (.ref I) (.str "3" t))) :: (X ++ F)) ((g, IsFresh (rEnv C f cd)) :: GF) := S₁
    with_reducible refine r_dnext_bad B hT sub_value_stop hA hfr hfF S₁ ?_
    intro e t T u s' S'
    exact h3 e t T u _ s' _ _ ⟨[(a, genC g)], _, .inr ⟨g, rfl, rfl, rfl⟩, rfl, rfl, rfl⟩ (S'.perm (.append (.refl _) (perm_in X [_] F)))
  · refine dn_fin hA.handled S (List.mem_append_right _ (.head _)) (.head _) fun e t s' S' => ?_
    exact h2 e t s' _ _ ⟨[(a, genC g)], _, .inr ⟨g, rfl, rfl, rfl⟩, rfl, rfl, rfl⟩ S'
end
end Mine

-- part L2a
open PySem PySem.W PySem.W.X PyProof.Rows PySem.Calls PySem.Spec PySem.SeqAt
set_option Elab.async false
set_option maxRecDepth 100000
set_option maxHeartbeats 400000
set_option linter.all false
namespace Mine
local macro_rules | `(tactic| walk_at "mem") => `(tactic| first | assumption | exact List.Mem.head _ | (refine List.Mem.tail _ ?_; walk_at "mem") | (refine List.mem_append_right _ ?_; walk_at "mem"))
local macro_rules | `(tactic| walk_at "mn") => `(tactic| first | with_reducible exact List.mem_cons_self | ((with_reducible refine List.mem_cons_of_mem _ ?_); walk_at "mn"))
local macro_rules | `(tactic| walk_at "upd") => `(tactic| first | exact Upd.head | ((with_reducible apply Upd.tail); walk_at "upd"))
local macro_rules | `(tactic| walk_at "set") => `(tactic| first | with_reducible exact SetN.nil | ((with_reducible refine SetN.hit ?_); kernel_rfl) | ((with_reducible apply SetN.skip); kernel_rfl; walk_at "set"))

def lDef : Stmt := match PySem.Challenge.pw_dm0050_02.main.body with | _ :: _ :: _ :: _ :: _ :: d :: _ => d | _ => .Pass default
def lBody : List Stmt := match lDef with | .FunctionDef _ _ b .. => b | _ => []
def lScope : Scope := match lDef with | .FunctionDef _ _ _ _ _ _ sc .. => sc | _ => default
def lParams : Arguments := match lDef with | .FunctionDef _ a .. => a | _ => default
abbrev lEnv (C f : Addr) (cd : Value) : Env := envOf "law" lScope C f cd
def lAt (k : Nat) : Stmt := (lBody[k]?).getD (.Pass default)
theorem lBody_eq : lBody = [lAt 0, lAt 1, lAt 2, lAt 3, lAt 4, lAt 5, lAt 6, lAt 7, lAt 8] := rfl
theorem lKindE {C f : Addr} {cd : Value} : (lEnv C f cd).scope.kind ≠ .module := fun h => by
  have h' : lScope.kind = .module := h
  rw [show lScope.kind = .function by kernel_rfl] at h'
  cases h'

section
variable {prog : Program} {w : World} {A : Around} {E : Value → Shared → Prop} {b s : Shared} {L L' X : Ledger} {G : GLedger} {mg mb : Str → Option Value} {names : List Str} {outer : List Env} {env : Env}
theorem setL_appN {X F : Ledger} {I : Addr} {P P₀ : Cell} (hn : ((X ++ F).map (·.1)).Nodup) (hI : (I, P₀) ∈ F) : setL I P (X ++ F) = X ++ setL I P F :=
  ((Upd.left (setL_upd (P := P) ⟨_, hI⟩) X).eq_setL hn).symm
theorem setL_keys {L : Ledger} {a : Addr} {P P₀ : Cell} (h : (a, P₀) ∈ L) : (setL a P L).map (·.1) = L.map (·.1) := (setL_upd (P := P) ⟨_, h⟩).keys
/-- a def of one argument, called by its name -/
theorem r_callD1 {x : Str} {e₁ : Expr} {p pos : Pos} {f : Addr} {params : Arguments} {body : List Stmt} {scope : Scope} {cd : Value} {Q : Value → Shared → Prop} (B : Bs b mg mb names) (F : FnAt b mg f x params body scope cd) (S : St b s L G)
    (h : wpAny (model prog w) A (eval e₁ env) (fun v₁ s₁ => (∃ L G, St b s₁ L G) ∧ wpAny (model prog w) A (call (.ref f) [v₁]) Q E s₁) E s)
    (hg : env.globals = mainGlobals := by kernel_rfl) (hk : env.scope.kind = .function := by kernel_rfl) (hx : env.kindOf x = some .globalImplicit := by kernel_rfl) (hd : (x == ("__debug__" : Str)) = false := by decide)
    (ht : backTo pos (starEach [e₁] env) = [(false, eval e₁ env)] := by kernel_rfl) :
    wpAny (model prog w) A (eval (.Call (.Name x p) [e₁] [] pos) env) Q E s := by
  refine wpAny_Call_NameR (r_gname B S F.at_ ?_ hg hk hx hd)
  rw [ht]
  obtain ⟨o, pm, doc, ho, hdat⟩ := F.obj
  refine Calls.callWith_function (o := o) (fd := docDef x params body scope pm cd doc) (Calls.evalArgs_plain (Calls.spliced_cons (wpAny_mono h (fun _ _ h₁ => Calls.spliced_nil ?_) fun _ _ e => e)))
  obtain ⟨⟨_, _, S₂⟩, h₂⟩ := h₁
  exact ⟨⟨S₂.keep _ _ ho, hdat⟩, h₂⟩

/-- the answers are the same -/
theorem r_neAns {ans : Ans} {v v' : Value} {N N' : Ledger} {Q : Value → Shared → Prop} (S : St b s L G) (h1 : AnsV ans v N) (h2 : AnsV ans v' N') (hN : ∀ p ∈ N, p ∈ L) (hN' : ∀ p ∈ N', p ∈ L) (ok : ∀ x, ans = .bad x → PyData.strOk x = true) (hu : A.units + 64 < cLine) (h : Q (.bool false) s) :
    wpAny (model prog w) A (compareOp .NotEq v v') Q E s := by
  cases ans with
  | row y =>
    obtain ⟨⟨t, rfl⟩, rfl⟩ := h1
    obtain ⟨⟨t', rfl⟩, rfl⟩ := h2
    refine r_neS ?_
    rw [show (y != y) = false by simp]
    exact h
  | fin =>
    obtain ⟨rfl, rfl⟩ := h1
    obtain ⟨rfl, rfl⟩ := h2
    exact EqNone.ne_none_none h
  | bad x =>
    obtain ⟨l, rfl, rfl⟩ := h1
    obtain ⟨l', rfl, rfl⟩ := h2
    have hk : OkS [x] := fun y hy => by rw [List.mem_singleton] at hy; subst hy; exact ok _ rfl
    refine r_neLS S (hN _ (.head _)) (hN' _ (.head _)) hk hk hu ?_
    simpa using h

/-- if _law_told(readers[k]) != _law_due(own, plains[k]): return False -/
theorem r_ask {C f ft fd ow R P a p q : Addr} {cd ct cdd : Value} {fl : List (Str × VP)} {i₁ i₂ : Expr} {p1 p2 p3 p4 p5 p6 p7 p8 p9 p10 p11 p12 p13 : Pos} {k13 : Nat} {k : Nat} {g : Nat} {vsR vsP : List Value} {n : Option Int} {ys : List Str} {o : Option Nat} {e : Bool} {R' : Ans → Ledger → GLedger → Prop} {Q : Flow → Shared → Prop} {Lx : Ledger}
    (B : Bs b mg mb names) (hN : ∀ x ∈ ([("next" : Str), "StopIteration", "ValueError", "str"] : List Str), x ∉ names) (hln : ("len" : Str) ∉ names)
    (Ft : FnAt b mg ft "_law_told" tParams tBody tScope ct) (Fd : FnAt b mg fd "_law_due" dParams dBody dScope cdd) (hA : Ar A 3) (hu : A.units + 64 < cLine) (hfr : A.frames = some [lEnv C f cd])
    (S : St b s ((C, frC fl) :: Lx) G) (hflR : (("readers" : Str), vE (.ref R)) ∈ fl) (hflP : (("plains" : Str), vE (.ref P)) ∈ fl) (hflO : (("own" : Str), vE (.ref ow)) ∈ fl)
    (hi₁ : ∀ {s : Shared} {Lz : Ledger} {Gz : GLedger} {Q : Value → Shared → Prop}, St b s ((C, frC fl) :: Lz) Gz → (∀ t s', St b s' ((C, frC fl) :: Lz) Gz → Q (.int k t) s') → wpAny (model prog w) A (eval i₁ (lEnv C f cd)) Q NoE s)
    (hi₂ : ∀ {s : Shared} {Lz : Ledger} {Gz : GLedger} {Q : Value → Shared → Prop}, St b s ((C, frC fl) :: Lz) Gz → (∀ t s', St b s' ((C, frC fl) :: Lz) Gz → Q (.int k t) s') → wpAny (model prog w) A (eval i₂ (lEnv C f cd)) Q NoE s)
    (hR : (R, lstV vsR) ∈ Lx) (hk : k < 5) (hRk : vsR[k]? = some (.ref a)) (hPk : vsP[k]? = some (.ref p)) (ha : (a, genC g) ∈ Lx) (H : Asks prog w b a Lx G R') (hn : ∀ k, n = some k → k = 1 ∨ k = 2) (hz : ys.length ≤ sizeLine) (hlen : ∀ x ∈ ys, x.length ≤ sizeLine)
    (hD : ∀ ans L' G' s', R' ans L' G' → St b s' ((C, frC fl) :: L') G' → ans = (dueX n ys o e).1 ∧ (P, lstV vsP) ∈ L' ∧ (ow, lstS ys) ∈ L' ∧ (p, pnC (sgnX n) q e) ∈ L' ∧ (q, plC o) ∈ L' ∧ ow ≠ q ∧ p ≠ q ∧
      ∀ s', St b s' (setL p (pnC (sgnX n) q (dueX n ys o e).2.2) (setL q (plC (dueX n ys o e).2.1) ((C, frC fl) :: L'))) G' → Q .next s')
    (hs₁ : ∀ u, subscripted i₁ false (.ref R) (.int k u) = operate [.ref R, .int k u] (getItem (.ref R) (.int k u))) (hs₂ : ∀ u, subscripted i₂ false (.ref P) (.int k u) = operate [.ref P, .int k u] (getItem (.ref P) (.int k u)))
    (ht₁ : backTo p4 (starEach [.Subscript (.Name "readers" p1) i₁ p2] (lEnv C f cd)) = [(false, eval (.Subscript (.Name "readers" p1) i₁ p2) (lEnv C f cd))]) (ht₂ : backTo p9 (starEach [.Name "own" p5, .Subscript (.Name "plains" p6) i₂ p7] (lEnv C f cd)) = [(false, eval (.Name "own" p5) (lEnv C f cd)), (false, eval (.Subscript (.Name "plains" p6) i₂ p7) (lEnv C f cd))])
    (hm : behindInMarks .NotEq (.Call (.Name "_law_due" p8) [.Name "own" p5, .Subscript (.Name "plains" p6) i₂ p7] [] p9) = false := by kernel_rfl) :
    wpAny (model prog w) A (exec (.If (.Compare (.Call (.Name "_law_told" p3) [.Subscript (.Name "readers" p1) i₁ p2] [] p4) [.NotEq] [.Call (.Name "_law_due" p8) [.Name "own" p5, .Subscript (.Name "plains" p6) i₂ p7] [] p9] p10) [.Return (some (.Constant (.bool false) k13 p11)) p12] [] p13) (lEnv C f cd)) Q NoE s := by
  have hb : (5 : Int) < 2 ^ 63 := by decide
  have hfX : FmsOk [lEnv C f cd] [(C, frC fl)] := fun env he => by
    rw [List.mem_singleton] at he
    subst he
    exact ⟨lKindE, rfl, _, .head _⟩
  refine wpAny_If ?_
  refine wpAny_isTrue_Compare1 ?_ hm
  refine r_callD1 B Ft S ?_ (ht := ht₁)
  refine Subscript_ ?_
  refine r_nameE S (.head _) hflR ?_
  refine hi₁ S fun t₁ s₁ S₁ => ?_
  refine r_itemV S₁ (.tail _ hR) (by omega) (by omega) (by simpa using hRk) ?_ (hs₁ _)
  refine ⟨⟨_, _, S₁⟩, ?_⟩
  refine w_told (X := [(C, frC fl)]) B hN Ft (hA.mono (by omega)) hu hfr hfX S₁ ha H fun ans v N s₂ L' G' hR2 hv S₂ => ?_
  obtain ⟨rfl, hP, how, hp, hq, hne1, hne2, hQ⟩ := hD ans L' G' s₂ hR2 (S₂.sub (List.sublist_append_right _ _))
  have hmv : ∀ x ∈ L', x ∈ N ++ ([(C, frC fl)] ++ L') := fun x hx => List.mem_append_right _ (.tail _ hx)
  have hCm : (C, frC fl) ∈ N ++ ([(C, frC fl)] ++ L') := List.mem_append_right _ (.head _)
  refine r_callD2 B Fd S₂ ?_ (ht := ht₂)
  refine r_nameE S₂ hCm hflO ?_
  refine Subscript_ ?_
  refine r_nameE S₂ hCm hflP ?_
  have S₃ := S₂.perm (L' := (C, frC fl) :: (N ++ L')) (List.perm_middle.symm)
  refine hi₂ S₃ fun t₂ s₃ S₄ => ?_
  refine r_itemV S₄ (.tail _ (List.mem_append_right _ hP)) (by omega) (by omega) (by simpa using hPk) ?_ (hs₂ _)
  refine ⟨⟨_, _, S₄⟩, ?_⟩
  have S₄' := S₄.perm (L' := N ++ ((C, frC fl) :: L')) List.perm_middle
  refine w_due B hln hn Fd (hA.mono (by omega)) S₄' (hmv _ how) (hmv _ hp) (hmv _ hq) hne1 hne2 hz hlen fun v' N' s₅ hv' S₅ => ?_
  have hnd := S₄'.nodup
  have hq1 : (q, plC o) ∈ (C, frC fl) :: L' := .tail _ hq
  have hp1 : (p, pnC (sgnX n) q e) ∈ setL q (plC (dueX n ys o e).2.1) ((C, frC fl) :: L') := setL_other hne2 (.tail _ hp)
  have e1 : setL q (plC (dueX n ys o e).2.1) (N ++ ((C, frC fl) :: L')) = N ++ setL q (plC (dueX n ys o e).2.1) ((C, frC fl) :: L') := setL_appN hnd hq1
  have e2 : setL p (pnC (sgnX n) q (dueX n ys o e).2.2) (N ++ setL q (plC (dueX n ys o e).2.1) ((C, frC fl) :: L')) = N ++ setL p (pnC (sgnX n) q (dueX n ys o e).2.2) (setL q (plC (dueX n ys o e).2.1) ((C, frC fl) :: L')) := by
    refine setL_appN ?_ hp1
    rw [← e1, setL_keys (List.mem_append_right _ hq1)]
    exact hnd
  rw [e1, e2] at S₅
  refine r_neAns S₅ hv hv' (fun x hx => List.mem_append_right _ (List.mem_append_left _ hx)) (fun x hx => List.mem_append_left _ hx) ?_ hu ?_
  · intro x hx
    have : x = refusal3 := by
      unfold dueX at hx
      cases e with
      | true => simp at hx
      | false =>
        cases n with
        | none => simp at hx; exact hx.symm
        | some k =>
          simp only [Bool.false_eq_true, if_false] at hx
          cases hs : (scanX k ys o).1 with
          | none => rw [hs] at hx; cases hx
          | some y => rw [hs] at hx; cases hx
    subst this
    decide +kernel
  · refine wpAny_truthy_bool ?_
    rw [if_neg Bool.false_ne_true]
    refine wpAny_execs_nil ?_
    exact hQ _ (S₅.sub ((List.sublist_append_right _ _).trans (List.sublist_append_right _ _)))
end
end Mine

-- part L2b
open PySem PySem.W PySem.W.X PyProof.Rows PySem.Calls PySem.Spec PySem.SeqAt
set_option Elab.async false
set_option maxRecDepth 100000
set_option maxHeartbeats 400000
set_option linter.all false
namespace Mine
local macro_rules | `(tactic| walk_at "mem") => `(tactic| first | assumption | exact List.Mem.head _ | (refine List.Mem.tail _ ?_; walk_at "mem") | (refine List.mem_append_right _ ?_; walk_at "mem"))
local macro_rules | `(tactic| walk_at "mn") => `(tactic| first | with_reducible exact List.mem_cons_self | ((with_reducible refine List.mem_cons_of_mem _ ?_); walk_at "mn"))
local macro_rules | `(tactic| walk_at "upd") => `(tactic| first | exact Upd.head | ((with_reducible apply Upd.tail); walk_at "upd"))
local macro_rules | `(tactic| walk_at "set") => `(tactic| first | with_reducible exact SetN.nil | ((with_reducible refine SetN.hit ?_); kernel_rfl) | ((with_reducible apply SetN.skip); kernel_rfl; walk_at "set"))


/-- the addresses of the law's objects -/
structure Ad where
  (rw ow sh qS q0 q1 R P p0 p1 p2 p3 p4 a0 a1 a2 a3 a4 : Addr)
/-- the plain state -/
structure Pl where
  (ys : List Str) (o0 o1 oS : Option Nat) (e0 e1 e2 e3 e4 : Bool)
abbrev bsx (D : Ad) (W : Pl) (o : Option Nat) : Ledger := [(D.rw, lstS W.ys), (D.ow, lstS W.ys), (D.sh, itX D.rw o), (D.qS, plC W.oS), (D.q0, plC W.o0), (D.q1, plC W.o1), (D.R, lstV [.ref D.a0, .ref D.a1, .ref D.a2, .ref D.a3, .ref D.a4]), (D.P, lstV [.ref D.p0, .ref D.p1, .ref D.p2, .ref D.p3, .ref D.p4]), (D.p0, pnC "-" D.q0 W.e0), (D.p1, pnC "+" D.q1 W.e1), (D.p2, pnC "-" D.qS W.e2), (D.p3, pnC "+" D.qS W.e3), (D.p4, pnC "" D.qS W.e4)]
/-- the law's objects, in this plain state -/
def Inv2 (fr : Addr) (cr : Value) (D : Ad) (W : Pl) (Ls : Ledger) (Gs : GLedger) : Prop :=
  ∃ L0 L1 L2 L3 L4 G0 G1 G2 G3 G4, RdO fr cr D.rw 1 D.a0 W.o0 W.e0 L0 G0 ∧ RdO fr cr D.rw 2 D.a1 W.o1 W.e1 L1 G1 ∧ RdS fr cr D.sh 1 D.a2 W.e2 L2 G2 ∧ RdS fr cr D.sh 2 D.a3 W.e3 L3 G3 ∧ RdB fr cr D.sh D.a4 W.e4 L4 G4 ∧
    Ls = bsx D W W.oS ++ (L0 ++ (L1 ++ (L2 ++ (L3 ++ L4)))) ∧ Gs = G0 ++ (G1 ++ (G2 ++ (G3 ++ G4)))

theorem pull1 {α : Type} (a b R : List α) : (a ++ (b ++ R)).Perm (b ++ (a ++ R)) := perm_swap3 a b R
theorem pull2 {α : Type} (a b c R : List α) : (a ++ (b ++ (c ++ R))).Perm (c ++ (a ++ (b ++ R))) := ((perm_swap3 b c R).append_left a).trans (perm_swap3 a c _)
theorem pull3 {α : Type} (a b c d R : List α) : (a ++ (b ++ (c ++ (d ++ R)))).Perm (d ++ (a ++ (b ++ (c ++ R)))) := ((pull2 b c d R).append_left a).trans (perm_swap3 a d _)
theorem pull4 {α : Type} (a b c d e : List α) : (a ++ (b ++ (c ++ (d ++ e)))).Perm (e ++ (a ++ (b ++ (c ++ d)))) := by
  have := pull3 a b c e d
  exact (((List.perm_append_comm (l₁ := d) (l₂ := e)).append_left c).append_left b |>.append_left a).trans this
theorem pullk {α : Type} {bs T K O : List α} (X : List α) (h : T.Perm (K ++ O)) : ((bs ++ T) ++ X).Perm (K ++ (bs ++ (O ++ X))) := by
  rw [List.append_assoc]
  have h1 : (T ++ X).Perm (K ++ (O ++ X)) := by rw [← List.append_assoc]; exact h.append_right X
  exact (h1.append_left bs).trans (perm_swap3 bs K _)
theorem pullg {α : Type} {T K O : List α} (X : List α) (h : T.Perm (K ++ O)) : (T ++ X).Perm (K ++ (O ++ X)) := by rw [← List.append_assoc]; exact h.append_right X

theorem RdO.gen {f : Addr} {cd : Value} {l : Addr} {n : Int} {a : Addr} {o : Option Nat} {e : Bool} {L₁ : Ledger} {G₁ : GLedger} (h : RdO f cd l n a o e L₁ G₁) : ∃ g, (a, genC g) ∈ L₁ := by
  rcases h with ⟨C, g, t, rfl, rfl, rfl, rfl⟩ | ⟨C, tp, I, g, i, rfl, rfl, rfl, rfl⟩ | ⟨g, rfl, rfl, rfl⟩ <;> exact ⟨g, .head _⟩
theorem RdS.gen {f : Addr} {cd : Value} {I : Addr} {n : Int} {a : Addr} {e : Bool} {L₁ : Ledger} {G₁ : GLedger} (h : RdS f cd I n a e L₁ G₁) : ∃ g, (a, genC g) ∈ L₁ := by
  rcases h with ⟨C, g, t, rfl, rfl, rfl⟩ | ⟨C, tp, g, rfl, rfl, rfl⟩ | ⟨g, rfl, rfl, rfl⟩ <;> exact ⟨g, .head _⟩
theorem RdB.gen {f : Addr} {cd : Value} {I : Addr} {a : Addr} {e : Bool} {L₁ : Ledger} {G₁ : GLedger} (h : RdB f cd I a e L₁ G₁) : ∃ g, (a, genC g) ∈ L₁ := by
  rcases h with ⟨C, g, t, rfl, rfl, rfl⟩ | ⟨g, rfl, rfl, rfl⟩ <;> exact ⟨g, .head _⟩

/-- the statement that asks -/
abbrev askS (i₁ i₂ : Expr) (p1 p2 p3 p4 p5 p6 p7 p8 p9 p10 p11 p12 p13 : Pos) (k13 : Nat) : Stmt := .If (.Compare (.Call (.Name "_law_told" p3) [.Subscript (.Name "readers" p1) i₁ p2] [] p4) [.NotEq] [.Call (.Name "_law_due" p8) [.Name "own" p5, .Subscript (.Name "plains" p6) i₂ p7] [] p9] p10) [.Return (some (.Constant (.bool false) k13 p11)) p12] [] p13

section
variable {prog : Program} {w : World} {A : Around} {b s : Shared} {X : Ledger} {GX : GLedger} {mg mb : Str → Option Value} {names : List Str}
/-- what the law's defs and names are -/
structure Kit2 (b : Shared) (mg mb : Str → Option Value) (names : List Str) (fr ft fd : Addr) (cr ct cdd : Value) : Prop where
  B : Bs b mg mb names
  hN : ∀ x ∈ ([("next" : Str), "StopIteration", "ValueError", "str"] : List Str), x ∉ names
  hM : ∀ x ∈ ([("len" : Str), "int", "KeyError", "list", "iter", "range"] : List Str), x ∉ names
  Fr : FnAt b mg fr "restore" rParams rBody rScope cr
  Ft : FnAt b mg ft "_law_told" tParams tBody tScope ct
  Fd : FnAt b mg fd "_law_due" dParams dBody dScope cdd

theorem ask0 {fr ft fd C f : Addr} {cr ct cdd cd : Value} {D : Ad} {W : Pl} {Ls : Ledger} {Gs : GLedger} {fl : List (Str × VP)} {i₁ i₂ : Expr} {p1 p2 p3 p4 p5 p6 p7 p8 p9 p10 p11 p12 p13 : Pos} {k13 : Nat} {Q : Flow → Shared → Prop} (K : Kit2 b mg mb names fr ft fd cr ct cdd)
    (hA : Ar A 3) (hu : A.units + 64 < cLine) (hfr : A.frames = some [lEnv C f cd]) (I : Inv2 fr cr D W Ls Gs) (hz : W.ys.length ≤ sizeLine) (hlen : ∀ x ∈ W.ys, x.length ≤ sizeLine)
    (S : St b s ((C, frC fl) :: (Ls ++ X)) (Gs ++ GX)) (hflR : (("readers" : Str), vE (.ref D.R)) ∈ fl) (hflP : (("plains" : Str), vE (.ref D.P)) ∈ fl) (hflO : (("own" : Str), vE (.ref D.ow)) ∈ fl)
    (hi₁ : ∀ {s : Shared} {Lz : Ledger} {Gz : GLedger} {Q : Value → Shared → Prop}, St b s ((C, frC fl) :: Lz) Gz → (∀ t s', St b s' ((C, frC fl) :: Lz) Gz → Q (.int (0 : Nat) t) s') → wpAny (model prog w) A (eval i₁ (lEnv C f cd)) Q NoE s)
    (hi₂ : ∀ {s : Shared} {Lz : Ledger} {Gz : GLedger} {Q : Value → Shared → Prop}, St b s ((C, frC fl) :: Lz) Gz → (∀ t s', St b s' ((C, frC fl) :: Lz) Gz → Q (.int (0 : Nat) t) s') → wpAny (model prog w) A (eval i₂ (lEnv C f cd)) Q NoE s)
    (h : ∀ W' Ls' Gs' s', W'.ys = W.ys → Inv2 fr cr D W' Ls' Gs' → St b s' ((C, frC fl) :: (Ls' ++ X)) (Gs' ++ GX) → Q .next s')
    (hs₁ : ∀ u, subscripted i₁ false (.ref D.R) (.int (0 : Nat) u) = operate [.ref D.R, .int (0 : Nat) u] (getItem (.ref D.R) (.int (0 : Nat) u))) (hs₂ : ∀ u, subscripted i₂ false (.ref D.P) (.int (0 : Nat) u) = operate [.ref D.P, .int (0 : Nat) u] (getItem (.ref D.P) (.int (0 : Nat) u)))
    (ht₁ : backTo p4 (starEach [.Subscript (.Name "readers" p1) i₁ p2] (lEnv C f cd)) = [(false, eval (.Subscript (.Name "readers" p1) i₁ p2) (lEnv C f cd))]) (ht₂ : backTo p9 (starEach [.Name "own" p5, .Subscript (.Name "plains" p6) i₂ p7] (lEnv C f cd)) = [(false, eval (.Name "own" p5) (lEnv C f cd)), (false, eval (.Subscript (.Name "plains" p6) i₂ p7) (lEnv C f cd))])
    (hm : behindInMarks .NotEq (.Call (.Name "_law_due" p8) [.Name "own" p5, .Subscript (.Name "plains" p6) i₂ p7] [] p9) = false := by kernel_rfl) :
    wpAny (model prog w) A (exec (askS i₁ i₂ p1 p2 p3 p4 p5 p6 p7 p8 p9 p10 p11 p12 p13 k13) (lEnv C f cd)) Q NoE s := by
  obtain ⟨L0, L1, L2, L3, L4, G0, G1, G2, G3, G4, H0, H1, H2, H3, H4, rfl, rfl⟩ := I
  have S₁ := (S.perm (L' := (C, frC fl) :: (L0 ++ (bsx D W W.oS ++ ((L1 ++ (L2 ++ (L3 ++ L4))) ++ X)))) (.cons _ (pullk X (.refl _)).symm)).gperm (G' := G0 ++ ((G1 ++ (G2 ++ (G3 ++ G4))) ++ GX)) (pullg GX (.refl _)).symm
  obtain ⟨g, hg⟩ := H0.gen
  have hnb : ((bsx D W W.oS).map (·.1)).Nodup := by
    have := S₁.nodup
    simp only [List.map_cons, List.map_append] at this
    exact (List.nodup_append.mp (List.nodup_append.mp (List.nodup_cons.mp this).2).2.1).1
  have hne1 : D.ow ≠ D.q0 := fun e => by simp [bsx, e] at hnb
  have hne2 : D.p0 ≠ D.q0 := fun e => by simp [bsx, e] at hnb
  refine r_ask (k := 0) (n := (some 1)) (q := D.q0) (o := W.o0) (e := W.e0) (ys := W.ys) (ow := D.ow) (p := D.p0) (vsP := [.ref D.p0, .ref D.p1, .ref D.p2, .ref D.p3, .ref D.p4]) K.B K.hN (K.hM _ (.head _)) K.Ft K.Fd hA hu hfr S₁ hflR hflP hflO hi₁ hi₂ (vsR := [.ref D.a0, .ref D.a1, .ref D.a2, .ref D.a3, .ref D.a4])
    (List.mem_append_right _ (List.mem_append_left _ (by simp))) (by decide) rfl rfl (List.mem_append_left _ hg) (asks_O (GF := (G1 ++ (G2 ++ (G3 ++ G4))) ++ GX) K.B (K.hM _ (.tail _ (.head _))) (by decide) (F := bsx D W W.oS ++ ((L1 ++ (L2 ++ (L3 ++ L4))) ++ X)) (ys := W.ys) (.head _) hlen H0) (fun k hk => by cases hk; decide) hz hlen ?_ hs₁ hs₂ ht₁ ht₂ hm
  rintro ans L' G' s' ⟨M, N, hM, rfl, rfl, rfl⟩ S'
  have hmm : ∀ x ∈ bsx D W W.oS, x ∈ M ++ (bsx D W W.oS ++ ((L1 ++ (L2 ++ (L3 ++ L4))) ++ X)) := fun x hx => List.mem_append_right _ (List.mem_append_left _ hx)
  have hsg : sgnX (some 1) = "-" := by decide +kernel
  refine ⟨rfl, hmm _ (by simp), hmm _ (by simp), hmm _ (by rw [hsg]; simp), hmm _ (by simp), hne1, hne2, fun s'' S'' => ?_⟩
  have uq : Upd ((C, frC fl) :: (M ++ (bsx D W W.oS ++ ((L1 ++ (L2 ++ (L3 ++ L4))) ++ X)))) D.q0 (plC (dueX (some 1) W.ys W.o0 W.e0).2.1) ((C, frC fl) :: (M ++ (bsx D { W with o0 := (dueX (some 1) W.ys W.o0 W.e0).2.1 } W.oS ++ ((L1 ++ (L2 ++ (L3 ++ L4))) ++ X)))) := .tail (Upd.left (.tail (.tail (.tail (.tail .head)))) M)
  rw [← uq.eq_setL S'.nodup] at S''
  have hnq : (((C, frC fl) :: (M ++ (bsx D { W with o0 := (dueX (some 1) W.ys W.o0 W.e0).2.1 } W.oS ++ ((L1 ++ (L2 ++ (L3 ++ L4))) ++ X)))).map (·.1)).Nodup := by rw [uq.keys]; exact S'.nodup
  have up : Upd ((C, frC fl) :: (M ++ (bsx D { W with o0 := (dueX (some 1) W.ys W.o0 W.e0).2.1 } W.oS ++ ((L1 ++ (L2 ++ (L3 ++ L4))) ++ X)))) D.p0 (pnC "-" D.q0 (dueX (some 1) W.ys W.o0 W.e0).2.2) ((C, frC fl) :: (M ++ (bsx D { W with o0 := (dueX (some 1) W.ys W.o0 W.e0).2.1, e0 := (dueX (some 1) W.ys W.o0 W.e0).2.2 } W.oS ++ ((L1 ++ (L2 ++ (L3 ++ L4))) ++ X)))) := .tail (Upd.left (.tail (.tail (.tail (.tail (.tail (.tail (.tail (.tail .head)))))))) M)
  have e9 := up.eq_setL hnq
  rw [hsg, ← e9] at S''
  refine h { W with o0 := (dueX (some 1) W.ys W.o0 W.e0).2.1, e0 := (dueX (some 1) W.ys W.o0 W.e0).2.2 } (bsx D { W with o0 := (dueX (some 1) W.ys W.o0 W.e0).2.1, e0 := (dueX (some 1) W.ys W.o0 W.e0).2.2 } { W with o0 := (dueX (some 1) W.ys W.o0 W.e0).2.1, e0 := (dueX (some 1) W.ys W.o0 W.e0).2.2 }.oS ++ (M ++ (L1 ++ (L2 ++ (L3 ++ L4))))) (N ++ (G1 ++ (G2 ++ (G3 ++ G4)))) s'' rfl ⟨M, L1, L2, L3, L4, N, G1, G2, G3, G4, hM, H1, H2, H3, H4, rfl, rfl⟩ ?_
  exact (S''.perm (.cons _ (pullk X (.refl _)))).gperm (pullg GX (.refl _))

theorem ask1 {fr ft fd C f : Addr} {cr ct cdd cd : Value} {D : Ad} {W : Pl} {Ls : Ledger} {Gs : GLedger} {fl : List (Str × VP)} {i₁ i₂ : Expr} {p1 p2 p3 p4 p5 p6 p7 p8 p9 p10 p11 p12 p13 : Pos} {k13 : Nat} {Q : Flow → Shared → Prop} (K : Kit2 b mg mb names fr ft fd cr ct cdd)
    (hA : Ar A 3) (hu : A.units + 64 < cLine) (hfr : A.frames = some [lEnv C f cd]) (I : Inv2 fr cr D W Ls Gs) (hz : W.ys.length ≤ sizeLine) (hlen : ∀ x ∈ W.ys, x.length ≤ sizeLine)
    (S : St b s ((C, frC fl) :: (Ls ++ X)) (Gs ++ GX)) (hflR : (("readers" : Str), vE (.ref D.R)) ∈ fl) (hflP : (("plains" : Str), vE (.ref D.P)) ∈ fl) (hflO : (("own" : Str), vE (.ref D.ow)) ∈ fl)
    (hi₁ : ∀ {s : Shared} {Lz : Ledger} {Gz : GLedger} {Q : Value → Shared → Prop}, St b s ((C, frC fl) :: Lz) Gz → (∀ t s', St b s' ((C, frC fl) :: Lz) Gz → Q (.int (1 : Nat) t) s') → wpAny (model prog w) A (eval i₁ (lEnv C f cd)) Q NoE s)
    (hi₂ : ∀ {s : Shared} {Lz : Ledger} {Gz : GLedger} {Q : Value → Shared → Prop}, St b s ((C, frC fl) :: Lz) Gz → (∀ t s', St b s' ((C, frC fl) :: Lz) Gz → Q (.int (1 : Nat) t) s') → wpAny (model prog w) A (eval i₂ (lEnv C f cd)) Q NoE s)
    (h : ∀ W' Ls' Gs' s', W'.ys = W.ys → Inv2 fr cr D W' Ls' Gs' → St b s' ((C, frC fl) :: (Ls' ++ X)) (Gs' ++ GX) → Q .next s')
    (hs₁ : ∀ u, subscripted i₁ false (.ref D.R) (.int (1 : Nat) u) = operate [.ref D.R, .int (1 : Nat) u] (getItem (.ref D.R) (.int (1 : Nat) u))) (hs₂ : ∀ u, subscripted i₂ false (.ref D.P) (.int (1 : Nat) u) = operate [.ref D.P, .int (1 : Nat) u] (getItem (.ref D.P) (.int (1 : Nat) u)))
    (ht₁ : backTo p4 (starEach [.Subscript (.Name "readers" p1) i₁ p2] (lEnv C f cd)) = [(false, eval (.Subscript (.Name "readers" p1) i₁ p2) (lEnv C f cd))]) (ht₂ : backTo p9 (starEach [.Name "own" p5, .Subscript (.Name "plains" p6) i₂ p7] (lEnv C f cd)) = [(false, eval (.Name "own" p5) (lEnv C f cd)), (false, eval (.Subscript (.Name "plains" p6) i₂ p7) (lEnv C f cd))])
    (hm : behindInMarks .NotEq (.Call (.Name "_law_due" p8) [.Name "own" p5, .Subscript (.Name "plains" p6) i₂ p7] [] p9) = false := by kernel_rfl) :
    wpAny (model prog w) A (exec (askS i₁ i₂ p1 p2 p3 p4 p5 p6 p7 p8 p9 p10 p11 p12 p13 k13) (lEnv C f cd)) Q NoE s := by
  obtain ⟨L0, L1, L2, L3, L4, G0, G1, G2, G3, G4, H0, H1, H2, H3, H4, rfl, rfl⟩ := I
  have S₁ := (S.perm (L' := (C, frC fl) :: (L1 ++ (bsx D W W.oS ++ ((L0 ++ (L2 ++ (L3 ++ L4))) ++ X)))) (.cons _ (pullk X (pull1 L0 L1 _)).symm)).gperm (G' := G1 ++ ((G0 ++ (G2 ++ (G3 ++ G4))) ++ GX)) (pullg GX (pull1 G0 G1 _)).symm
  obtain ⟨g, hg⟩ := H1.gen
  have hnb : ((bsx D W W.oS).map (·.1)).Nodup := by
    have := S₁.nodup
    simp only [List.map_cons, List.map_append] at this
    exact (List.nodup_append.mp (List.nodup_append.mp (List.nodup_cons.mp this).2).2.1).1
  have hne1 : D.ow ≠ D.q1 := fun e => by simp [bsx, e] at hnb
  have hne2 : D.p1 ≠ D.q1 := fun e => by simp [bsx, e] at hnb
  refine r_ask (k := 1) (n := (some 2)) (q := D.q1) (o := W.o1) (e := W.e1) (ys := W.ys) (ow := D.ow) (p := D.p1) (vsP := [.ref D.p0, .ref D.p1, .ref D.p2, .ref D.p3, .ref D.p4]) K.B K.hN (K.hM _ (.head _)) K.Ft K.Fd hA hu hfr S₁ hflR hflP hflO hi₁ hi₂ (vsR := [.ref D.a0, .ref D.a1, .ref D.a2, .ref D.a3, .ref D.a4])
    (List.mem_append_right _ (List.mem_append_left _ (by simp))) (by decide) rfl rfl (List.mem_append_left _ hg) (asks_O (GF := (G0 ++ (G2 ++ (G3 ++ G4))) ++ GX) K.B (K.hM _ (.tail _ (.head _))) (by decide) (F := bsx D W W.oS ++ ((L0 ++ (L2 ++ (L3 ++ L4))) ++ X)) (ys := W.ys) (.head _) hlen H1) (fun k hk => by cases hk; decide) hz hlen ?_ hs₁ hs₂ ht₁ ht₂ hm
  rintro ans L' G' s' ⟨M, N, hM, rfl, rfl, rfl⟩ S'
  have hmm : ∀ x ∈ bsx D W W.oS, x ∈ M ++ (bsx D W W.oS ++ ((L0 ++ (L2 ++ (L3 ++ L4))) ++ X)) := fun x hx => List.mem_append_right _ (List.mem_append_left _ hx)
  have hsg : sgnX (some 2) = "+" := by decide +kernel
  refine ⟨rfl, hmm _ (by simp), hmm _ (by simp), hmm _ (by rw [hsg]; simp), hmm _ (by simp), hne1, hne2, fun s'' S'' => ?_⟩
  have uq : Upd ((C, frC fl) :: (M ++ (bsx D W W.oS ++ ((L0 ++ (L2 ++ (L3 ++ L4))) ++ X)))) D.q1 (plC (dueX (some 2) W.ys W.o1 W.e1).2.1) ((C, frC fl) :: (M ++ (bsx D { W with o1 := (dueX (some 2) W.ys W.o1 W.e1).2.1 } W.oS ++ ((L0 ++ (L2 ++ (L3 ++ L4))) ++ X)))) := .tail (Upd.left (.tail (.tail (.tail (.tail (.tail .head))))) M)
  rw [← uq.eq_setL S'.nodup] at S''
  have hnq : (((C, frC fl) :: (M ++ (bsx D { W with o1 := (dueX (some 2) W.ys W.o1 W.e1).2.1 } W.oS ++ ((L0 ++ (L2 ++ (L3 ++ L4))) ++ X)))).map (·.1)).Nodup := by rw [uq.keys]; exact S'.nodup
  have up : Upd ((C, frC fl) :: (M ++ (bsx D { W with o1 := (dueX (some 2) W.ys W.o1 W.e1).2.1 } W.oS ++ ((L0 ++ (L2 ++ (L3 ++ L4))) ++ X)))) D.p1 (pnC "+" D.q1 (dueX (some 2) W.ys W.o1 W.e1).2.2) ((C, frC fl) :: (M ++ (bsx D { W with o1 := (dueX (some 2) W.ys W.o1 W.e1).2.1, e1 := (dueX (some 2) W.ys W.o1 W.e1).2.2 } W.oS ++ ((L0 ++ (L2 ++ (L3 ++ L4))) ++ X)))) := .tail (Upd.left (.tail (.tail (.tail (.tail (.tail (.tail (.tail (.tail (.tail .head))))))))) M)
  have e9 := up.eq_setL hnq
  rw [hsg, ← e9] at S''
  refine h { W with o1 := (dueX (some 2) W.ys W.o1 W.e1).2.1, e1 := (dueX (some 2) W.ys W.o1 W.e1).2.2 } (bsx D { W with o1 := (dueX (some 2) W.ys W.o1 W.e1).2.1, e1 := (dueX (some 2) W.ys W.o1 W.e1).2.2 } { W with o1 := (dueX (some 2) W.ys W.o1 W.e1).2.1, e1 := (dueX (some 2) W.ys W.o1 W.e1).2.2 }.oS ++ (L0 ++ (M ++ (L2 ++ (L3 ++ L4))))) (G0 ++ (N ++ (G2 ++ (G3 ++ G4)))) s'' rfl ⟨L0, M, L2, L3, L4, G0, N, G2, G3, G4, H0, hM, H2, H3, H4, rfl, rfl⟩ ?_
  exact (S''.perm (.cons _ (pullk X (pull1 L0 M _)))).gperm (pullg GX (pull1 G0 N _))

theorem ask2 {fr ft fd C f : Addr} {cr ct cdd cd : Value} {D : Ad} {W : Pl} {Ls : Ledger} {Gs : GLedger} {fl : List (Str × VP)} {i₁ i₂ : Expr} {p1 p2 p3 p4 p5 p6 p7 p8 p9 p10 p11 p12 p13 : Pos} {k13 : Nat} {Q : Flow → Shared → Prop} (K : Kit2 b mg mb names fr ft fd cr ct cdd)
    (hA : Ar A 3) (hu : A.units + 64 < cLine) (hfr : A.frames = some [lEnv C f cd]) (I : Inv2 fr cr D W Ls Gs) (hz : W.ys.length ≤ sizeLine) (hlen : ∀ x ∈ W.ys, x.length ≤ sizeLine)
    (S : St b s ((C, frC fl) :: (Ls ++ X)) (Gs ++ GX)) (hflR : (("readers" : Str), vE (.ref D.R)) ∈ fl) (hflP : (("plains" : Str), vE (.ref D.P)) ∈ fl) (hflO : (("own" : Str), vE (.ref D.ow)) ∈ fl)
    (hi₁ : ∀ {s : Shared} {Lz : Ledger} {Gz : GLedger} {Q : Value → Shared → Prop}, St b s ((C, frC fl) :: Lz) Gz → (∀ t s', St b s' ((C, frC fl) :: Lz) Gz → Q (.int (2 : Nat) t) s') → wpAny (model prog w) A (eval i₁ (lEnv C f cd)) Q NoE s)
    (hi₂ : ∀ {s : Shared} {Lz : Ledger} {Gz : GLedger} {Q : Value → Shared → Prop}, St b s ((C, frC fl) :: Lz) Gz → (∀ t s', St b s' ((C, frC fl) :: Lz) Gz → Q (.int (2 : Nat) t) s') → wpAny (model prog w) A (eval i₂ (lEnv C f cd)) Q NoE s)
    (h : ∀ W' Ls' Gs' s', W'.ys = W.ys → Inv2 fr cr D W' Ls' Gs' → St b s' ((C, frC fl) :: (Ls' ++ X)) (Gs' ++ GX) → Q .next s')
    (hs₁ : ∀ u, subscripted i₁ false (.ref D.R) (.int (2 : Nat) u) = operate [.ref D.R, .int (2 : Nat) u] (getItem (.ref D.R) (.int (2 : Nat) u))) (hs₂ : ∀ u, subscripted i₂ false (.ref D.P) (.int (2 : Nat) u) = operate [.ref D.P, .int (2 : Nat) u] (getItem (.ref D.P) (.int (2 : Nat) u)))
    (ht₁ : backTo p4 (starEach [.Subscript (.Name "readers" p1) i₁ p2] (lEnv C f cd)) = [(false, eval (.Subscript (.Name "readers" p1) i₁ p2) (lEnv C f cd))]) (ht₂ : backTo p9 (starEach [.Name "own" p5, .Subscript (.Name "plains" p6) i₂ p7] (lEnv C f cd)) = [(false, eval (.Name "own" p5) (lEnv C f cd)), (false, eval (.Subscript (.Name "plains" p6) i₂ p7) (lEnv C f cd))])
    (hm : behindInMarks .NotEq (.Call (.Name "_law_due" p8) [.Name "own" p5, .Subscript (.Name "plains" p6) i₂ p7] [] p9) = false := by kernel_rfl) :
    wpAny (model prog w) A (exec (askS i₁ i₂ p1 p2 p3 p4 p5 p6 p7 p8 p9 p10 p11 p12 p13 k13) (lEnv C f cd)) Q NoE s := by
  obtain ⟨L0, L1, L2, L3, L4, G0, G1, G2, G3, G4, H0, H1, H2, H3, H4, rfl, rfl⟩ := I
  have S₁ := (S.perm (L' := (C, frC fl) :: (L2 ++ (bsx D W W.oS ++ ((L0 ++ (L1 ++ (L3 ++ L4))) ++ X)))) (.cons _ (pullk X (pull2 L0 L1 L2 _)).symm)).gperm (G' := G2 ++ ((G0 ++ (G1 ++ (G3 ++ G4))) ++ GX)) (pullg GX (pull2 G0 G1 G2 _)).symm
  obtain ⟨g, hg⟩ := H2.gen
  have hnb : ((bsx D W W.oS).map (·.1)).Nodup := by
    have := S₁.nodup
    simp only [List.map_cons, List.map_append] at this
    exact (List.nodup_append.mp (List.nodup_append.mp (List.nodup_cons.mp this).2).2.1).1
  have hne1 : D.ow ≠ D.qS := fun e => by simp [bsx, e] at hnb
  have hne2 : D.p2 ≠ D.qS := fun e => by simp [bsx, e] at hnb
  refine r_ask (k := 2) (n := (some 1)) (q := D.qS) (o := W.oS) (e := W.e2) (ys := W.ys) (ow := D.ow) (p := D.p2) (vsP := [.ref D.p0, .ref D.p1, .ref D.p2, .ref D.p3, .ref D.p4]) K.B K.hN (K.hM _ (.head _)) K.Ft K.Fd hA hu hfr S₁ hflR hflP hflO hi₁ hi₂ (vsR := [.ref D.a0, .ref D.a1, .ref D.a2, .ref D.a3, .ref D.a4])
    (List.mem_append_right _ (List.mem_append_left _ (by simp))) (by decide) rfl rfl (List.mem_append_left _ hg) (asks_S (GF := (G0 ++ (G1 ++ (G3 ++ G4))) ++ GX) K.B (K.hM _ (.tail _ (.head _))) (by decide) (F := bsx D W W.oS ++ ((L0 ++ (L1 ++ (L3 ++ L4))) ++ X)) (ys := W.ys) (o := W.oS) (.head _) (.tail _ (.tail _ (.head _))) hlen H2) (fun k hk => by cases hk; decide) hz hlen ?_ hs₁ hs₂ ht₁ ht₂ hm
  rintro ans L' G' s' ⟨M, N, hM, rfl, rfl, rfl⟩ S'
  have hns : ((bsx D W W.oS ++ ((L0 ++ (L1 ++ (L3 ++ L4))) ++ X)).map (·.1)).Nodup := by
    have := S₁.nodup
    rw [List.map_cons, List.map_append] at this
    exact (List.nodup_append.mp (List.nodup_cons.mp this).2).2.1
  have us : Upd (bsx D W W.oS ++ ((L0 ++ (L1 ++ (L3 ++ L4))) ++ X)) D.sh (itX D.rw (dueX (some 1) W.ys W.oS W.e2).2.1) (bsx D W (dueX (some 1) W.ys W.oS W.e2).2.1 ++ ((L0 ++ (L1 ++ (L3 ++ L4))) ++ X)) := .tail (.tail .head)
  rw [← us.eq_setL hns] at S' ⊢
  have hmm : ∀ x ∈ bsx D W (dueX (some 1) W.ys W.oS W.e2).2.1, x ∈ M ++ (bsx D W (dueX (some 1) W.ys W.oS W.e2).2.1 ++ ((L0 ++ (L1 ++ (L3 ++ L4))) ++ X)) := fun x hx => List.mem_append_right _ (List.mem_append_left _ hx)
  have hsg : sgnX (some 1) = "-" := by decide +kernel
  refine ⟨rfl, hmm _ (by simp), hmm _ (by simp), hmm _ (by rw [hsg]; simp), hmm _ (by simp), hne1, hne2, fun s'' S'' => ?_⟩
  have uq : Upd ((C, frC fl) :: (M ++ (bsx D W (dueX (some 1) W.ys W.oS W.e2).2.1 ++ ((L0 ++ (L1 ++ (L3 ++ L4))) ++ X)))) D.qS (plC (dueX (some 1) W.ys W.oS W.e2).2.1) ((C, frC fl) :: (M ++ (bsx D { W with oS := (dueX (some 1) W.ys W.oS W.e2).2.1 } (dueX (some 1) W.ys W.oS W.e2).2.1 ++ ((L0 ++ (L1 ++ (L3 ++ L4))) ++ X)))) := .tail (Upd.left (.tail (.tail (.tail .head))) M)
  rw [← uq.eq_setL S'.nodup] at S''
  have hnq : (((C, frC fl) :: (M ++ (bsx D { W with oS := (dueX (some 1) W.ys W.oS W.e2).2.1 } (dueX (some 1) W.ys W.oS W.e2).2.1 ++ ((L0 ++ (L1 ++ (L3 ++ L4))) ++ X)))).map (·.1)).Nodup := by rw [uq.keys]; exact S'.nodup
  have up : Upd ((C, frC fl) :: (M ++ (bsx D { W with oS := (dueX (some 1) W.ys W.oS W.e2).2.1 } (dueX (some 1) W.ys W.oS W.e2).2.1 ++ ((L0 ++ (L1 ++ (L3 ++ L4))) ++ X)))) D.p2 (pnC "-" D.qS (dueX (some 1) W.ys W.oS W.e2).2.2) ((C, frC fl) :: (M ++ (bsx D { W with oS := (dueX (some 1) W.ys W.oS W.e2).2.1, e2 := (dueX (some 1) W.ys W.oS W.e2).2.2 } (dueX (some 1) W.ys W.oS W.e2).2.1 ++ ((L0 ++ (L1 ++ (L3 ++ L4))) ++ X)))) := .tail (Upd.left (.tail (.tail (.tail (.tail (.tail (.tail (.tail (.tail (.tail (.tail .head)))))))))) M)
  have e9 := up.eq_setL hnq
  rw [hsg, ← e9] at S''
  refine h { W with oS := (dueX (some 1) W.ys W.oS W.e2).2.1, e2 := (dueX (some 1) W.ys W.oS W.e2).2.2 } (bsx D { W with oS := (dueX (some 1) W.ys W.oS W.e2).2.1, e2 := (dueX (some 1) W.ys W.oS W.e2).2.2 } { W with oS := (dueX (some 1) W.ys W.oS W.e2).2.1, e2 := (dueX (some 1) W.ys W.oS W.e2).2.2 }.oS ++ (L0 ++ (L1 ++ (M ++ (L3 ++ L4))))) (G0 ++ (G1 ++ (N ++ (G3 ++ G4)))) s'' rfl ⟨L0, L1, M, L3, L4, G0, G1, N, G3, G4, H0, H1, hM, H3, H4, rfl, rfl⟩ ?_
  exact (S''.perm (.cons _ (pullk X (pull2 L0 L1 M _)))).gperm (pullg GX (pull2 G0 G1 N _))

theorem ask3 {fr ft fd C f : Addr} {cr ct cdd cd : Value} {D : Ad} {W : Pl} {Ls : Ledger} {Gs : GLedger} {fl : List (Str × VP)} {i₁ i₂ : Expr} {p1 p2 p3 p4 p5 p6 p7 p8 p9 p10 p11 p12 p13 : Pos} {k13 : Nat} {Q : Flow → Shared → Prop} (K : Kit2 b mg mb names fr ft fd cr ct cdd)
    (hA : Ar A 3) (hu : A.units + 64 < cLine) (hfr : A.frames = some [lEnv C f cd]) (I : Inv2 fr cr D W Ls Gs) (hz : W.ys.length ≤ sizeLine) (hlen : ∀ x ∈ W.ys, x.length ≤ sizeLine)
    (S : St b s ((C, frC fl) :: (Ls ++ X)) (Gs ++ GX)) (hflR : (("readers" : Str), vE (.ref D.R)) ∈ fl) (hflP : (("plains" : Str), vE (.ref D.P)) ∈ fl) (hflO : (("own" : Str), vE (.ref D.ow)) ∈ fl)
    (hi₁ : ∀ {s : Shared} {Lz : Ledger} {Gz : GLedger} {Q : Value → Shared → Prop}, St b s ((C, frC fl) :: Lz) Gz → (∀ t s', St b s' ((C, frC fl) :: Lz) Gz → Q (.int (3 : Nat) t) s') → wpAny (model prog w) A (eval i₁ (lEnv C f cd)) Q NoE s)
    (hi₂ : ∀ {s : Shared} {Lz : Ledger} {Gz : GLedger} {Q : Value → Shared → Prop}, St b s ((C, frC fl) :: Lz) Gz → (∀ t s', St b s' ((C, frC fl) :: Lz) Gz → Q (.int (3 : Nat) t) s') → wpAny (model prog w) A (eval i₂ (lEnv C f cd)) Q NoE s)
    (h : ∀ W' Ls' Gs' s', W'.ys = W.ys → Inv2 fr cr D W' Ls' Gs' → St b s' ((C, frC fl) :: (Ls' ++ X)) (Gs' ++ GX) → Q .next s')
    (hs₁ : ∀ u, subscripted i₁ false (.ref D.R) (.int (3 : Nat) u) = operate [.ref D.R, .int (3 : Nat) u] (getItem (.ref D.R) (.int (3 : Nat) u))) (hs₂ : ∀ u, subscripted i₂ false (.ref D.P) (.int (3 : Nat) u) = operate [.ref D.P, .int (3 : Nat) u] (getItem (.ref D.P) (.int (3 : Nat) u)))
    (ht₁ : backTo p4 (starEach [.Subscript (.Name "readers" p1) i₁ p2] (lEnv C f cd)) = [(false, eval (.Subscript (.Name "readers" p1) i₁ p2) (lEnv C f cd))]) (ht₂ : backTo p9 (starEach [.Name "own" p5, .Subscript (.Name "plains" p6) i₂ p7] (lEnv C f cd)) = [(false, eval (.Name "own" p5) (lEnv C f cd)), (false, eval (.Subscript (.Name "plains" p6) i₂ p7) (lEnv C f cd))])
    (hm : behindInMarks .NotEq (.Call (.Name "_law_due" p8) [.Name "own" p5, .Subscript (.Name "plains" p6) i₂ p7] [] p9) = false := by kernel_rfl) :
    wpAny (model prog w) A (exec (askS i₁ i₂ p1 p2 p3 p4 p5 p6 p7 p8 p9 p10 p11 p12 p13 k13) (lEnv C f cd)) Q NoE s := by
  obtain ⟨L0, L1, L2, L3, L4, G0, G1, G2, G3, G4, H0, H1, H2, H3, H4, rfl, rfl⟩ := I
  have S₁ := (S.perm (L' := (C, frC fl) :: (L3 ++ (bsx D W W.oS ++ ((L0 ++ (L1 ++ (L2 ++ L4))) ++ X)))) (.cons _ (pullk X (pull3 L0 L1 L2 L3 _)).symm)).gperm (G' := G3 ++ ((G0 ++ (G1 ++ (G2 ++ G4))) ++ GX)) (pullg GX (pull3 G0 G1 G2 G3 _)).symm
  obtain ⟨g, hg⟩ := H3.gen
  have hnb : ((bsx D W W.oS).map (·.1)).Nodup := by
    have := S₁.nodup
    simp only [List.map_cons, List.map_append] at this
    exact (List.nodup_append.mp (List.nodup_append.mp (List.nodup_cons.mp this).2).2.1).1
  have hne1 : D.ow ≠ D.qS := fun e => by simp [bsx, e] at hnb
  have hne2 : D.p3 ≠ D.qS := fun e => by simp [bsx, e] at hnb
  refine r_ask (k := 3) (n := (some 2)) (q := D.qS) (o := W.oS) (e := W.e3) (ys := W.ys) (ow := D.ow) (p := D.p3) (vsP := [.ref D.p0, .ref D.p1, .ref D.p2, .ref D.p3, .ref D.p4]) K.B K.hN (K.hM _ (.head _)) K.Ft K.Fd hA hu hfr S₁ hflR hflP hflO hi₁ hi₂ (vsR := [.ref D.a0, .ref D.a1, .ref D.a2, .ref D.a3, .ref D.a4])
    (List.mem_append_right _ (List.mem_append_left _ (by simp))) (by decide) rfl rfl (List.mem_append_left _ hg) (asks_S (GF := (G0 ++ (G1 ++ (G2 ++ G4))) ++ GX) K.B (K.hM _ (.tail _ (.head _))) (by decide) (F := bsx D W W.oS ++ ((L0 ++ (L1 ++ (L2 ++ L4))) ++ X)) (ys := W.ys) (o := W.oS) (.head _) (.tail _ (.tail _ (.head _))) hlen H3) (fun k hk => by cases hk; decide) hz hlen ?_ hs₁ hs₂ ht₁ ht₂ hm
  rintro ans L' G' s' ⟨M, N, hM, rfl, rfl, rfl⟩ S'
  have hns : ((bsx D W W.oS ++ ((L0 ++ (L1 ++ (L2 ++ L4))) ++ X)).map (·.1)).Nodup := by
    have := S₁.nodup
    rw [List.map_cons, List.map_append] at this
    exact (List.nodup_append.mp (List.nodup_cons.mp this).2).2.1
  have us : Upd (bsx D W W.oS ++ ((L0 ++ (L1 ++ (L2 ++ L4))) ++ X)) D.sh (itX D.rw (dueX (some 2) W.ys W.oS W.e3).2.1) (bsx D W (dueX (some 2) W.ys W.oS W.e3).2.1 ++ ((L0 ++ (L1 ++ (L2 ++ L4))) ++ X)) := .tail (.tail .head)
  rw [← us.eq_setL hns] at S' ⊢
  have hmm : ∀ x ∈ bsx D W (dueX (some 2) W.ys W.oS W.e3).2.1, x ∈ M ++ (bsx D W (dueX (some 2) W.ys W.oS W.e3).2.1 ++ ((L0 ++ (L1 ++ (L2 ++ L4))) ++ X)) := fun x hx => List.mem_append_right _ (List.mem_append_left _ hx)
  have hsg : sgnX (some 2) = "+" := by decide +kernel
  refine ⟨rfl, hmm _ (by simp), hmm _ (by simp), hmm _ (by rw [hsg]; simp), hmm _ (by simp), hne1, hne2, fun s'' S'' => ?_⟩
  have uq : Upd ((C, frC fl) :: (M ++ (bsx D W (dueX (some 2) W.ys W.oS W.e3).2.1 ++ ((L0 ++ (L1 ++ (L2 ++ L4))) ++ X)))) D.qS (plC (dueX (some 2) W.ys W.oS W.e3).2.1) ((C, frC fl) :: (M ++ (bsx D { W with oS := (dueX (some 2) W.ys W.oS W.e3).2.1 } (dueX (some 2) W.ys W.oS W.e3).2.1 ++ ((L0 ++ (L1 ++ (L2 ++ L4))) ++ X)))) := .tail (Upd.left (.tail (.tail (.tail .head))) M)
  rw [← uq.eq_setL S'.nodup] at S''
  have hnq : (((C, frC fl) :: (M ++ (bsx D { W with oS := (dueX (some 2) W.ys W.oS W.e3).2.1 } (dueX (some 2) W.ys W.oS W.e3).2.1 ++ ((L0 ++ (L1 ++ (L2 ++ L4))) ++ X)))).map (·.1)).Nodup := by rw [uq.keys]; exact S'.nodup
  have up : Upd ((C, frC fl) :: (M ++ (bsx D { W with oS := (dueX (some 2) W.ys W.oS W.e3).2.1 } (dueX (some 2) W.ys W.oS W.e3).2.1 ++ ((L0 ++ (L1 ++ (L2 ++ L4))) ++ X)))) D.p3 (pnC "+" D.qS (dueX (some 2) W.ys W.oS W.e3).2.2) ((C, frC fl) :: (M ++ (bsx D { W with oS := (dueX (some 2) W.ys W.oS W.e3).2.1, e3 := (dueX (some 2) W.ys W.oS W.e3).2.2 } (dueX (some 2) W.ys W.oS W.e3).2.1 ++ ((L0 ++ (L1 ++ (L2 ++ L4))) ++ X)))) := .tail (Upd.left (.tail (.tail (.tail (.tail (.tail (.tail (.tail (.tail (.tail (.tail (.tail .head))))))))))) M)
  have e9 := up.eq_setL hnq
  rw [hsg, ← e9] at S''
  refine h { W with oS := (dueX (some 2) W.ys W.oS W.e3).2.1, e3 := (dueX (some 2) W.ys W.oS W.e3).2.2 } (bsx D { W with oS := (dueX (some 2) W.ys W.oS W.e3).2.1, e3 := (dueX (some 2) W.ys W.oS W.e3).2.2 } { W with oS := (dueX (some 2) W.ys W.oS W.e3).2.1, e3 := (dueX (some 2) W.ys W.oS W.e3).2.2 }.oS ++ (L0 ++ (L1 ++ (L2 ++ (M ++ L4))))) (G0 ++ (G1 ++ (G2 ++ (N ++ G4)))) s'' rfl ⟨L0, L1, L2, M, L4, G0, G1, G2, N, G4, H0, H1, H2, hM, H4, rfl, rfl⟩ ?_
  exact (S''.perm (.cons _ (pullk X (pull3 L0 L1 L2 M _)))).gperm (pullg GX (pull3 G0 G1 G2 N _))

theorem ask4 {fr ft fd C f : Addr} {cr ct cdd cd : Value} {D : Ad} {W : Pl} {Ls : Ledger} {Gs : GLedger} {fl : List (Str × VP)} {i₁ i₂ : Expr} {p1 p2 p3 p4 p5 p6 p7 p8 p9 p10 p11 p12 p13 : Pos} {k13 : Nat} {Q : Flow → Shared → Prop} (K : Kit2 b mg mb names fr ft fd cr ct cdd)
    (hA : Ar A 3) (hu : A.units + 64 < cLine) (hfr : A.frames = some [lEnv C f cd]) (I : Inv2 fr cr D W Ls Gs) (hz : W.ys.length ≤ sizeLine) (hlen : ∀ x ∈ W.ys, x.length ≤ sizeLine)
    (S : St b s ((C, frC fl) :: (Ls ++ X)) (Gs ++ GX)) (hflR : (("readers" : Str), vE (.ref D.R)) ∈ fl) (hflP : (("plains" : Str), vE (.ref D.P)) ∈ fl) (hflO : (("own" : Str), vE (.ref D.ow)) ∈ fl)
    (hi₁ : ∀ {s : Shared} {Lz : Ledger} {Gz : GLedger} {Q : Value → Shared → Prop}, St b s ((C, frC fl) :: Lz) Gz → (∀ t s', St b s' ((C, frC fl) :: Lz) Gz → Q (.int (4 : Nat) t) s') → wpAny (model prog w) A (eval i₁ (lEnv C f cd)) Q NoE s)
    (hi₂ : ∀ {s : Shared} {Lz : Ledger} {Gz : GLedger} {Q : Value → Shared → Prop}, St b s ((C, frC fl) :: Lz) Gz → (∀ t s', St b s' ((C, frC fl) :: Lz) Gz → Q (.int (4 : Nat) t) s') → wpAny (model prog w) A (eval i₂ (lEnv C f cd)) Q NoE s)
    (h : ∀ W' Ls' Gs' s', W'.ys = W.ys → Inv2 fr cr D W' Ls' Gs' → St b s' ((C, frC fl) :: (Ls' ++ X)) (Gs' ++ GX) → Q .next s')
    (hs₁ : ∀ u, subscripted i₁ false (.ref D.R) (.int (4 : Nat) u) = operate [.ref D.R, .int (4 : Nat) u] (getItem (.ref D.R) (.int (4 : Nat) u))) (hs₂ : ∀ u, subscripted i₂ false (.ref D.P) (.int (4 : Nat) u) = operate [.ref D.P, .int (4 : Nat) u] (getItem (.ref D.P) (.int (4 : Nat) u)))
    (ht₁ : backTo p4 (starEach [.Subscript (.Name "readers" p1) i₁ p2] (lEnv C f cd)) = [(false, eval (.Subscript (.Name "readers" p1) i₁ p2) (lEnv C f cd))]) (ht₂ : backTo p9 (starEach [.Name "own" p5, .Subscript (.Name "plains" p6) i₂ p7] (lEnv C f cd)) = [(false, eval (.Name "own" p5) (lEnv C f cd)), (false, eval (.Subscript (.Name "plains" p6) i₂ p7) (lEnv C f cd))])
    (hm : behindInMarks .NotEq (.Call (.Name "_law_due" p8) [.Name "own" p5, .Subscript (.Name "plains" p6) i₂ p7] [] p9) = false := by kernel_rfl) :
    wpAny (model prog w) A (exec (askS i₁ i₂ p1 p2 p3 p4 p5 p6 p7 p8 p9 p10 p11 p12 p13 k13) (lEnv C f cd)) Q NoE s := by
  obtain ⟨L0, L1, L2, L3, L4, G0, G1, G2, G3, G4, H0, H1, H2, H3, H4, rfl, rfl⟩ := I
  have S₁ := (S.perm (L' := (C, frC fl) :: (L4 ++ (bsx D W W.oS ++ ((L0 ++ (L1 ++ (L2 ++ L3))) ++ X)))) (.cons _ (pullk X (pull4 L0 L1 L2 L3 L4)).symm)).gperm (G' := G4 ++ ((G0 ++ (G1 ++ (G2 ++ G3))) ++ GX)) (pullg GX (pull4 G0 G1 G2 G3 G4)).symm
  obtain ⟨g, hg⟩ := H4.gen
  have hnb : ((bsx D W W.oS).map (·.1)).Nodup := by
    have := S₁.nodup
    simp only [List.map_cons, List.map_append] at this
    exact (List.nodup_append.mp (List.nodup_append.mp (List.nodup_cons.mp this).2).2.1).1
  have hne1 : D.ow ≠ D.qS := fun e => by simp [bsx, e] at hnb
  have hne2 : D.p4 ≠ D.qS := fun e => by simp [bsx, e] at hnb
  refine r_ask (k := 4) (n := none) (q := D.qS) (o := W.oS) (e := W.e4) (ys := W.ys) (ow := D.ow) (p := D.p4) (vsP := [.ref D.p0, .ref D.p1, .ref D.p2, .ref D.p3, .ref D.p4]) K.B K.hN (K.hM _ (.head _)) K.Ft K.Fd hA hu hfr S₁ hflR hflP hflO hi₁ hi₂ (vsR := [.ref D.a0, .ref D.a1, .ref D.a2, .ref D.a3, .ref D.a4])
    (List.mem_append_right _ (List.mem_append_left _ (by simp))) (by decide) rfl rfl (List.mem_append_left _ hg) (asks_B (GF := (G0 ++ (G1 ++ (G2 ++ G3))) ++ GX) K.B (K.hM _ (.tail _ (.head _))) (K.hM _ (.tail _ (.tail _ (.head _)))) (K.hN _ (.tail _ (.tail _ (.head _)))) (F := bsx D W W.oS ++ ((L0 ++ (L1 ++ (L2 ++ L3))) ++ X)) (ys := W.ys) (o := W.oS) H4) (fun k hk => nomatch hk) hz hlen ?_ hs₁ hs₂ ht₁ ht₂ hm
  rintro ans L' G' s' ⟨M, N, hM, rfl, rfl, rfl⟩ S'
  have hmm : ∀ x ∈ bsx D W W.oS, x ∈ M ++ (bsx D W W.oS ++ ((L0 ++ (L1 ++ (L2 ++ L3))) ++ X)) := fun x hx => List.mem_append_right _ (List.mem_append_left _ hx)
  have hsg : sgnX none = "" := by decide +kernel
  refine ⟨rfl, hmm _ (by simp), hmm _ (by simp), hmm _ (by rw [hsg]; simp), hmm _ (by simp), hne1, hne2, fun s'' S'' => ?_⟩
  have uq : Upd ((C, frC fl) :: (M ++ (bsx D W W.oS ++ ((L0 ++ (L1 ++ (L2 ++ L3))) ++ X)))) D.qS (plC (dueX none W.ys W.oS W.e4).2.1) ((C, frC fl) :: (M ++ (bsx D { W with oS := (dueX none W.ys W.oS W.e4).2.1 } W.oS ++ ((L0 ++ (L1 ++ (L2 ++ L3))) ++ X)))) := .tail (Upd.left (.tail (.tail (.tail .head))) M)
  rw [← uq.eq_setL S'.nodup] at S''
  have hnq : (((C, frC fl) :: (M ++ (bsx D { W with oS := (dueX none W.ys W.oS W.e4).2.1 } W.oS ++ ((L0 ++ (L1 ++ (L2 ++ L3))) ++ X)))).map (·.1)).Nodup := by rw [uq.keys]; exact S'.nodup
  have up : Upd ((C, frC fl) :: (M ++ (bsx D { W with oS := (dueX none W.ys W.oS W.e4).2.1 } W.oS ++ ((L0 ++ (L1 ++ (L2 ++ L3))) ++ X)))) D.p4 (pnC "" D.qS (dueX none W.ys W.oS W.e4).2.2) ((C, frC fl) :: (M ++ (bsx D { W with oS := (dueX none W.ys W.oS W.e4).2.1, e4 := (dueX none W.ys W.oS W.e4).2.2 } W.oS ++ ((L0 ++ (L1 ++ (L2 ++ L3))) ++ X)))) := .tail (Upd.left (.tail (.tail (.tail (.tail (.tail (.tail (.tail (.tail (.tail (.tail (.tail (.tail .head)))))))))))) M)
  have e9 := up.eq_setL hnq
  rw [hsg, ← e9] at S''
  have e4o : (dueX none W.ys W.oS W.e4).2.1 = W.oS := by unfold dueX; cases W.e4 <;> rfl
  rw [e4o] at S''
  refine h { W with e4 := (dueX none W.ys W.oS W.e4).2.2 } (bsx D { W with e4 := (dueX none W.ys W.oS W.e4).2.2 } { W with e4 := (dueX none W.ys W.oS W.e4).2.2 }.oS ++ (L0 ++ (L1 ++ (L2 ++ (L3 ++ M))))) (G0 ++ (G1 ++ (G2 ++ (G3 ++ N)))) s'' rfl ⟨L0, L1, L2, L3, M, G0, G1, G2, G3, N, H0, H1, H2, H3, hM, rfl, rfl⟩ ?_
  exact (S''.perm (.cons _ (pullk X (pull4 L0 L1 L2 L3 M)))).gperm (pullg GX (pull4 G0 G1 G2 G3 N))
end
end Mine

-- part L2c
open PySem PySem.W PySem.W.X PyProof.Rows PySem.Calls PySem.Spec PySem.SeqAt
set_option Elab.async false
set_option maxRecDepth 100000
set_option maxHeartbeats 400000
set_option linter.all false
namespace Mine
local macro_rules | `(tactic| walk_at "mem") => `(tactic| first | assumption | exact List.Mem.head _ | (refine List.Mem.tail _ ?_; walk_at "mem") | (refine List.mem_append_right _ ?_; walk_at "mem"))
local macro_rules | `(tactic| walk_at "mn") => `(tactic| first | with_reducible exact List.mem_cons_self | ((with_reducible refine List.mem_cons_of_mem _ ?_); walk_at "mn"))
local macro_rules | `(tactic| walk_at "upd") => `(tactic| first | exact Upd.head | ((with_reducible apply Upd.tail); walk_at "upd"))
local macro_rules | `(tactic| walk_at "set") => `(tactic| first | with_reducible exact SetN.nil | ((with_reducible refine SetN.hit ?_); kernel_rfl) | ((with_reducible apply SetN.skip); kernel_rfl; walk_at "set"))


def bBody : List Stmt := match lAt 6 with | .For _ _ b _ _ => b | _ => []
def bAt (k : Nat) : Stmt := (bBody[k]?).getD (.Pass default)
theorem bBody_eq : bBody = [bAt 0, bAt 1, bAt 2] := rfl
def gBody : List Stmt := match bAt 2 with | .If _ b _ _ => b | _ => []
def gAt (k : Nat) : Stmt := (gBody[k]?).getD (.Pass default)
theorem gBody_eq : gBody = [gAt 0, gAt 1, gAt 2, gAt 3] := rfl
def aIf : Stmt := match bAt 2 with | .If _ _ [i] _ => i | _ => .Pass default
def aBody : List Stmt := match aIf with | .If _ b _ _ => b | _ => []
def aAt : Stmt := match aBody with | [i] => i | _ => .Pass default
theorem aBody_eq : aBody = [aAt] := rfl
def cBody : List Stmt := match aIf with | .If _ _ o _ => o | _ => []
def cAt (k : Nat) : Stmt := (cBody[k]?).getD (.Pass default)
theorem cBody_eq : cBody = [cAt 0, cAt 1, cAt 2] := rfl
theorem num_good {n : Nat} (h : n < 100) : Good 3 (toString (n : Int) : Str) := by
  have : ∀ n : Fin 100, Good 3 (toString ((n : Nat) : Int) : Str) := by unfold Good; decide +kernel
  exact this ⟨n, h⟩
theorem num_log {n : Nat} (h : n < 100) : (n : Int).natAbs.log2 < 1920 := by
  have : ∀ n : Fin 100, ((n : Nat) : Int).natAbs.log2 < 1920 := by decide +kernel
  exact this ⟨n, h⟩
abbrev flB (D : Ad) : List (Str × VP) := [(("rows" : Str), vE (.ref D.rw)), (("own" : Str), vE (.ref D.ow)), (("readers" : Str), vE (.ref D.R)), (("plains" : Str), vE (.ref D.P))]
abbrev flT (D : Ad) (x step rest : Int) : List (Str × VP) := [(("rows" : Str), vE (.ref D.rw)), (("own" : Str), vE (.ref D.ow)), (("readers" : Str), vE (.ref D.R)), (("plains" : Str), vE (.ref D.P)), (("x" : Str), vI x), (("step" : Str), vI step), (("rest" : Str), vI rest)]
def kinds2 (nm : Str) : List Str := ["   " ++ nm, "-  " ++ nm, "+  " ++ nm, "x " ++ nm, " -" ++ nm, "-" ++ nm, "- ", "+"]
theorem kinds2_good {nm : Str} (h : Good 4 nm) : ∀ y ∈ kinds2 nm, Good 7 y := by
  intro y hy
  have up : ∀ {k m : Nat} {y : Str}, Good k y → k ≤ m → Good m y := fun h1 h2 => ⟨Nat.le_trans h1.1 h2, h1.2⟩
  simp only [kinds2, List.mem_cons, List.not_mem_nil, or_false] at hy
  rcases hy with rfl | rfl | rfl | rfl | rfl | rfl | rfl | rfl
  · exact up (good_app (k := 3) (by unfold Good; decide +kernel) h) (by decide)
  · exact up (good_app (k := 3) (by unfold Good; decide +kernel) h) (by decide)
  · exact up (good_app (k := 3) (by unfold Good; decide +kernel) h) (by decide)
  · exact up (good_app (k := 2) (by unfold Good; decide +kernel) h) (by decide)
  · exact up (good_app (k := 2) (by unfold Good; decide +kernel) h) (by decide)
  · exact up (good_app (k := 1) (by unfold Good; decide +kernel) h) (by decide)
  · exact up (k := 2) (by unfold Good; decide +kernel) (by decide)
  · exact up (k := 1) (by unfold Good; decide +kernel) (by decide)

section
variable {prog : Program} {w : World} {A : Around} {b s : Shared} {X : Ledger} {GX : GLedger} {mg mb : Str → Option Value} {names : List Str}
theorem w_ask {k : Nat} (hk : k < 5) {fr ft fd C f : Addr} {cr ct cdd cd : Value} {D : Ad} {W : Pl} {Ls : Ledger} {Gs : GLedger} {fl : List (Str × VP)} {i₁ i₂ : Expr} {p1 p2 p3 p4 p5 p6 p7 p8 p9 p10 p11 p12 p13 : Pos} {k13 : Nat} {Q : Flow → Shared → Prop} (K : Kit2 b mg mb names fr ft fd cr ct cdd)
    (hA : Ar A 3) (hu : A.units + 64 < cLine) (hfr : A.frames = some [lEnv C f cd]) (I : Inv2 fr cr D W Ls Gs) (hz : W.ys.length ≤ sizeLine) (hlen : ∀ x ∈ W.ys, x.length ≤ sizeLine)
    (S : St b s ((C, frC fl) :: (Ls ++ X)) (Gs ++ GX)) (hflR : (("readers" : Str), vE (.ref D.R)) ∈ fl) (hflP : (("plains" : Str), vE (.ref D.P)) ∈ fl) (hflO : (("own" : Str), vE (.ref D.ow)) ∈ fl)
    (hi₁ : ∀ {s : Shared} {Lz : Ledger} {Gz : GLedger} {Q : Value → Shared → Prop}, St b s ((C, frC fl) :: Lz) Gz → (∀ t s', St b s' ((C, frC fl) :: Lz) Gz → Q (.int k t) s') → wpAny (model prog w) A (eval i₁ (lEnv C f cd)) Q NoE s)
    (hi₂ : ∀ {s : Shared} {Lz : Ledger} {Gz : GLedger} {Q : Value → Shared → Prop}, St b s ((C, frC fl) :: Lz) Gz → (∀ t s', St b s' ((C, frC fl) :: Lz) Gz → Q (.int k t) s') → wpAny (model prog w) A (eval i₂ (lEnv C f cd)) Q NoE s)
    (h : ∀ W' Ls' Gs' s', W'.ys = W.ys → Inv2 fr cr D W' Ls' Gs' → St b s' ((C, frC fl) :: (Ls' ++ X)) (Gs' ++ GX) → Q .next s')
    (hs₁ : ∀ u, subscripted i₁ false (.ref D.R) (.int k u) = operate [.ref D.R, .int k u] (getItem (.ref D.R) (.int k u)) := by intro _; kernel_rfl) (hs₂ : ∀ u, subscripted i₂ false (.ref D.P) (.int k u) = operate [.ref D.P, .int k u] (getItem (.ref D.P) (.int k u)) := by intro _; kernel_rfl)
    (ht₁ : backTo p4 (starEach [.Subscript (.Name "readers" p1) i₁ p2] (lEnv C f cd)) = [(false, eval (.Subscript (.Name "readers" p1) i₁ p2) (lEnv C f cd))] := by kernel_rfl) (ht₂ : backTo p9 (starEach [.Name "own" p5, .Subscript (.Name "plains" p6) i₂ p7] (lEnv C f cd)) = [(false, eval (.Name "own" p5) (lEnv C f cd)), (false, eval (.Subscript (.Name "plains" p6) i₂ p7) (lEnv C f cd))] := by kernel_rfl)
    (hm : behindInMarks .NotEq (.Call (.Name "_law_due" p8) [.Name "own" p5, .Subscript (.Name "plains" p6) i₂ p7] [] p9) = false := by kernel_rfl) :
    wpAny (model prog w) A (exec (askS i₁ i₂ p1 p2 p3 p4 p5 p6 p7 p8 p9 p10 p11 p12 p13 k13) (lEnv C f cd)) Q NoE s := by
  rcases (show k = 0 ∨ k = 1 ∨ k = 2 ∨ k = 3 ∨ k = 4 by omega) with rfl | rfl | rfl | rfl | rfl
  · exact ask0 K hA hu hfr I hz hlen S hflR hflP hflO hi₁ hi₂ h hs₁ hs₂ ht₁ ht₂ hm
  · exact ask1 K hA hu hfr I hz hlen S hflR hflP hflO hi₁ hi₂ h hs₁ hs₂ ht₁ ht₂ hm
  · exact ask2 K hA hu hfr I hz hlen S hflR hflP hflO hi₁ hi₂ h hs₁ hs₂ ht₁ ht₂ hm
  · exact ask3 K hA hu hfr I hz hlen S hflR hflP hflO hi₁ hi₂ h hs₁ hs₂ ht₁ ht₂ hm
  · exact ask4 K hA hu hfr I hz hlen S hflR hflP hflO hi₁ hi₂ h hs₁ hs₂ ht₁ ht₂ hm

/-- a further row -/
theorem w_grow {fr ft fd C f : Addr} {cr ct cdd cd : Value} {D : Ad} {W : Pl} {Ls : Ledger} {Gs : GLedger} {x step rest : Int} {Q : Flow → Shared → Prop} (K : Kit2 b mg mb names fr ft fd cr ct cdd)
    (hA : Ar A 3) (I : Inv2 fr cr D W Ls Gs) (hz : W.ys.length < 100) 
    (S : St b s ((C, frC (flT D x step rest)) :: (Ls ++ X)) (Gs ++ GX))
    (h : ∀ y Ls' s', Good 7 y → Inv2 fr cr D { W with ys := W.ys ++ [y] } Ls' Gs → St b s' ((C, frC (flB D)) :: (Ls' ++ X)) (Gs ++ GX) → Q .next s') :
    wpAny (model prog w) A (execs gBody (lEnv C f cd)) Q NoE s := by
  obtain ⟨L0, L1, L2, L3, L4, G0, G1, G2, G3, G4, H0, H1, H2, H3, H4, rfl, rfl⟩ := I
  have h9 : sizeLine = 16777216 := by decide
  have hb63 : sizeLine < 2 ^ 63 := by decide
  rw [gBody_eq]
  refine r_seq ?_
  conv in gAt 0 => whnf
  refine wpAny_Assign_Name ?_ (by kernel_rfl)
  refine wpAny_BinOp ?_
  refine r_callT1 (T := "str") K.B S (by decide +kernel) ?_ (hfree := K.hN _ (.tail _ (.tail _ (.tail _ (.head _)))))
  refine r_callB1 (id := "len") K.B S (by decide +kernel) ?_ (hfree := K.hM _ (.head _))
  refine r_nameE S (by walk_at "mem") (by walk_at "mn") ?_
  refine r_lenS S (.tail _ (.tail _ (.head _))) (by omega) fun t₁ s₁ S₁ => ?_
  refine r_strI S₁ (num_log hz) fun t₂ s₂ S₂ => ?_
  refine r_str S₂ fun t₃ s₃ S₃ => ?_
  have g1 := num_good hz
  have l0 : ("\t" : Str).length = 1 := by decide +kernel
  have g2 : Good 4 ((toString (W.ys.length : Int) : Str) ++ "\t") := good_app (m := 1) g1 (by unfold Good; decide +kernel)
  refine r_addS S₃ (by have := g1.1; omega) fun t₄ s₄ S₄ => ?_
  generalize (toString (W.ys.length : Int) : Str) ++ ("\t" : Str) = nm at g2 ⊢
  refine r_store (P := vS nm) S₄ (by walk_at "mem") ⟨_, rfl⟩ (by walk_at "set") (by walk_at "upd") fun s₅ S₅ => ?_
  refine then_next ?_
  have hnl := g2.1
  have l1 : ("   " : Str).length = 3 := by decide +kernel
  have l2 : ("-  " : Str).length = 3 := by decide +kernel
  have l3 : ("+  " : Str).length = 3 := by decide +kernel
  have l4 : ("x " : Str).length = 2 := by decide +kernel
  have l5 : (" -" : Str).length = 2 := by decide +kernel
  have l6 : ("-" : Str).length = 1 := by decide +kernel
  refine r_seq ?_
  conv in gAt 1 => whnf
  refine wpAny_Assign_Name ?_ (by kernel_rfl)
  refine r_disp (b := b) ?_
  refine r_spl ?_
  refine wpAny_BinOp ?_
  refine r_str S₅ fun u₁ z₁ Z₁ => ?_
  refine r_nameS Z₁ (by walk_at "mem") (by walk_at "mn") fun n₁ => ?_
  refine r_addS Z₁ (by omega) fun v₁ y₁ Y₁ => ?_
  refine r_spl ?_
  refine wpAny_BinOp ?_
  refine r_str Y₁ fun u₂ z₂ Z₂ => ?_
  refine r_nameS Z₂ (by walk_at "mem") (by walk_at "mn") fun n₂ => ?_
  refine r_addS Z₂ (by omega) fun v₂ y₂ Y₂ => ?_
  refine r_spl ?_
  refine wpAny_BinOp ?_
  refine r_str Y₂ fun u₃ z₃ Z₃ => ?_
  refine r_nameS Z₃ (by walk_at "mem") (by walk_at "mn") fun n₃ => ?_
  refine r_addS Z₃ (by omega) fun v₃ y₃ Y₃ => ?_
  refine r_spl ?_
  refine wpAny_BinOp ?_
  refine r_str Y₃ fun u₄ z₄ Z₄ => ?_
  refine r_nameS Z₄ (by walk_at "mem") (by walk_at "mn") fun n₄ => ?_
  refine r_addS Z₄ (by omega) fun v₄ y₄ Y₄ => ?_
  refine r_spl ?_
  refine wpAny_BinOp ?_
  refine r_str Y₄ fun u₅ z₅ Z₅ => ?_
  refine r_nameS Z₅ (by walk_at "mem") (by walk_at "mn") fun n₅ => ?_
  refine r_addS Z₅ (by omega) fun v₅ y₅ Y₅ => ?_
  refine r_spl ?_
  refine wpAny_BinOp ?_
  refine r_str Y₅ fun u₆ z₆ Z₆ => ?_
  refine r_nameS Z₆ (by walk_at "mem") (by walk_at "mn") fun n₆ => ?_
  refine r_addS Z₆ (by omega) fun v₆ y₆ Y₆ => ?_
  refine r_spl ?_
  refine r_str Y₆ fun u₇ z₇ Z₇ => ?_
  refine r_spl ?_
  refine r_str Z₇ fun u₈ z₈ Z₈ => ?_
  refine r_spl0 ?_
  refine ⟨by show 8 ≤ sizeLine; decide, lstS (kinds2 nm), _, _, Z₈, lstS_mk (.cons _ _ (.cons _ _ (.cons _ _ (.cons _ _ (.cons _ _ (.cons _ _ (.cons _ _ (.cons _ _ .nil)))))))), fun kn s₆ S₆ => ?_⟩
  refine r_store (P := vE (.ref kn)) S₆ (by walk_at "mem") rfl (by walk_at "set") (by walk_at "upd") fun s₇ S₇ => ?_
  refine then_next ?_
  have hr8 := fmod_range rest (m := 8) (by decide)
  obtain ⟨y, hy⟩ : ∃ y, (kinds2 nm)[(rest.fmod 8).toNat]? = some y := ⟨_, List.getElem?_eq_getElem (by show _ < 8; omega)⟩
  have gy := kinds2_good g2 y (List.mem_of_getElem? hy)
  refine r_seq ?_
  conv in gAt 2 => whnf
  refine r_stmtE ?_
  refine r_methS (b := b) F.slot_list_append F.type_list_append ?_
  refine r_nameE S₇ (by walk_at "mem") (by walk_at "mn") ?_
  refine ⟨_, _, _, _, rfl, S₇, .tail _ (.tail _ (.head _)), ?_⟩
  refine r_appS (b := b) (ys := W.ys) ?_
  refine Subscript_ ?_
  refine r_nameE S₇ (by walk_at "mem") (by walk_at "mn") ?_
  refine wpAny_BinOp ?_
  refine r_nameI S₇ (by walk_at "mem") (by walk_at "mn") fun t₅ => ?_
  refine r_int S₇ fun t₆ s₈ S₈ => ?_
  refine r_mod S₈ (by decide) fun t₇ s₉ S₉ => ?_
  refine r_itemS S₉ (.head _) hr8.1 (by omega) hy fun t₈ => ?_
  refine ⟨_, _, _, _, _, rfl, S₉, .tail _ (.tail _ (.head _)), .tail (.tail .head), by omega, fun s₁₀ S₁₀ => ⟨rfl, ?_⟩⟩
  refine then_next ?_
  refine r_seq ?_
  conv in gAt 3 => whnf
  refine r_stmtE ?_
  refine r_methS (b := b) F.slot_list_append F.type_list_append ?_
  refine r_nameE S₁₀ (by walk_at "mem") (by walk_at "mn") ?_
  refine ⟨_, _, _, _, rfl, S₁₀, .tail _ (.tail _ (.tail _ (.head _))), ?_⟩
  refine r_appS (b := b) (ys := W.ys) ?_
  refine Subscript_ ?_
  refine r_nameE S₁₀ (by walk_at "mem") (by walk_at "mn") ?_
  refine wpAny_BinOp ?_
  refine r_nameI S₁₀ (by walk_at "mem") (by walk_at "mn") fun t₉ => ?_
  refine r_int S₁₀ fun t₁₀ s₁₁ S₁₁ => ?_
  refine r_mod S₁₁ (by decide) fun t₁₁ s₁₂ S₁₂ => ?_
  refine r_itemS S₁₂ (.head _) hr8.1 (by omega) hy fun t₁₂ => ?_
  refine ⟨_, _, _, _, _, rfl, S₁₂, .tail _ (.tail _ (.tail _ (.head _))), .tail (.tail (.tail .head)), by omega, fun s₁₃ S₁₃ => ⟨rfl, ?_⟩⟩
  refine then_next ?_
  refine wpAny_execs_nil ?_
  refine h y (bsx D { W with ys := W.ys ++ [y] } W.oS ++ (L0 ++ (L1 ++ (L2 ++ (L3 ++ L4))))) s₁₃ gy ⟨L0, L1, L2, L3, L4, G0, G1, G2, G3, G4, H0, H1, H2, H3, H4, rfl, rfl⟩ ?_
  refine (S₁₃.less (P' := frC (flB D)) (.tail _ (.head _)) (.tail .head) fun o ho => frC_sub (fun a ha => ?_) ho).sub (.cons _ (.refl _))
  simp only [List.mem_cons, List.not_mem_nil, or_false] at ha
  rcases ha with rfl | rfl | rfl | rfl <;> simp
end
end Mine

-- part L2d
open PySem PySem.W PySem.W.X PyProof.Rows PySem.Calls PySem.Spec PySem.SeqAt
set_option Elab.async false
set_option maxRecDepth 100000
set_option maxHeartbeats 400000
set_option linter.all false
namespace Mine
local macro_rules | `(tactic| walk_at "mem") => `(tactic| first | assumption | exact List.Mem.head _ | (refine List.Mem.tail _ ?_; walk_at "mem") | (refine List.mem_append_right _ ?_; walk_at "mem"))
local macro_rules | `(tactic| walk_at "mn") => `(tactic| first | with_reducible exact List.mem_cons_self | ((with_reducible refine List.mem_cons_of_mem _ ?_); walk_at "mn"))
local macro_rules | `(tactic| walk_at "upd") => `(tactic| first | exact Upd.head | ((with_reducible apply Upd.tail); walk_at "upd"))
local macro_rules | `(tactic| walk_at "set") => `(tactic| first | with_reducible exact SetN.nil | ((with_reducible refine SetN.hit ?_); kernel_rfl) | ((with_reducible apply SetN.skip); kernel_rfl; walk_at "set"))


theorem permBy {α : Type} (d : α) (l : List α) {is js : List Nat} (h : is.Perm js) : (is.map (l.getD · d)).Perm (js.map (l.getD · d)) := h.map _
section
variable {prog : Program} {w : World} {A : Around} {b s : Shared} {X : Ledger} {GX : GLedger} {mg mb : Str → Option Value} {names : List Str}
/-- a fresh reader in the place of one over the list -/
theorem w_swap {fr ft fd C f : Addr} {cr ct cdd cd : Value} {D : Ad} {W : Pl} {Ls : Ledger} {Gs : GLedger} {x step rest : Int} {Q : Flow → Shared → Prop} (K : Kit2 b mg mb names fr ft fd cr ct cdd)
    (hA : Ar A 3) (I : Inv2 fr cr D W Ls Gs)
    (S : St b s ((C, frC (flT D x step rest)) :: (Ls ++ X)) (Gs ++ GX))
    (h : ∀ D' W' Ls' Gs' s', flB D' = flB D → W'.ys = W.ys → Inv2 fr cr D' W' Ls' Gs' → St b s' ((C, frC (flB D)) :: (Ls' ++ X)) (Gs' ++ GX) → Q .next s') :
    wpAny (model prog w) A (execs cBody (lEnv C f cd)) Q NoE s := by
  obtain ⟨L0, L1, L2, L3, L4, G0, G1, G2, G3, G4, H0, H1, H2, H3, H4, rfl, rfl⟩ := I
  have hr2 := fmod_range rest (m := 2) (by decide)
  rw [cBody_eq]
  refine r_seq ?_
  conv in cAt 0 => whnf
  refine wpAny_Assign_Name ?_ (by kernel_rfl)
  refine wpAny_BinOp ?_
  refine r_nameI S (by walk_at "mem") (by walk_at "mn") fun t₁ => ?_
  refine r_int S fun t₂ s₁ S₁ => ?_
  refine r_mod S₁ (by decide) fun t₃ s₂ S₂ => ?_
  have stp : ∀ (k : Nat), rest.fmod 2 = k → (∀ s₃, St b s₃ ((C, frC (flT D x step rest ++ [(("k" : Str), vI k)])) :: ((bsx D W W.oS ++ (L0 ++ (L1 ++ (L2 ++ (L3 ++ L4))))) ++ X)) ((G0 ++ (G1 ++ (G2 ++ (G3 ++ G4)))) ++ GX) → wpAny (model prog w) A (execs [cAt 1, cAt 2] (lEnv C f cd)) Q NoE s₃) →
      wpAny (model prog w) A (storeName (lEnv C f cd) "k" (.int (rest.fmod 2) t₃)) (fun _ => Then prog w A (lEnv C f cd) [cAt 1, cAt 2] Q NoE .next) NoE s₂ := by
    intro k hk hh
    refine r_store (P := vI k) S₂ (by walk_at "mem") ⟨_, by rw [hk]⟩ (by walk_at "set") (by walk_at "upd") fun s₃ S₃ => ?_
    exact then_next (hh s₃ S₃)
  rcases (show rest.fmod 2 = 0 ∨ rest.fmod 2 = 1 by omega) with hk | hk
  · refine stp 0 hk fun s₃ S₃ => ?_
    replace S₃ : St b s₃ ((C, frC [(("rows" : Str), vE (.ref D.rw)), (("own" : Str), vE (.ref D.ow)), (("readers" : Str), vE (.ref D.R)), (("plains" : Str), vE (.ref D.P)), (("x" : Str), vI x), (("step" : Str), vI step), (("rest" : Str), vI rest), (("k" : Str), vI (0 : Nat))]) :: ((bsx D W W.oS ++ (L0 ++ (L1 ++ (L2 ++ (L3 ++ L4))))) ++ X)) ((G0 ++ (G1 ++ (G2 ++ (G3 ++ G4)))) ++ GX) := S₃
    refine r_seq ?_
    conv in cAt 1 => whnf
    refine wpAny_Assign_Subscript ?_ (by kernel_rfl)
    refine r_callD2 K.B K.Fr S₃ ?_
    refine r_nameE S₃ (by walk_at "mem") (by walk_at "mn") ?_
    refine wpAny_BinOp ?_
    refine r_nameI S₃ (by walk_at "mem") (by walk_at "mn") fun u₁ => ?_
    refine r_int S₃ fun u₂ s₄ S₄ => ?_
    refine r_add S₄ fun u₃ s₅ S₅ => ?_
    refine ⟨⟨_, _, S₅⟩, ?_⟩
    refine r_restore K.B K.Fr S₅ (by have := hA.depth; omega) fun a Cn g s₆ S₆ => ?_
    replace S₆ : St b s₆ ((a, genC g) :: (Cn, frC (fl0 (.ref D.rw) (.int 1 u₃))) :: (C, frC [(("rows" : Str), vE (.ref D.rw)), (("own" : Str), vE (.ref D.ow)), (("readers" : Str), vE (.ref D.R)), (("plains" : Str), vE (.ref D.P)), (("x" : Str), vI x), (("step" : Str), vI step), (("rest" : Str), vI rest), (("k" : Str), vI (0 : Nat))]) :: ((bsx D W W.oS ++ (L0 ++ (L1 ++ (L2 ++ (L3 ++ L4))))) ++ X)) ((g, IsFresh (rEnv Cn fr cr)) :: ((G0 ++ (G1 ++ (G2 ++ (G3 ++ G4)))) ++ GX)) := S₆
    refine r_nameE S₆ (by walk_at "mem") (by walk_at "mn") ?_
    refine r_nameI S₆ (by walk_at "mem") (by walk_at "mn") fun u₄ => ?_
    refine r_setV S₆ (vs := [.ref D.a0, .ref D.a1, .ref D.a2, .ref D.a3, .ref D.a4]) (by simp) (by decide) (by decide) (by show 0 < 5; decide) (.tail (.tail (.tail (.tail (.tail (.tail (.tail (.tail (.tail .head))))))))) fun s₇ S₇ => ?_
    refine then_next ?_
    refine r_seq ?_
    conv in cAt 2 => whnf
    refine wpAny_Assign_Subscript ?_ (by kernel_rfl)
    refine r_disp (b := b) ?_
    refine r_spl ?_
    refine Subscript_ ?_
    refine r_str S₇ fun u₅ s₈ S₈ => ?_
    refine r_nameI S₈ (by walk_at "mem") (by walk_at "mn") fun u₆ => ?_
    refine r_itemStr (c := 45) S₈ (by decide) (by decide) (by decide +kernel) fun u₇ s₉ S₉ => ?_
    refine r_spl ?_
    refine r_disp (b := b) ?_
    refine r_spl ?_
    refine r_int S₉ fun u₈ s₁₀ S₁₀ => ?_
    refine r_spl ?_
    refine wpAny_Constant_bool ?_
    refine r_spl0 ?_
    refine ⟨by show 2 ≤ sizeLine; decide, plC (some 0), _, _, S₁₀, lstP_mk (.cons ⟨_, rfl⟩ (.cons rfl .nil)), fun q s₁₁ S₁₁ => ?_⟩
    refine r_spl ?_
    refine wpAny_Constant_bool ?_
    refine r_spl0 ?_
    refine ⟨by show 3 ≤ sizeLine; decide, pnC "-" q false, _, _, S₁₁, lstP_mk (.cons ⟨_, by rw [show ("-" : Str) = ⟨#[45]⟩ by decide +kernel]⟩ (.cons rfl (.cons rfl .nil))), fun p s₁₂ S₁₂ => ?_⟩
    refine r_nameE S₁₂ (by walk_at "mem") (by walk_at "mn") ?_
    refine r_nameI S₁₂ (by walk_at "mem") (by walk_at "mn") fun u₉ => ?_
    refine r_setV S₁₂ (vs := [.ref D.p0, .ref D.p1, .ref D.p2, .ref D.p3, .ref D.p4]) (by simp) (by decide) (by decide) (by show 0 < 5; decide) (.tail (.tail (.tail (.tail (.tail (.tail (.tail (.tail (.tail (.tail (.tail (.tail .head)))))))))))) fun s₁₃ S₁₃ => ?_
    refine then_next ?_
    refine wpAny_execs_nil ?_
    have S₁₄ := (S₁₃.less (P' := frC (flB D)) (.tail _ (.tail _ (.tail _ (.tail _ (.head _))))) (.tail (.tail (.tail (.tail .head)))) fun o ho => frC_sub (fun a ha => by
      simp only [List.mem_cons, List.not_mem_nil, or_false] at ha
      rcases ha with rfl | rfl | rfl | rfl <;> simp) ho).sub (L' := [(p, pnC "-" q false), (q, plC (some 0)), (a, genC g), (Cn, frC (fl0 (.ref D.rw) (.int 1 u₃))), (C, frC (flB D)), (D.rw, lstS W.ys), (D.ow, lstS W.ys), (D.sh, itX D.rw W.oS), (D.qS, plC W.oS), (D.q1, plC W.o1), (D.R, lstV [.ref a, .ref D.a1, .ref D.a2, .ref D.a3, .ref D.a4]), (D.P, lstV [.ref p, .ref D.p1, .ref D.p2, .ref D.p3, .ref D.p4]), (D.p1, pnC "+" D.q1 W.e1), (D.p2, pnC "-" D.qS W.e2), (D.p3, pnC "+" D.qS W.e3), (D.p4, pnC "" D.qS W.e4)] ++ ((L1 ++ (L2 ++ (L3 ++ L4))) ++ X)) (.cons_cons _ (.cons_cons _ (.cons_cons _ (.cons_cons _ (.cons_cons _ (.cons_cons _ (.cons_cons _ (.cons_cons _ (.cons_cons _ (.cons _ (.cons_cons _ (.cons_cons _ (.cons_cons _ (.cons _ (.cons_cons _ (.cons_cons _ (.cons_cons _ (.cons_cons _ ((List.sublist_append_right L0 (L1 ++ (L2 ++ (L3 ++ L4)))).append_right X)))))))))))))))))))
    have S₁₅ := S₁₄.gsub (G' := (g, IsFresh (rEnv Cn fr cr)) :: ((G1 ++ (G2 ++ (G3 ++ G4))) ++ GX)) (.cons_cons _ ((List.sublist_append_right G0 (G1 ++ (G2 ++ (G3 ++ G4)))).append_right GX))
    refine h { D with a0 := a, p0 := p, q0 := q } { W with o0 := some 0, e0 := false } (bsx { D with a0 := a, p0 := p, q0 := q } { W with o0 := some 0, e0 := false } W.oS ++ ([(a, genC g), (Cn, frC (fl0 (.ref D.rw) (.int 1 u₃)))] ++ (L1 ++ (L2 ++ (L3 ++ L4))))) ([(g, IsFresh (rEnv Cn fr cr))] ++ (G1 ++ (G2 ++ (G3 ++ G4)))) s₁₃ rfl rfl ⟨[(a, genC g), (Cn, frC (fl0 (.ref D.rw) (.int 1 u₃)))], L1, L2, L3, L4, [(g, IsFresh (rEnv Cn fr cr))], G1, G2, G3, G4, .inl ⟨Cn, g, u₃, rfl, rfl, rfl, rfl⟩, H1, H2, H3, H4, rfl, rfl⟩ ?_
    have pm := (permBy (C, frC (flB D)) [(p, pnC "-" q false), (q, plC (some 0)), (a, genC g), (Cn, frC (fl0 (.ref D.rw) (.int 1 u₃))), (C, frC (flB D)), (D.rw, lstS W.ys), (D.ow, lstS W.ys), (D.sh, itX D.rw W.oS), (D.qS, plC W.oS), (D.q1, plC W.o1), (D.R, lstV [.ref a, .ref D.a1, .ref D.a2, .ref D.a3, .ref D.a4]), (D.P, lstV [.ref p, .ref D.p1, .ref D.p2, .ref D.p3, .ref D.p4]), (D.p1, pnC "+" D.q1 W.e1), (D.p2, pnC "-" D.qS W.e2), (D.p3, pnC "+" D.qS W.e3), (D.p4, pnC "" D.qS W.e4)] (is := [0, 1, 2, 3, 4, 5, 6, 7, 8, 9, 10, 11, 12, 13, 14, 15]) (js := [4, 5, 6, 7, 8, 1, 9, 10, 11, 0, 12, 13, 14, 15, 2, 3]) (by decide)).append_right ((L1 ++ (L2 ++ (L3 ++ L4))) ++ X)
    exact S₁₅.perm pm.symm
  · refine stp 1 hk fun s₃ S₃ => ?_
    replace S₃ : St b s₃ ((C, frC [(("rows" : Str), vE (.ref D.rw)), (("own" : Str), vE (.ref D.ow)), (("readers" : Str), vE (.ref D.R)), (("plains" : Str), vE (.ref D.P)), (("x" : Str), vI x), (("step" : Str), vI step), (("rest" : Str), vI rest), (("k" : Str), vI (1 : Nat))]) :: ((bsx D W W.oS ++ (L0 ++ (L1 ++ (L2 ++ (L3 ++ L4))))) ++ X)) ((G0 ++ (G1 ++ (G2 ++ (G3 ++ G4)))) ++ GX) := S₃
    refine r_seq ?_
    conv in cAt 1 => whnf
    refine wpAny_Assign_Subscript ?_ (by kernel_rfl)
    refine r_callD2 K.B K.Fr S₃ ?_
    refine r_nameE S₃ (by walk_at "mem") (by walk_at "mn") ?_
    refine wpAny_BinOp ?_
    refine r_nameI S₃ (by walk_at "mem") (by walk_at "mn") fun u₁ => ?_
    refine r_int S₃ fun u₂ s₄ S₄ => ?_
    refine r_add S₄ fun u₃ s₅ S₅ => ?_
    refine ⟨⟨_, _, S₅⟩, ?_⟩
    refine r_restore K.B K.Fr S₅ (by have := hA.depth; omega) fun a Cn g s₆ S₆ => ?_
    replace S₆ : St b s₆ ((a, genC g) :: (Cn, frC (fl0 (.ref D.rw) (.int 2 u₃))) :: (C, frC [(("rows" : Str), vE (.ref D.rw)), (("own" : Str), vE (.ref D.ow)), (("readers" : Str), vE (.ref D.R)), (("plains" : Str), vE (.ref D.P)), (("x" : Str), vI x), (("step" : Str), vI step), (("rest" : Str), vI rest), (("k" : Str), vI (1 : Nat))]) :: ((bsx D W W.oS ++ (L0 ++ (L1 ++ (L2 ++ (L3 ++ L4))))) ++ X)) ((g, IsFresh (rEnv Cn fr cr)) :: ((G0 ++ (G1 ++ (G2 ++ (G3 ++ G4)))) ++ GX)) := S₆
    refine r_nameE S₆ (by walk_at "mem") (by walk_at "mn") ?_
    refine r_nameI S₆ (by walk_at "mem") (by walk_at "mn") fun u₄ => ?_
    refine r_setV S₆ (vs := [.ref D.a0, .ref D.a1, .ref D.a2, .ref D.a3, .ref D.a4]) (by simp) (by decide) (by decide) (by show 1 < 5; decide) (.tail (.tail (.tail (.tail (.tail (.tail (.tail (.tail (.tail .head))))))))) fun s₇ S₇ => ?_
    refine then_next ?_
    refine r_seq ?_
    conv in cAt 2 => whnf
    refine wpAny_Assign_Subscript ?_ (by kernel_rfl)
    refine r_disp (b := b) ?_
    refine r_spl ?_
    refine Subscript_ ?_
    refine r_str S₇ fun u₅ s₈ S₈ => ?_
    refine r_nameI S₈ (by walk_at "mem") (by walk_at "mn") fun u₆ => ?_
    refine r_itemStr (c := 43) S₈ (by decide) (by decide) (by decide +kernel) fun u₇ s₉ S₉ => ?_
    refine r_spl ?_
    refine r_disp (b := b) ?_
    refine r_spl ?_
    refine r_int S₉ fun u₈ s₁₀ S₁₀ => ?_
    refine r_spl ?_
    refine wpAny_Constant_bool ?_
    refine r_spl0 ?_
    refine ⟨by show 2 ≤ sizeLine; decide, plC (some 0), _, _, S₁₀, lstP_mk (.cons ⟨_, rfl⟩ (.cons rfl .nil)), fun q s₁₁ S₁₁ => ?_⟩
    refine r_spl ?_
    refine wpAny_Constant_bool ?_
    refine r_spl0 ?_
    refine ⟨by show 3 ≤ sizeLine; decide, pnC "+" q false, _, _, S₁₁, lstP_mk (.cons ⟨_, by rw [show ("+" : Str) = ⟨#[43]⟩ by decide +kernel]⟩ (.cons rfl (.cons rfl .nil))), fun p s₁₂ S₁₂ => ?_⟩
    refine r_nameE S₁₂ (by walk_at "mem") (by walk_at "mn") ?_
    refine r_nameI S₁₂ (by walk_at "mem") (by walk_at "mn") fun u₉ => ?_
    refine r_setV S₁₂ (vs := [.ref D.p0, .ref D.p1, .ref D.p2, .ref D.p3, .ref D.p4]) (by simp) (by decide) (by decide) (by show 1 < 5; decide) (.tail (.tail (.tail (.tail (.tail (.tail (.tail (.tail (.tail (.tail (.tail (.tail .head)))))))))))) fun s₁₃ S₁₃ => ?_
    refine then_next ?_
    refine wpAny_execs_nil ?_
    have S₁₄ := (S₁₃.less (P' := frC (flB D)) (.tail _ (.tail _ (.tail _ (.tail _ (.head _))))) (.tail (.tail (.tail (.tail .head)))) fun o ho => frC_sub (fun a ha => by
      simp only [List.mem_cons, List.not_mem_nil, or_false] at ha
      rcases ha with rfl | rfl | rfl | rfl <;> simp) ho).sub (L' := [(p, pnC "+" q false), (q, plC (some 0)), (a, genC g), (Cn, frC (fl0 (.ref D.rw) (.int 2 u₃))), (C, frC (flB D)), (D.rw, lstS W.ys), (D.ow, lstS W.ys), (D.sh, itX D.rw W.oS), (D.qS, plC W.oS), (D.q0, plC W.o0), (D.R, lstV [.ref D.a0, .ref a, .ref D.a2, .ref D.a3, .ref D.a4]), (D.P, lstV [.ref D.p0, .ref p, .ref D.p2, .ref D.p3, .ref D.p4]), (D.p0, pnC "-" D.q0 W.e0), (D.p2, pnC "-" D.qS W.e2), (D.p3, pnC "+" D.qS W.e3), (D.p4, pnC "" D.qS W.e4)] ++ ((L0 ++ (L2 ++ (L3 ++ L4))) ++ X)) (.cons_cons _ (.cons_cons _ (.cons_cons _ (.cons_cons _ (.cons_cons _ (.cons_cons _ (.cons_cons _ (.cons_cons _ (.cons_cons _ (.cons_cons _ (.cons _ (.cons_cons _ (.cons_cons _ (.cons_cons _ (.cons _ (.cons_cons _ (.cons_cons _ (.cons_cons _ (((List.sublist_append_right L1 (L2 ++ (L3 ++ L4))).append_left L0).append_right X)))))))))))))))))))
    have S₁₅ := S₁₄.gsub (G' := (g, IsFresh (rEnv Cn fr cr)) :: ((G0 ++ (G2 ++ (G3 ++ G4))) ++ GX)) (.cons_cons _ (((List.sublist_append_right G1 (G2 ++ (G3 ++ G4))).append_left G0).append_right GX))
    refine h { D with a1 := a, p1 := p, q1 := q } { W with o1 := some 0, e1 := false } (bsx { D with a1 := a, p1 := p, q1 := q } { W with o1 := some 0, e1 := false } W.oS ++ (L0 ++ ([(a, genC g), (Cn, frC (fl0 (.ref D.rw) (.int 2 u₃)))] ++ (L2 ++ (L3 ++ L4))))) (G0 ++ ([(g, IsFresh (rEnv Cn fr cr))] ++ (G2 ++ (G3 ++ G4)))) s₁₃ rfl rfl ⟨L0, [(a, genC g), (Cn, frC (fl0 (.ref D.rw) (.int 2 u₃)))], L2, L3, L4, G0, [(g, IsFresh (rEnv Cn fr cr))], G2, G3, G4, H0, .inl ⟨Cn, g, u₃, rfl, rfl, rfl, rfl⟩, H2, H3, H4, rfl, rfl⟩ ?_
    have pm := (permBy (C, frC (flB D)) [(p, pnC "+" q false), (q, plC (some 0)), (a, genC g), (Cn, frC (fl0 (.ref D.rw) (.int 2 u₃))), (C, frC (flB D)), (D.rw, lstS W.ys), (D.ow, lstS W.ys), (D.sh, itX D.rw W.oS), (D.qS, plC W.oS), (D.q0, plC W.o0), (D.R, lstV [.ref D.a0, .ref a, .ref D.a2, .ref D.a3, .ref D.a4]), (D.P, lstV [.ref D.p0, .ref p, .ref D.p2, .ref D.p3, .ref D.p4]), (D.p0, pnC "-" D.q0 W.e0), (D.p2, pnC "-" D.qS W.e2), (D.p3, pnC "+" D.qS W.e3), (D.p4, pnC "" D.qS W.e4)] (is := [0, 1, 2, 3, 4, 5, 6, 7, 8, 9, 10, 11, 12, 13, 14, 15]) (js := [4, 5, 6, 7, 8, 9, 1, 10, 11, 12, 0, 13, 14, 15, 2, 3]) (by decide)).append_right ((L0 ++ (L2 ++ (L3 ++ L4))) ++ X)
    have S₁₆ := S₁₅.perm pm.symm
    refine (S₁₆.perm ?_).gperm ?_
    · refine List.Perm.trans (l₂ := [(C, frC (flB D)), (D.rw, lstS W.ys), (D.ow, lstS W.ys), (D.sh, itX D.rw W.oS), (D.qS, plC W.oS), (D.q0, plC W.o0), (q, plC (some 0)), (D.R, lstV [.ref D.a0, .ref a, .ref D.a2, .ref D.a3, .ref D.a4]), (D.P, lstV [.ref D.p0, .ref p, .ref D.p2, .ref D.p3, .ref D.p4]), (D.p0, pnC "-" D.q0 W.e0), (p, pnC "+" q false), (D.p2, pnC "-" D.qS W.e2), (D.p3, pnC "+" D.qS W.e3), (D.p4, pnC "" D.qS W.e4)] ++ (([(a, genC g), (Cn, frC (fl0 (.ref D.rw) (.int 2 u₃)))] ++ (L0 ++ (L2 ++ (L3 ++ L4)))) ++ X)) ?_ (.refl _)
      exact List.Perm.append_left [(C, frC (flB D)), (D.rw, lstS W.ys), (D.ow, lstS W.ys), (D.sh, itX D.rw W.oS), (D.qS, plC W.oS), (D.q0, plC W.o0), (q, plC (some 0)), (D.R, lstV [.ref D.a0, .ref a, .ref D.a2, .ref D.a3, .ref D.a4]), (D.P, lstV [.ref D.p0, .ref p, .ref D.p2, .ref D.p3, .ref D.p4]), (D.p0, pnC "-" D.q0 W.e0), (p, pnC "+" q false), (D.p2, pnC "-" D.qS W.e2), (D.p3, pnC "+" D.qS W.e3), (D.p4, pnC "" D.qS W.e4)] ((perm_swap3 L0 [(a, genC g), (Cn, frC (fl0 (.ref D.rw) (.int 2 u₃)))] (L2 ++ (L3 ++ L4))).append_right X)
    · exact (perm_swap3 G0 [_] _).append_right GX

/-- a turn of the loop over the script -/
theorem w_turn {fr ft fd C f : Addr} {cr ct cdd cd : Value} {D : Ad} {W : Pl} {Ls : Ledger} {Gs : GLedger} {x : Int} {Q : Flow → Shared → Prop} (K : Kit2 b mg mb names fr ft fd cr ct cdd)
    (hA : Ar A 3) (hu : A.units + 64 < cLine) (hfr : A.frames = some [lEnv C f cd]) (hp : ∀ s : Shared, (∀ a o, b.heap.get? a = some o → s.heap.get? a = some o) → PylongRoom (model prog w) A s) (I : Inv2 fr cr D W Ls Gs) (hz : W.ys.length < 100) (hgood : ∀ y ∈ W.ys, Good 7 y)
    (S : St b s ((C, frC [(("rows" : Str), vE (.ref D.rw)), (("own" : Str), vE (.ref D.ow)), (("readers" : Str), vE (.ref D.R)), (("plains" : Str), vE (.ref D.P)), (("x" : Str), vI x)]) :: (Ls ++ X)) (Gs ++ GX))
    (h : ∀ D' W' Ls' Gs' s', flB D' = flB D → W'.ys.length ≤ W.ys.length + 1 → (∀ y ∈ W'.ys, Good 7 y) → Inv2 fr cr D' W' Ls' Gs' → St b s' ((C, frC (flB D)) :: (Ls' ++ X)) (Gs' ++ GX) → Q .next s') :
    wpAny (model prog w) A (execs bBody (lEnv C f cd)) Q NoE s := by
  have h9 : sizeLine = 16777216 := by decide
  have hr9 := fmod_range x (m := 9) (by decide)
  have hlen : ∀ y ∈ W.ys, y.length ≤ sizeLine := fun y hy => by have := (hgood y hy).1; omega
  rw [bBody_eq]
  refine r_seq ?_
  conv in bAt 0 => whnf
  refine wpAny_Assign_Name ?_ (by kernel_rfl)
  refine wpAny_BinOp ?_
  refine r_nameI S (by walk_at "mem") (by walk_at "mn") fun t₁ => ?_
  refine r_int S fun t₂ s₁ S₁ => ?_
  refine r_mod S₁ (by decide) fun t₃ s₂ S₂ => ?_
  refine r_store (P := vI (x.fmod 9)) S₂ (by walk_at "mem") ⟨_, rfl⟩ (by walk_at "set") (by walk_at "upd") fun s₃ S₃ => ?_
  refine then_next ?_
  refine r_seq ?_
  conv in bAt 1 => whnf
  refine wpAny_Assign_Name ?_ (by kernel_rfl)
  refine wpAny_BinOp ?_
  refine r_nameI S₃ (by walk_at "mem") (by walk_at "mn") fun t₄ => ?_
  refine r_int S₃ fun t₅ s₄ S₄ => ?_
  refine r_fdiv S₄ (by decide) (hp _ S₄.keep) fun t₆ s₅ S₅ => ?_
  refine r_store (P := vI (x.fdiv 9)) S₅ (by walk_at "mem") ⟨_, rfl⟩ (by walk_at "set") (by walk_at "upd") fun s₆ S₆ => ?_
  refine then_next ?_
  refine r_seq ?_
  conv in bAt 2 => whnf
  refine wpAny_If ?_
  refine wpAny_isTrue_Compare1 ?_ (by kernel_rfl)
  refine r_nameI S₆ (by walk_at "mem") (by walk_at "mn") fun t₇ => ?_
  refine r_int S₆ fun t₈ s₇ S₇ => ?_
  refine r_lt ?_
  refine wpAny_truthy_bool ?_
  by_cases h3 : x.fmod 9 < 3
  · rw [if_pos (by simpa using h3)]
    show wpAny _ _ (execs gBody (lEnv C f cd)) _ _ _
    refine w_grow K hA I hz S₇ fun y Ls' s' hy I' S' => ?_
    refine then_next ?_
    refine wpAny_execs_nil ?_
    refine h D _ _ _ _ rfl ?_ ?_ I' S'
    · simp
    · intro z hz'
      rcases List.mem_append.mp hz' with hz' | hz'
      · exact hgood z hz'
      · rw [List.mem_singleton] at hz'; subst hz'; exact hy
  · rw [if_neg (by simpa using h3)]
    refine r_seq ?_
    refine wpAny_If ?_
    refine wpAny_isTrue_Compare1 ?_ (by kernel_rfl)
    refine r_nameI S₇ (by walk_at "mem") (by walk_at "mn") fun t₉ => ?_
    refine r_int S₇ fun t₁₀ s₈ S₈ => ?_
    refine r_lt ?_
    refine wpAny_truthy_bool ?_
    by_cases h8 : x.fmod 9 < 8
    · rw [if_pos (by simpa using h8)]
      refine r_seq ?_
      obtain ⟨k, hk⟩ : ∃ k : Nat, x.fmod 9 - 3 = k := ⟨(x.fmod 9 - 3).toNat, by omega⟩
      have idx : ∀ {p1 p2 p3 : Pos} {s : Shared} {Lz : Ledger} {Gz : GLedger} {Q : Value → Shared → Prop}, St b s ((C, frC (flT D x (x.fmod 9) (x.fdiv 9))) :: Lz) Gz → (∀ t s', St b s' ((C, frC (flT D x (x.fmod 9) (x.fdiv 9))) :: Lz) Gz → Q (.int k t) s') → wpAny (model prog w) A (eval (.BinOp (.Name "step" p1) .Sub (.Constant (.int 3) 0 p2) p3) (lEnv C f cd)) Q NoE s := by
        intro p1 p2 p3 s Lz Gz Q S hQ
        refine wpAny_BinOp ?_
        refine r_nameI S (by walk_at "mem") (by walk_at "mn") fun t₁ => ?_
        refine r_int S fun t₂ s₁ S₁ => ?_
        refine r_sub S₁ fun t₃ s₂ S₂ => ?_
        rw [hk]
        exact hQ _ _ S₂
      refine w_ask (k := k) (by omega) K hA hu hfr I (by omega) hlen S₈ (by simp) (by simp) (by simp) idx idx fun W' Ls' Gs' s' hW I' S' => ?_
      refine then_next ?_
      refine wpAny_execs_nil ?_
      refine then_next ?_
      refine wpAny_execs_nil ?_
      refine then_next ?_
      refine wpAny_execs_nil ?_
      refine h D _ _ _ _ rfl (by rw [hW]; omega) (by rw [hW]; exact hgood) I' (S'.less (.head _) .head fun o ho => frC_sub (fun a ha => ?_) ho)
      simp only [List.mem_cons, List.not_mem_nil, or_false] at ha
      rcases ha with rfl | rfl | rfl | rfl <;> simp
    · rw [if_neg (by simpa using h8)]
      show wpAny _ _ (execs cBody (lEnv C f cd)) _ _ _
      refine w_swap K hA I S₈ fun D' W' Ls' Gs' s' hD hW I' S' => ?_
      refine then_next ?_
      refine wpAny_execs_nil ?_
      refine then_next ?_
      refine wpAny_execs_nil ?_
      exact h D' W' Ls' Gs' s' hD (by rw [hW]; omega) (by rw [hW]; exact hgood) I' S'
end
end Mine

-- part HD02
open PySem PySem.W PyProof.Rows
set_option Elab.async false
namespace Mine
set_option maxRecDepth 100000
set_option maxHeartbeats 8000000
open_top hd for PySem.Challenge.rw_dm0050_02
end Mine

-- part L2e
open PySem PySem.W PySem.W.X PyProof.Rows PySem.Calls PySem.Spec PySem.SeqAt
set_option Elab.async false
set_option maxRecDepth 100000
set_option maxHeartbeats 4000000
set_option linter.all false
namespace Mine
local macro_rules | `(tactic| walk_at "mem") => `(tactic| first | assumption | exact List.Mem.head _ | (refine List.Mem.tail _ ?_; walk_at "mem") | (refine List.mem_append_right _ ?_; walk_at "mem"))
local macro_rules | `(tactic| walk_at "mn") => `(tactic| first | with_reducible exact List.mem_cons_self | ((with_reducible refine List.mem_cons_of_mem _ ?_); walk_at "mn"))
local macro_rules | `(tactic| walk_at "upd") => `(tactic| first | exact Upd.head | ((with_reducible apply Upd.tail); walk_at "upd"))
local macro_rules | `(tactic| walk_at "set") => `(tactic| first | with_reducible exact SetN.nil | ((with_reducible refine SetN.hit ?_); kernel_rfl) | ((with_reducible apply SetN.skip); kernel_rfl; walk_at "set"))

def rows0 : List Str := ["  a", "- b", "+ c", "? d"]
theorem rows0_good : ∀ y ∈ rows0, Good 7 y := by unfold Good; decide +kernel
theorem rng1_size (m : Nat) : Builtin.Range.rangeSize 0 (m : Int) 1 = (m : Int) := by
  unfold Builtin.Range.rangeSize
  split <;> omega
theorem rng1_small {m : Nat} (h : m < 102) : Builtin.Range.small 0 (m : Int) 1 = true := by
  have : ∀ n : Fin 102, Builtin.Range.small 0 ((n : Nat) : Int) 1 = true := by decide +kernel
  exact this ⟨m, h⟩
def kFor : Stmt := match lAt 7 with | .For _ _ [st] _ _ => st | _ => .Pass default
abbrev flK (D : Ad) (k : Int) : List (Str × VP) := [(("rows" : Str), vE (.ref D.rw)), (("own" : Str), vE (.ref D.ow)), (("readers" : Str), vE (.ref D.R)), (("plains" : Str), vE (.ref D.P)), (("k" : Str), vI k)]
section
variable {prog : Program} {w : World} {A : Around} {b s : Shared} {X : Ledger} {GX : GLedger} {mg mb : Str → Option Value} {names : List Str}
/-- all readers, once -/
theorem w_round {fr ft fd C f : Addr} {cr ct cdd cd : Value} {D : Ad} {W : Pl} {Ls : Ledger} {Gs : GLedger} {Q : Flow → Shared → Prop} (K : Kit2 b mg mb names fr ft fd cr ct cdd)
    (hA : Ar A 3) (hu : A.units + 64 < cLine) (hfr : A.frames = some [lEnv C f cd]) (I : Inv2 fr cr D W Ls Gs) (hz : W.ys.length < 100) (hgood : ∀ y ∈ W.ys, Good 7 y)
    (S : St b s ((C, frC (flB D)) :: (Ls ++ X)) (Gs ++ GX))
    (h : ∀ W' Ls' Gs' s', W'.ys = W.ys → Inv2 fr cr D W' Ls' Gs' → St b s' ((C, frC (flB D)) :: (Ls' ++ X)) (Gs' ++ GX) → Q .next s') :
    wpAny (model prog w) A (exec kFor (lEnv C f cd)) Q NoE s := by
  have h9 : sizeLine = 16777216 := by decide
  have hlen : ∀ y ∈ W.ys, y.length ≤ sizeLine := fun y hy => by have := (hgood y hy).1; omega
  conv in kFor => whnf
  refine r_forg (b := b) ?_
  refine r_callT1 (T := "range") K.B S (by decide +kernel) ?_ (hfree := K.hM _ (by walk_at "mn"))
  refine r_int S fun t₁ s₁ S₁ => ?_
  refine r_range1 S₁ fun rg s₂ S₂ => ?_
  refine ⟨[(rg, rngC 0 5 1)], 0, (rngI 0 1 5).map vI, [], (C, frC (flB D)) :: Ls, (rg, rngC 0 5 1) :: X, [], Gs ++ GX,
    fun pre F H => ∃ W' Ls' Gs', W'.ys = W.ys ∧ Inv2 fr cr D W' Ls' Gs' ∧ F = (C, frC (flB D)) :: Ls' ∧ H = Gs' ++ GX,
    givesI_rng (.head _) (by decide) (by decide), hA.mono (by omega), S₂.perm ((List.Perm.cons _ List.perm_middle).trans (.swap _ _ _)), ⟨W, Ls, Gs, rfl, I, rfl, rfl⟩, ?_, ?_, ?_⟩
  · rintro pre F H ⟨W', Ls', Gs', hW, I', rfl, rfl⟩ p hp
    rw [List.mem_singleton] at hp
    subst hp
    exact List.mem_append_right _ (.head _)
  · rintro pre P r u F H L₂ G₂ s e hu' ⟨W', Ls', Gs', hW, I', rfl, rfl⟩ S
    obtain ⟨k, hk, rfl⟩ : ∃ k, k ∈ rngI 0 1 5 ∧ P = vI k := by
      have : P ∈ (rngI 0 1 5).map vI := by rw [e]; simp
      obtain ⟨x, h1, rfl⟩ := List.mem_map.mp this
      exact ⟨x, h1, rfl⟩
    have hk5 := rngI_mem hk
    obtain ⟨k, rfl⟩ := Int.eq_ofNat_of_zero_le hk5.1
    have S₀ := S.gperm (G' := Gs' ++ (G₂ ++ GX)) (perm_swap3 _ _ _)
    replace S₀ : St b s ((C, frC (flB D)) :: (Ls' ++ (L₂ ++ (rg, rngC 0 5 1) :: X))) (Gs' ++ (G₂ ++ GX)) := S₀
    refine wpAny_assign_Name (r_store (P := vI k) S₀ (by walk_at "mem") hu' (by walk_at "set") (by walk_at "upd") fun s₁ S₁ => ?_)
    refine r_seq ?_
    have idx : ∀ {p1 : Pos} {s : Shared} {Lz : Ledger} {Gz : GLedger} {Q : Value → Shared → Prop}, St b s ((C, frC (flK D k)) :: Lz) Gz → (∀ t s', St b s' ((C, frC (flK D k)) :: Lz) Gz → Q (.int k t) s') → wpAny (model prog w) A (eval (.Name "k" p1) (lEnv C f cd)) Q NoE s := by
      intro p1 s Lz Gz Q S hQ
      refine r_nameI S (by walk_at "mem") (by walk_at "mn") fun t₁ => ?_
      exact hQ _ _ S
    refine w_ask (k := k) (by omega) K hA hu hfr I' (by rw [hW]; omega) (by rw [hW]; exact hlen) S₁ (by simp) (by simp) (by simp) idx idx fun W'' Ls'' Gs'' s' hW' I'' S' => ?_
    refine then_next ?_
    refine wpAny_execs_nil ?_
    refine turn_next ?_
    refine ⟨_, _, ⟨W'', Ls'', Gs'', hW'.trans hW, I'', rfl, rfl⟩, (S'.less (P' := frC (flB D)) (.head _) .head fun o ho => frC_sub (fun a ha => ?_) ho).gperm (perm_swap3 _ _ _)⟩
    simp only [List.mem_cons, List.not_mem_nil, or_false] at ha
    rcases ha with rfl | rfl | rfl | rfl <;> simp
  · rintro F H s ⟨W', Ls', Gs', hW, I', rfl, rfl⟩ S
    exact h W' Ls' Gs' s hW I' (S.sub (.cons_cons _ ((List.Sublist.cons _ (.refl X)).append_left Ls')))

/-- all readers, by turns -/
theorem w_rounds {fr ft fd C f : Addr} {cr ct cdd cd : Value} {D : Ad} {W : Pl} {Ls : Ledger} {Gs : GLedger} {Q : Flow → Shared → Prop} (K : Kit2 b mg mb names fr ft fd cr ct cdd)
    (hA : Ar A 3) (hu : A.units + 64 < cLine) (hfr : A.frames = some [lEnv C f cd]) (I : Inv2 fr cr D W Ls Gs) (hz : W.ys.length < 100) (hgood : ∀ y ∈ W.ys, Good 7 y)
    (S : St b s ((C, frC (flB D)) :: (Ls ++ X)) (Gs ++ GX))
    (h : ∀ W' Ls' Gs' s', W'.ys = W.ys → Inv2 fr cr D W' Ls' Gs' → St b s' ((C, frC (flB D)) :: (Ls' ++ X)) (Gs' ++ GX) → Q .next s') :
    wpAny (model prog w) A (exec (lAt 7) (lEnv C f cd)) Q NoE s := by
  have h9 : sizeLine = 16777216 := by decide
  have hin : (D.ow, lstS W.ys) ∈ Ls := by
    obtain ⟨L0, L1, L2, L3, L4, G0, G1, G2, G3, G4, _, _, _, _, _, rfl, _⟩ := I
    exact List.mem_append_left _ (by simp)
  conv in lAt 7 => whnf
  refine r_forg (b := b) ?_
  refine r_callT1 (T := "range") K.B S (by decide +kernel) ?_ (hfree := K.hM _ (by walk_at "mn"))
  refine wpAny_BinOp ?_
  refine r_callB1 (id := "len") K.B S (by decide +kernel) ?_ (hfree := K.hM _ (.head _))
  refine r_nameE S (by walk_at "mem") (by walk_at "mn") ?_
  refine r_lenS S (.tail _ (List.mem_append_left _ hin)) (by omega) fun t₁ s₁ S₁ => ?_
  refine r_int S₁ fun t₂ s₂ S₂ => ?_
  refine r_add S₂ fun t₃ s₃ S₃ => ?_
  rw [show (W.ys.length : Int) + 1 = ((W.ys.length + 1 : Nat) : Int) by omega]
  refine r_range1 S₃ fun rg s₄ S₄ => ?_
  refine ⟨[(rg, rngC 0 ((W.ys.length + 1 : Nat) : Int) 1)], 0, (rngI 0 1 (W.ys.length + 1)).map vI, [], (C, frC (flB D)) :: Ls, (rg, rngC 0 ((W.ys.length + 1 : Nat) : Int) 1) :: X, [], Gs ++ GX,
    fun pre F H => ∃ W' Ls' Gs', W'.ys = W.ys ∧ Inv2 fr cr D W' Ls' Gs' ∧ F = (C, frC (flB D)) :: Ls' ∧ H = Gs' ++ GX,
    givesI_rng (.head _) (rng1_small (by omega)) (rng1_size _), hA.mono (by omega), S₄.perm ((List.Perm.cons _ List.perm_middle).trans (.swap _ _ _)), ⟨W, Ls, Gs, rfl, I, rfl, rfl⟩, ?_, ?_, ?_⟩
  · rintro pre F H ⟨W', Ls', Gs', hW, I', rfl, rfl⟩ p hp
    rw [List.mem_singleton] at hp
    subst hp
    exact List.mem_append_right _ (.head _)
  · rintro pre P r u F H L₂ G₂ s e hu' ⟨W', Ls', Gs', hW, I', rfl, rfl⟩ S
    have S₀ := S.gperm (G' := Gs' ++ (G₂ ++ GX)) (perm_swap3 _ _ _)
    replace S₀ : St b s ((C, frC (flB D)) :: (Ls' ++ (L₂ ++ (rg, rngC 0 ((W.ys.length + 1 : Nat) : Int) 1) :: X))) (Gs' ++ (G₂ ++ GX)) := S₀
    refine wpAny_assign_Name (r_store (P := P) S₀ (by walk_at "mem") hu' (by walk_at "set") (by walk_at "upd") fun s₁ S₁ => ?_)
    have S₂ := S₁.less (P' := frC (flB D)) (.head _) .head fun o ho => frC_sub (fun a ha => by
      simp only [List.mem_cons, List.not_mem_nil, or_false] at ha
      rcases ha with rfl | rfl | rfl | rfl <;> simp) ho
    refine r_seq ?_
    show wpAny _ _ (exec kFor (lEnv C f cd)) _ _ _
    refine w_round K hA hu hfr I' (by rw [hW]; exact hz) (by rw [hW]; exact hgood) S₂ fun W'' Ls'' Gs'' s' hW' I'' S' => ?_
    refine then_next ?_
    refine wpAny_execs_nil ?_
    refine turn_next ?_
    exact ⟨_, _, ⟨W'', Ls'', Gs'', hW'.trans hW, I'', rfl, rfl⟩, S'.gperm (perm_swap3 _ _ _)⟩
  · rintro F H s ⟨W', Ls', Gs', hW, I', rfl, rfl⟩ S
    exact h W' Ls' Gs' s hW I' (S.sub (.cons_cons _ ((List.Sublist.cons _ (.refl X)).append_left Ls')))
end
end Mine

-- part L2f
open PySem PySem.W PySem.W.X PyProof.Rows PySem.Calls PySem.Spec PySem.SeqAt
set_option Elab.async false
set_option maxRecDepth 100000
set_option maxHeartbeats 4000000
set_option linter.all false
namespace Mine
local macro_rules | `(tactic| walk_at "mem") => `(tactic| first | assumption | exact List.Mem.head _ | (refine List.Mem.tail _ ?_; walk_at "mem") | (refine List.mem_append_right _ ?_; walk_at "mem"))
local macro_rules | `(tactic| walk_at "mn") => `(tactic| first | with_reducible exact List.mem_cons_self | ((with_reducible refine List.mem_cons_of_mem _ ?_); walk_at "mn"))
local macro_rules | `(tactic| walk_at "upd") => `(tactic| first | exact Upd.head | ((with_reducible apply Upd.tail); walk_at "upd"))
local macro_rules | `(tactic| walk_at "set") => `(tactic| first | with_reducible exact SetN.nil | ((with_reducible refine SetN.hit ?_); kernel_rfl) | ((with_reducible apply SetN.skip); kernel_rfl; walk_at "set"))


theorem law02 {w : World} {b : Shared} {mg mb : Str → Option Value} {names : List Str} {fr ft fd fl : Addr} {cr ct cdd cl : Value} {l : Addr} {vs : List Value} {ns : List Int} {Q E : Value → Shared → Prop} (K : Kit2 b mg mb names fr ft fd cr ct cdd)
    (Fl : FnAt b mg fl "law" lParams lBody lScope cl) (hN : b.heap.NoSeer)
    (hL : b.heap.IsList l vs.toArray) (hI : IntsAre vs ns) (hlen : ns.length ≤ 63) (S : St b b [] []) (h : ∀ s', St b s' [] [] → Q (.bool true) s') :
    wpAny (model PySem.Challenge.pw_dm0050_02 w) callerA (call (.ref fl) [.ref l]) Q E b := by
  refine r_callDef [(("script" : Str), .ref l)] K.B Fl S (by decide +kernel) (fun pm doc => rfl) (locs rfl) (by intro p hp; rw [List.mem_singleton] at hp; subst hp; rfl) (fun C s₁ S₁ => ?_) rfl rfl rfl (by decide)
  have hA : Ar (callerA.deeper (lEnv C fl cl)) 3 := ⟨rfl, by show callerA.depth + 1 + 3 < recursionLimit; decide +kernel⟩
  have hp : ∀ s : Shared, (∀ a o, b.heap.get? a = some o → s.heap.get? a = some o) → PylongRoom (model PySem.Challenge.pw_dm0050_02 w) (callerA.deeper (lEnv C fl cl)) s := fun s hk =>
    PylongRoom.of (K.B.nolimit.keeps hk) (by show callerA.depth + 1 + Builtin.pylongFrames < recursionLimit; decide +kernel) (SeerAt.of (env := lEnv C fl cl) (l := []) (hN.keeps hk) rfl rfl rfl rfl rfl rfl)
  have hu : (callerA.deeper (lEnv C fl cl)).units + 64 < cLine := by show callerA.units + 3 + 64 < cLine; decide +kernel
  have hfr : (callerA.deeper (lEnv C fl cl)).frames = some [lEnv C fl cl] := rfl
  show wpAny _ (callerA.deeper (lEnv C fl cl)) (execs lBody (lEnv C fl cl)) _ _ _
  generalize callerA.deeper (lEnv C fl cl) = A at hA hp hu hfr ⊢
  have h9 : sizeLine = 16777216 := by decide
  rw [lBody_eq]
  refine r_seq ?_
  conv in lAt 0 => whnf
  refine wpAny_Assign_Name ?_ (by kernel_rfl)
  refine r_listS rows0 S₁ fun rw s₂ S₂ => ?_
  refine r_store (fl := [(("script" : Str), vE (.ref l))]) (P := vE (.ref rw)) S₂ (.tail _ (.head _)) rfl (by walk_at "set") (by walk_at "upd") fun s₃ S₃ => ?_
  refine then_next ?_
  refine r_seq ?_
  conv in lAt 1 => whnf
  refine wpAny_Assign_Name ?_ (by kernel_rfl)
  refine r_callT1 (T := "list") K.B S₃ (by decide +kernel) ?_ (hfree := K.hM _ (by walk_at "mn"))
  refine r_nameE S₃ (by walk_at "mem") (by walk_at "mn") ?_
  refine r_listLS S₃ (.head _) (by decide) fun ow s₄ S₄ => ?_
  refine r_store (P := vE (.ref ow)) S₄ (by walk_at "mem") rfl (by walk_at "set") (by walk_at "upd") fun s₅ S₅ => ?_
  refine then_next ?_
  refine r_seq ?_
  conv in lAt 2 => whnf
  refine wpAny_Assign_Name ?_ (by kernel_rfl)
  refine r_callB1 (id := "iter") K.B S₅ (by decide +kernel) ?_ (hfree := K.hM _ (by walk_at "mn"))
  refine r_nameE S₅ (by walk_at "mem") (by walk_at "mn") ?_
  refine r_iterB S₅ (.tail _ (.head _)) fun sh s₆ S₆ => ?_
  refine r_store (P := vE (.ref sh)) S₆ (by walk_at "mem") rfl (by walk_at "set") (by walk_at "upd") fun s₇ S₇ => ?_
  refine then_next ?_
  refine r_seq ?_
  conv in lAt 3 => whnf
  refine wpAny_Assign_Name ?_ (by kernel_rfl)
  refine r_disp (b := b) ?_
  refine r_spl ?_
  refine r_int S₇ fun t₁ s₈ S₈ => ?_
  refine r_spl ?_
  refine wpAny_Constant_bool ?_
  refine r_spl0 ?_
  refine ⟨by show 2 ≤ sizeLine; decide, plC (some 0), _, _, S₈, lstP_mk (.cons ⟨_, rfl⟩ (.cons rfl .nil)), fun qS s₉ S₉ => ?_⟩
  refine r_store (P := vE (.ref qS)) S₉ (by walk_at "mem") rfl (by walk_at "set") (by walk_at "upd") fun s₁₀ S₁₀ => ?_
  refine then_next ?_
  refine r_seq ?_
  conv in lAt 4 => whnf
  refine wpAny_Assign_Name ?_ (by kernel_rfl)
  refine r_disp (b := b) ?_
  refine r_spl ?_
  refine r_callD2 K.B K.Fr S₁₀ ?_
  refine r_nameE S₁₀ (by walk_at "mem") (by walk_at "mn") ?_
  refine r_int S₁₀ fun ta0 za0 Za0 => ?_
  refine ⟨⟨_, _, Za0⟩, ?_⟩
  refine r_restore K.B K.Fr Za0 (by have := hA.depth; omega) fun a0 C0 g0 ya0 Ya0 => ?_
  refine r_spl ?_
  refine r_callD2 K.B K.Fr Ya0 ?_
  refine r_nameE Ya0 (by walk_at "mem") (by walk_at "mn") ?_
  refine r_int Ya0 fun ta1 za1 Za1 => ?_
  refine ⟨⟨_, _, Za1⟩, ?_⟩
  refine r_restore K.B K.Fr Za1 (by have := hA.depth; omega) fun a1 C1 g1 ya1 Ya1 => ?_
  refine r_spl ?_
  refine r_callD2 K.B K.Fr Ya1 ?_
  refine r_nameE Ya1 (by walk_at "mem") (by walk_at "mn") ?_
  refine r_int Ya1 fun ta2 za2 Za2 => ?_
  refine ⟨⟨_, _, Za2⟩, ?_⟩
  refine r_restore K.B K.Fr Za2 (by have := hA.depth; omega) fun a2 C2 g2 ya2 Ya2 => ?_
  refine r_spl ?_
  refine r_callD2 K.B K.Fr Ya2 ?_
  refine r_nameE Ya2 (by walk_at "mem") (by walk_at "mn") ?_
  refine r_int Ya2 fun ta3 za3 Za3 => ?_
  refine ⟨⟨_, _, Za3⟩, ?_⟩
  refine r_restore K.B K.Fr Za3 (by have := hA.depth; omega) fun a3 C3 g3 ya3 Ya3 => ?_
  refine r_spl ?_
  refine r_callD2 K.B K.Fr Ya3 ?_
  refine r_nameE Ya3 (by walk_at "mem") (by walk_at "mn") ?_
  refine r_str Ya3 fun ta4 za4 Za4 => ?_
  refine ⟨⟨_, _, Za4⟩, ?_⟩
  refine r_restore K.B K.Fr Za4 (by have := hA.depth; omega) fun a4 C4 g4 ya4 Ya4 => ?_
  refine r_spl0 ?_
  refine ⟨by show 5 ≤ sizeLine; decide, lstV [.ref a0, .ref a1, .ref a2, .ref a3, .ref a4], _, _, Ya4, lstV_mk, fun R s₁₁ S₁₁ => ?_⟩
  refine r_store (P := vE (.ref R)) S₁₁ (by walk_at "mem") rfl (by walk_at "set") (by walk_at "upd") fun s₁₂ S₁₂ => ?_
  refine then_next ?_
  refine r_seq ?_
  conv in lAt 5 => whnf
  refine wpAny_Assign_Name ?_ (by kernel_rfl)
  refine r_disp (b := b) ?_
  refine r_spl ?_
  refine r_disp (b := b) ?_
  refine r_spl ?_
  refine r_str S₁₂ fun tb0 zb0 Zb0 => ?_
  refine r_spl ?_
  refine r_disp (b := b) ?_
  refine r_spl ?_
  refine r_int Zb0 fun tc0 zc0 Zc0 => ?_
  refine r_spl ?_
  refine wpAny_Constant_bool ?_
  refine r_spl0 ?_
  refine ⟨by show 2 ≤ sizeLine; decide, plC (some 0), _, _, Zc0, lstP_mk (.cons ⟨_, rfl⟩ (.cons rfl .nil)), fun q0 zd0 Zd0 => ?_⟩
  refine r_spl ?_
  refine wpAny_Constant_bool ?_
  refine r_spl0 ?_
  refine ⟨by show 3 ≤ sizeLine; decide, pnC "-" q0 false, _, _, Zd0, lstP_mk (.cons ⟨_, rfl⟩ (.cons rfl (.cons rfl .nil))), fun p0 ze0 Ze0 => ?_⟩
  refine r_spl ?_
  refine r_disp (b := b) ?_
  refine r_spl ?_
  refine r_str Ze0 fun tb1 zb1 Zb1 => ?_
  refine r_spl ?_
  refine r_disp (b := b) ?_
  refine r_spl ?_
  refine r_int Zb1 fun tc1 zc1 Zc1 => ?_
  refine r_spl ?_
  refine wpAny_Constant_bool ?_
  refine r_spl0 ?_
  refine ⟨by show 2 ≤ sizeLine; decide, plC (some 0), _, _, Zc1, lstP_mk (.cons ⟨_, rfl⟩ (.cons rfl .nil)), fun q1 zd1 Zd1 => ?_⟩
  refine r_spl ?_
  refine wpAny_Constant_bool ?_
  refine r_spl0 ?_
  refine ⟨by show 3 ≤ sizeLine; decide, pnC "+" q1 false, _, _, Zd1, lstP_mk (.cons ⟨_, rfl⟩ (.cons rfl (.cons rfl .nil))), fun p1 ze1 Ze1 => ?_⟩
  refine r_spl ?_
  refine r_disp (b := b) ?_
  refine r_spl ?_
  refine r_str Ze1 fun tb2 zb2 Zb2 => ?_
  refine r_spl ?_
  refine r_nameE Zb2 (by walk_at "mem") (by walk_at "mn") ?_
  refine r_spl ?_
  refine wpAny_Constant_bool ?_
  refine r_spl0 ?_
  refine ⟨by show 3 ≤ sizeLine; decide, pnC "-" qS false, _, _, Zb2, lstP_mk (.cons ⟨_, rfl⟩ (.cons rfl (.cons rfl .nil))), fun p2 ze2 Ze2 => ?_⟩
  refine r_spl ?_
  refine r_disp (b := b) ?_
  refine r_spl ?_
  refine r_str Ze2 fun tb3 zb3 Zb3 => ?_
  refine r_spl ?_
  refine r_nameE Zb3 (by walk_at "mem") (by walk_at "mn") ?_
  refine r_spl ?_
  refine wpAny_Constant_bool ?_
  refine r_spl0 ?_
  refine ⟨by show 3 ≤ sizeLine; decide, pnC "+" qS false, _, _, Zb3, lstP_mk (.cons ⟨_, rfl⟩ (.cons rfl (.cons rfl .nil))), fun p3 ze3 Ze3 => ?_⟩
  refine r_spl ?_
  refine r_disp (b := b) ?_
  refine r_spl ?_
  refine r_str Ze3 fun tb4 zb4 Zb4 => ?_
  refine r_spl ?_
  refine r_nameE Zb4 (by walk_at "mem") (by walk_at "mn") ?_
  refine r_spl ?_
  refine wpAny_Constant_bool ?_
  refine r_spl0 ?_
  refine ⟨by show 3 ≤ sizeLine; decide, pnC "" qS false, _, _, Zb4, lstP_mk (.cons ⟨_, rfl⟩ (.cons rfl (.cons rfl .nil))), fun p4 ze4 Ze4 => ?_⟩
  refine r_spl0 ?_
  refine ⟨by show 5 ≤ sizeLine; decide, lstV [.ref p0, .ref p1, .ref p2, .ref p3, .ref p4], _, _, Ze4, lstV_mk, fun P s₁₃ S₁₃ => ?_⟩
  refine r_store (P := vE (.ref P)) S₁₃ (by walk_at "mem") rfl (by walk_at "set") (by walk_at "upd") fun s₁₄ S₁₄ => ?_
  refine then_next ?_
  obtain ⟨D, hD⟩ : ∃ D : Ad, D = ⟨rw, ow, sh, qS, q0, q1, R, P, p0, p1, p2, p3, p4, a0, a1, a2, a3, a4⟩ := ⟨_, rfl⟩
  have hin : ∃ Ls Gs, Inv2 fr cr D ⟨rows0, some 0, some 0, some 0, false, false, false, false, false⟩ Ls Gs ∧ St b s₁₄ ((C, frC [(("script" : Str), vE (.ref l)), (("rows" : Str), vE (.ref rw)), (("own" : Str), vE (.ref ow)), (("shared" : Str), vE (.ref sh)), (("place" : Str), vE (.ref qS)), (("readers" : Str), vE (.ref R)), (("plains" : Str), vE (.ref P))]) :: Ls) Gs := by
    subst hD
    refine ⟨_, _, ⟨[(a0, genC g0), (C0, frC (fl0 (.ref rw) (.int 1 ta0)))], [(a1, genC g1), (C1, frC (fl0 (.ref rw) (.int 2 ta1)))], [(a2, genC g2), (C2, frC (fl0 (.ref sh) (.int 1 ta2)))], [(a3, genC g3), (C3, frC (fl0 (.ref sh) (.int 2 ta3)))], [(a4, genC g4), (C4, frC (fl0 (.ref sh) (.str "3" ta4)))], [(g0, IsFresh (rEnv C0 fr cr))], [(g1, IsFresh (rEnv C1 fr cr))], [(g2, IsFresh (rEnv C2 fr cr))], [(g3, IsFresh (rEnv C3 fr cr))], [(g4, IsFresh (rEnv C4 fr cr))],
      .inl ⟨C0, g0, ta0, rfl, rfl, rfl, rfl⟩, .inl ⟨C1, g1, ta1, rfl, rfl, rfl, rfl⟩, .inl ⟨C2, g2, ta2, rfl, rfl, rfl⟩, .inl ⟨C3, g3, ta3, rfl, rfl, rfl⟩, .inl ⟨C4, g4, ta4, rfl, rfl, rfl⟩, rfl, rfl⟩, ?_⟩
    have pm := permBy (C, frC [(("script" : Str), vE (.ref l)), (("rows" : Str), vE (.ref rw)), (("own" : Str), vE (.ref ow)), (("shared" : Str), vE (.ref sh)), (("place" : Str), vE (.ref qS)), (("readers" : Str), vE (.ref R)), (("plains" : Str), vE (.ref P))]) [(P, lstV [.ref p0, .ref p1, .ref p2, .ref p3, .ref p4]), (p4, pnC "" qS false), (p3, pnC "+" qS false), (p2, pnC "-" qS false), (p1, pnC "+" q1 false), (q1, plC (some 0)), (p0, pnC "-" q0 false), (q0, plC (some 0)), (R, lstV [.ref a0, .ref a1, .ref a2, .ref a3, .ref a4]), (a4, genC g4), (C4, frC (fl0 (.ref sh) (.str "3" ta4))), (a3, genC g3), (C3, frC (fl0 (.ref sh) (.int 2 ta3))), (a2, genC g2), (C2, frC (fl0 (.ref sh) (.int 1 ta2))), (a1, genC g1), (C1, frC (fl0 (.ref rw) (.int 2 ta1))), (a0, genC g0), (C0, frC (fl0 (.ref rw) (.int 1 ta0))), (qS, plC (some 0)), (sh, itX rw (some 0)), (ow, lstS rows0), (rw, lstS rows0), (C, frC [(("script" : Str), vE (.ref l)), (("rows" : Str), vE (.ref rw)), (("own" : Str), vE (.ref ow)), (("shared" : Str), vE (.ref sh)), (("place" : Str), vE (.ref qS)), (("readers" : Str), vE (.ref R)), (("plains" : Str), vE (.ref P))])] (is := [0, 1, 2, 3, 4, 5, 6, 7, 8, 9, 10, 11, 12, 13, 14, 15, 16, 17, 18, 19, 20, 21, 22, 23]) (js := [23, 22, 21, 20, 19, 7, 5, 8, 0, 6, 4, 3, 2, 1, 17, 18, 15, 16, 13, 14, 11, 12, 9, 10]) (by decide)
    exact (S₁₄.perm pm.symm).gperm (permBy (g0, IsFresh (rEnv C0 fr cr)) [(g0, IsFresh (rEnv C0 fr cr)), (g1, IsFresh (rEnv C1 fr cr)), (g2, IsFresh (rEnv C2 fr cr)), (g3, IsFresh (rEnv C3 fr cr)), (g4, IsFresh (rEnv C4 fr cr))] (is := [0, 1, 2, 3, 4]) (js := [4, 3, 2, 1, 0]) (by decide))
  obtain ⟨Ls, Gs, I, S₁₅⟩ := hin
  have e1 : D.rw = rw := by rw [hD]
  have e2 : D.ow = ow := by rw [hD]
  have e3 : D.R = R := by rw [hD]
  have e4 : D.P = P := by rw [hD]
  clear hD
  refine r_seq ?_
  conv in lAt 6 => whnf
  refine r_forg (b := b) ?_
  refine r_nameE S₁₅ (by walk_at "mem") (by walk_at "mn") ?_
  have S₁₆ := S₁₅.less (P' := frC (flB D)) (.head _) .head fun o ho => frC_sub (fun a ha => by
    rw [flB, e1, e2, e3, e4] at ha
    simp only [List.mem_cons, List.not_mem_nil, or_false] at ha
    rcases ha with rfl | rfl | rfl | rfl <;> simp) ho
  refine ⟨[], 0, ns.map vI, [], (C, frC (flB D)) :: Ls, [], [], Gs,
    fun pre F H => ∃ D' W' Ls', flB D' = flB D ∧ W'.ys.length ≤ 4 + pre.length ∧ (∀ y ∈ W'.ys, Good 7 y) ∧ Inv2 fr cr D' W' Ls' H ∧ F = (C, frC (flB D)) :: Ls',
    givesI_list (hasL_base hL hI), hA.mono (by omega), S₁₆.perm (.of_eq (by simp)), ⟨D, ⟨rows0, some 0, some 0, some 0, false, false, false, false, false⟩, Ls, rfl, by decide, rows0_good, I, rfl⟩, ?_, ?_, ?_⟩
  · intro _ _ _ _ p hp
    cases hp
  · rintro pre V r u F H L₂ G₂ s e hu' ⟨D', W', Ls', hD', hz', hg', I', rfl⟩ S
    obtain ⟨x, rfl⟩ : ∃ x, V = vI x := by
      have : V ∈ ns.map vI := by rw [e]; simp
      obtain ⟨x, _, rfl⟩ := List.mem_map.mp this
      exact ⟨x, rfl⟩
    have hpl : pre.length < 63 := by
      have := congrArg List.length e
      simp only [List.length_map, List.length_append, List.length_cons] at this
      omega
    rw [← hD'] at S
    have S₀ := S.gperm (G' := H ++ G₂) List.perm_append_comm
    replace S₀ : St b s ((C, frC (flB D')) :: (Ls' ++ (L₂ ++ []))) (H ++ G₂) := S₀
    refine wpAny_assign_Name (r_store (P := vI x) S₀ (by walk_at "mem") hu' (by walk_at "set") (by walk_at "upd") fun s₁ S₁ => ?_)
    show wpAny _ _ (execs bBody (lEnv C fl cl)) _ _ _
    refine w_turn K hA hu hfr hp I' (by omega) hg' S₁ fun D'' W'' Ls'' Gs'' s' hD'' hz'' hg'' I'' S' => ?_
    refine turn_next ?_
    refine ⟨(C, frC (flB D)) :: Ls'', Gs'', ⟨D'', W'', Ls'', hD''.trans hD', ?_, hg'', I'', rfl⟩, ?_⟩
    · rw [List.length_append]; show _ ≤ 4 + (pre.length + 1); omega
    · rw [← hD']
      exact S'.gperm List.perm_append_comm
  · rintro F H s' ⟨D', W', Ls', hD', hz', hg', I', rfl⟩ S'
    have hz2 : W'.ys.length < 100 := by rw [List.length_map] at hz'; omega
    refine then_next ?_
    refine r_seq ?_
    rw [← hD'] at S'
    refine w_rounds (X := []) (GX := []) K hA hu hfr I' hz2 hg' (by simpa using S') fun W'' Ls'' Gs'' s'' hW I'' S'' => ?_
    refine then_next ?_
    refine r_seq ?_
    conv in lAt 8 => whnf
    obtain ⟨L0, L1, L2, L3, L4, G0, G1, G2, G3, G4, _, _, _, _, _, rfl, _⟩ := I''
    refine wpAny_Return_some ?_
    refine wpAny_Compare1 ?_ (by kernel_rfl)
    refine r_nameE S'' (by walk_at "mem") (by walk_at "mn") ?_
    refine r_nameE S'' (by walk_at "mem") (by walk_at "mn") ?_
    have hok : OkS W''.ys := fun y hy => (hg' y (by rw [← hW]; exact hy)).2
    refine r_eqLS S'' (.tail _ (.head _)) (.tail _ (.tail _ (.head _))) hok hok hu ?_
    refine then_ret ?_
    have e9 : decide (W''.ys = W''.ys) = true := by simp
    rw [e9]
    exact h _ ((S''.sub (List.nil_sublist _)).gsub (List.nil_sublist _))

theorem holds : PySem.Challenge.rw_dm0050_02.Holds := hd (by
  k_fill
  intro w s₀ s₁ mg mb G Y fa o pm cd doc dV kV ho hd hcd hD hmg hg args vals as hpre hlay hrd hwl hlo
  refine Ground.open G ?_
  intro T B D TE TW
  wrow_args hpre hlay hrd hwl hlo
  rename_i hL _ _ _ hI _ hlen _
  obtain ⟨fr, cr, Fr⟩ := fnAt_of T (name := "restore") (params := rParams) (body := rBody) (scope := rScope) ⟨_, List.mem_of_getElem? (i := 0) rfl, rfl, rfl, rfl, rfl⟩
  obtain ⟨ft, ct, Ft⟩ := fnAt_of T (name := "_law_told") (params := tParams) (body := tBody) (scope := tScope) ⟨_, List.mem_of_getElem? (i := 1) rfl, rfl, rfl, rfl, rfl⟩
  obtain ⟨fd, cdd, Fd⟩ := fnAt_of T (name := "_law_due") (params := dParams) (body := dBody) (scope := dScope) ⟨_, List.mem_of_getElem? (i := 2) rfl, rfl, rfl, rfl, rfl⟩
  obtain ⟨fl, cl, Fl⟩ := fnAt_of T (name := "law") (params := lParams) (body := lBody) (scope := lScope) ⟨_, List.mem_of_getElem? (i := 3) rfl, rfl, rfl, rfl, rfl⟩
  obtain rfl : fl = fa := by
    have := Fl.at_.symm.trans hmg
    cases this; rfl
  refine law02 ⟨bs_of T, by decide +kernel, by decide +kernel, Fr, Ft, Fd⟩ Fl (T.seer (by decide +kernel)) hL hI (by omega) ?_ ?_
  · exact ⟨fun _ _ e => e, fun _ h => (nomatch h), List.Pairwise.nil, rfl, .of_eq hg, fun _ h => (nomatch h), List.Pairwise.nil⟩
  · intro s' S'
    exact ⟨.inl ⟨_, .bool true, [], rfl, fun _ => rfl, .bool true, by kernel_rfl, fun _ => ⟨List.Pairwise.nil, fun _ h => (nomatch h)⟩⟩, .of_keep S'.keep, S'.os, S'.bare⟩)
end Mine

open PySem PySem.W PyProof.Rows
theorem PySem.Challenge.cw_dm0050_02_holds : PySem.Challenge.rw_dm0050_02.Holds :=
  Mine.holds
