import PyProof.Rows.All
import Wide.All
import OpenK.AllK
import Wide.FinOn
import PySem.Challenge.RW_dm0050_04
-- part Lg
open PySem PySem.W PyProof.Rows PySem.Calls
set_option Elab.async false
namespace Mine

/-! the ledger: what the call has made, address by address, each with a word about the object there -/
abbrev Cell := Obj → Prop
abbrev Ledger := List (Addr × Cell)
abbrev GLedger := List (Nat × (GenState → Prop))

structure St (b s : Shared) (L : Ledger) (G : GLedger) : Prop where
  keep : ∀ a o, b.heap.get? a = some o → s.heap.get? a = some o
  own : ∀ p ∈ L, b.heap.get? p.1 = none ∧ ∃ o, s.heap.get? p.1 = some o ∧ p.2 o
  nodup : (L.map (·.1)).Nodup
  os : s.os = b.os
  bare : AllBare s.gens
  gens : ∀ p ∈ G, ∃ gs, s.gens[p.1]? = some gs ∧ p.2 gs
  gnodup : (G.map (·.1)).Nodup

inductive Upd {α β : Type} : List (α × β) → α → β → List (α × β) → Prop
  | head {a P P' r} : Upd ((a, P) :: r) a P' ((a, P') :: r)
  | tail {e a P' r r'} : Upd r a P' r' → Upd (e :: r) a P' (e :: r')

theorem Upd.keys {α β : Type} {L L' : List (α × β)} {a : α} {P' : β} (u : Upd L a P' L') : L'.map (·.1) = L.map (·.1) := by
  induction u with
  | head => rfl
  | tail _ ih => simp [ih]
theorem Upd.has {α β : Type} {L L' : List (α × β)} {a : α} {P' : β} (u : Upd L a P' L') : ∃ P, (a, P) ∈ L := by
  induction u with
  | head => exact ⟨_, .head _⟩
  | tail _ ih => exact let ⟨P, h⟩ := ih; ⟨P, .tail _ h⟩
theorem Upd.mem {α β : Type} {L L' : List (α × β)} {a : α} {P' : β} (u : Upd L a P' L') (hn : (L.map (·.1)).Nodup) : ∀ p ∈ L', p = (a, P') ∨ (p ∈ L ∧ p.1 ≠ a) := by
  induction u with
  | @head a P P' r =>
    intro p hp
    rcases List.mem_cons.mp hp with rfl | hp
    · exact .inl rfl
    · refine .inr ⟨.tail _ hp, fun e => ?_⟩
      have := (List.nodup_cons.mp hn).1
      exact this (List.mem_map.mpr ⟨p, hp, e⟩)
  | @tail e a P' r r' u ih =>
    intro p hp
    rcases List.mem_cons.mp hp with rfl | hp
    · by_cases h : p.1 = a
      · exfalso
        obtain ⟨P, hm⟩ := u.has
        exact (List.nodup_cons.mp hn).1 (List.mem_map.mpr ⟨_, hm, h.symm⟩)
      · exact .inr ⟨.head _, h⟩
    · rcases ih (List.nodup_cons.mp hn).2 p hp with h | ⟨h, h'⟩
      · exact .inl h
      · exact .inr ⟨.tail _ h, h'⟩

section
variable {b s s' : Shared} {L L' : Ledger} {G G' : GLedger}

theorem St.get (S : St b s L G) {a : Addr} {P : Cell} (h : (a, P) ∈ L) : ∃ o, s.heap.get? a = some o ∧ P o := (S.own _ h).2
theorem St.lt (S : St b s L G) {a : Addr} {P : Cell} (h : (a, P) ∈ L) : a < s.heap.objs.size := let ⟨_, e, _⟩ := S.get h; Heap.lt_size e

theorem St.keeps (S : St b s L G) (hk : ∀ a o, s.heap.get? a = some o → s'.heap.get? a = some o) (hg : s'.gens = s.gens := by rfl) (ho : s'.os = s.os := by rfl) : St b s' L G :=
  ⟨fun a o e => hk a o (S.keep a o e), fun p hp => ⟨(S.own p hp).1, let ⟨o, e, h⟩ := (S.own p hp).2; ⟨o, hk _ _ e, h⟩⟩, S.nodup, ho.trans S.os, hg ▸ S.bare, fun p hp => hg ▸ S.gens p hp, S.gnodup⟩

theorem St.new (S : St b s L G) {a : Addr} {o : Obj} {P : Cell} (hn : s.heap.get? a = none) (hk : ∀ a o, s.heap.get? a = some o → s'.heap.get? a = some o) (ha : s'.heap.get? a = some o) (hP : P o)
    (hg : s'.gens = s.gens := by rfl) (ho : s'.os = s.os := by rfl) : St b s' ((a, P) :: L) G := by
  have S' := S.keeps hk hg ho
  have hb : b.heap.get? a = none := by
    cases e : b.heap.get? a with
    | none => rfl
    | some o' => rw [S.keep _ _ e] at hn; cases hn
  refine ⟨S'.keep, fun p hp => ?_, ?_, S'.os, S'.bare, S'.gens, S'.gnodup⟩
  · rcases List.mem_cons.mp hp with rfl | hp
    · exact ⟨hb, o, ha, hP⟩
    · exact S'.own p hp
  · refine List.nodup_cons.mpr ⟨fun hm => ?_, S.nodup⟩
    obtain ⟨p, hp, rfl⟩ := List.mem_map.mp hm
    obtain ⟨_, o', e, _⟩ := S.own p hp
    rw [hn] at e; cases e

theorem heap_get_size (h : Heap) : h.get? h.objs.size = none := by
  cases e : h.get? h.objs.size with
  | none => rfl
  | some o => exact absurd (Heap.lt_size e) (Nat.lt_irrefl _)

theorem St.alloc (S : St b s L G) {o : Obj} {P : Cell} (hP : P o) (tk : Nat := s.toks) (hf : o.isFreed = false := by rfl) : St b { s with heap := s.heap.push o, toks := tk } ((s.heap.objs.size, P) :: L) G :=
  S.new (heap_get_size _) (fun _ _ e => Heap.get?_push_of_some _ e) (Heap.get?_push_size _ hf) hP

theorem St.sub (S : St b s L G) (h : L'.Sublist L) : St b s L' G :=
  ⟨S.keep, fun p hp => S.own p (h.subset hp), (h.map _).nodup S.nodup, S.os, S.bare, S.gens, S.gnodup⟩
theorem St.perm (S : St b s L G) (h : L'.Perm L) : St b s L' G :=
  ⟨S.keep, fun p hp => S.own p (h.subset hp), (h.map _).nodup_iff.mpr S.nodup, S.os, S.bare, S.gens, S.gnodup⟩
theorem St.gsub (S : St b s L G) (h : G'.Sublist G) : St b s L G' :=
  ⟨S.keep, S.own, S.nodup, S.os, S.bare, fun p hp => S.gens p (h.subset hp), (h.map _).nodup S.gnodup⟩

theorem St.set (S : St b s L G) {a : Addr} {P' : Cell} (u : Upd L a P' L') (ha : ∃ P, (a, P) ∈ L) {h' : Heap} (hs : Heap.ExtBut a s.heap h') {o : Obj} (hget : h'.get? a = some o) (hP : P' o) (tk : Nat := s.toks) :
    St b { s with heap := h', toks := tk } L' G := by
  obtain ⟨P, hm⟩ := ha
  have hb := (S.own _ hm).1
  refine ⟨fun c oc e => hs c oc (fun h => ?_) (S.keep c oc e), fun p hp => ?_, by rw [u.keys]; exact S.nodup, S.os, S.bare, S.gens, S.gnodup⟩
  · subst h; rw [hb] at e; cases e
  · rcases u.mem S.nodup p hp with rfl | ⟨h, hne⟩
    · exact ⟨hb, o, hget, hP⟩
    · obtain ⟨h1, op, e, hq⟩ := S.own p h
      exact ⟨h1, op, hs _ _ hne e, hq⟩


theorem St.weaken (S : St b s L G) {a : Addr} {P' : Cell} (u : Upd L a P' L') (hP : ∀ P o, (a, P) ∈ L → P o → P' o) : St b s L' G := by
  obtain ⟨P, hm⟩ := u.has
  obtain ⟨o, e, h⟩ := S.get hm
  exact S.set u ⟨P, hm⟩ (Heap.ExtBut.refl _ _) e (hP P o hm h)
end

/-! values, by what is known of them -/
abbrev VP := Value → Prop
def vE (v : Value) : VP := fun y => y = v
def vI (i : Int) : VP := fun y => ∃ t, y = .int i t
def vS (x : Str) : VP := fun y => ∃ t, y = .str x t

/-! a frame, by the names that are known in it -/
def frC (fl : List (Str × VP)) : Cell := fun o => ∃ es ep, o.data = .dict es ep ∧ StrKeys es ∧ ∀ p ∈ fl, ∃ v, nsFind es p.1 = some v ∧ p.2 v

theorem frC_ns {fl : List (Str × VP)} {h : Heap} {a : Addr} {o : Obj} (ho : h.get? a = some o) (hc : frC fl o) : ∃ m, h.Ns a m ∧ ∀ p ∈ fl, ∃ v, m p.1 = some v ∧ p.2 v :=
  let ⟨es, ep, hd, hk, hf⟩ := hc
  ⟨fun x => nsFind es x, ⟨o, es, ep, ho, hd, hk, fun _ => rfl⟩, hf⟩
theorem frC_of {fl : List (Str × VP)} {h : Heap} {a : Addr} {m : Str → Option Value} (hn : h.Ns a m) (hf : ∀ p ∈ fl, ∃ v, m p.1 = some v ∧ p.2 v) : ∃ o, h.get? a = some o ∧ frC fl o :=
  let ⟨o, es, ep, ho, hd, hk, hm⟩ := hn
  ⟨o, ho, es, ep, hd, hk, fun p hp => let ⟨v, e, hv⟩ := hf p hp; ⟨v, (hm _).trans e, hv⟩⟩

/-- a name stored -/
inductive SetN : List (Str × VP) → Str → VP → List (Str × VP) → Prop
  | nil {x P} : SetN [] x P [(x, P)]
  | hit {x P P' r} (h : (r.all fun p => !(p.1 == x)) = true) : SetN ((x, P) :: r) x P' ((x, P') :: r)
  | skip {y P x P' r r'} (h : (y == x) = false) : SetN r x P' r' → SetN ((y, P) :: r) x P' ((y, P) :: r')
theorem SetN.mem {fl fl' : List (Str × VP)} {x : Str} {P' : VP} (u : SetN fl x P' fl') : ∀ p ∈ fl', p = (x, P') ∨ (p ∈ fl ∧ p.1 ≠ x) := by
  induction u with
  | nil => intro p hp; exact .inl (List.mem_singleton.mp hp)
  | @hit x P P' r h =>
    intro p hp
    rcases List.mem_cons.mp hp with rfl | hp
    · exact .inl rfl
    · refine .inr ⟨.tail _ hp, fun e => ?_⟩
      have := List.all_eq_true.mp h p hp
      simp [e] at this
  | @skip y P₀ x P' r r' h u ih =>
    intro p hp
    rcases List.mem_cons.mp hp with rfl | hp
    · exact .inr ⟨.head _, by simpa using h⟩
    · rcases ih p hp with h | ⟨h, h'⟩
      · exact .inl h
      · exact .inr ⟨.tail _ h, h'⟩

section
variable {prog : Program} {w : World} {A : Around} {E : Value → Shared → Prop} {b s : Shared} {L L' : Ledger} {G : GLedger} {env : Env}

theorem r_load {x : Str} {fl : List (Str × VP)} {P : VP} {Q : Value → Shared → Prop} (S : St b s L G) (hf : (env.locals, frC fl) ∈ L) (hx : (x, P) ∈ fl) (h : ∀ v, P v → Q v s)
    (hk : env.scope.kind = .function := by kernel_rfl) (hl : env.kindOf x = some .local := by kernel_rfl) : wpAny (model prog w) A (loadName env x) Q E s := by
  obtain ⟨o, ho, hc⟩ := S.get hf
  obtain ⟨m, hn, hm⟩ := frC_ns ho hc
  obtain ⟨v, e, hv⟩ := hm _ hx
  exact wpAny_loadName_local hk hl hn e (h v hv)

theorem r_store {x : Str} {fl fl' : List (Str × VP)} {v : Value} {P : VP} {Q : Unit → Shared → Prop} (S : St b s L G) (hf : (env.locals, frC fl) ∈ L) (hv : P v) (hs : SetN fl x P fl') (hu : Upd L env.locals (frC fl') L')
    (h : ∀ s', St b s' L' G → Q () s') (hl : env.kindOf x = some .local := by kernel_rfl)
    (hp : (env.scope.kind == .class || (env.scope.kind == .module && env.locals != env.globals)) = false := by kernel_rfl) : wpAny (model prog w) A (storeName env x v) Q E s := by
  obtain ⟨o, ho, hc⟩ := S.get hf
  obtain ⟨m, hn, hm⟩ := frC_ns ho hc
  refine wpAny_storeName_local hl hn (fun h' hn' hsb => ?_) hp
  obtain ⟨o', ho', hc'⟩ := frC_of (fl := fl') hn' (fun p hp => by
    rcases hs.mem p hp with rfl | ⟨hp', hne⟩
    · exact ⟨v, by simp, hv⟩
    · obtain ⟨u, e, hu⟩ := hm p hp'
      exact ⟨u, by simp [hne, e], hu⟩)
  exact h _ (S.set hu ⟨_, hf⟩ hsb.extBut ho' hc' _)
end
end Mine

-- part Lg2
open PySem PySem.W PyProof.Rows PySem.Calls
set_option Elab.async false
set_option maxRecDepth 100000
namespace Mine

/-- what is known of the heap ahead of the call -/
structure Bs (b : Shared) (mg mb : Str → Option Value) (names : List Str) : Prop where
  g : b.heap.Ns mainGlobals mg
  bn : b.heap.Ns builtinsNs mb
  nolimit : b.heap.NoLimit
  builtins : ∀ x : Str, x ≠ "__name__" → mb x = bootBuiltins x
  free : ∀ x : Str, x ∉ names → mg x = none

/-- a def of the text's, at its place -/
structure FnAt (b : Shared) (mg : Str → Option Value) (f : Addr) (name : Str) (params : Arguments) (body : List Stmt) (scope : Scope) (cd : Value) : Prop where
  at_ : mg name = some (.ref f)
  obj : ∃ o pm doc, b.heap.get? f = some o ∧ o.data = .func (docDef name params body scope pm cd doc)
  code : b.heap.CodeRec cd name

abbrev lstObj (vs : Array Value) (n : Nat) : Obj := { cls := .type "list", data := .seq vs n }
abbrev tupObj (vs : Array Value) (n : Nat) : Obj := { cls := .type "tuple", data := .seq vs n }
def lstV (vs : List Value) : Cell := fun o => ∃ n, o = lstObj vs.toArray n
def tupV (vs : List Value) : Cell := fun o => ∃ n, o = tupObj vs.toArray n
def tupS (ys : List Str) : Cell := fun o => ∃ vs n, o = tupObj vs n ∧ StrsAre vs.toList ys
def lstS (ys : List Str) : Cell := fun o => ∃ vs n, o = lstObj vs n ∧ StrsAre vs.toList ys
theorem lst_push {vs : Array Value} {n : Nat} (f : Array Value → Array Value) : ∃ n', (lstObj vs n).mapSeq f = lstObj (f vs) n' := ⟨_, rfl⟩

section
variable {prog : Program} {w : World} {A : Around} {E : Value → Shared → Prop} {b s : Shared} {L L' : Ledger} {G : GLedger} {env : Env} {mg mb : Str → Option Value} {names : List Str}

theorem St.push (S : St b s L G) (o : Obj) (tk : Nat) : St b { s with heap := s.heap.push o, toks := tk } L G := S.keeps fun _ _ e => Heap.get?_push_of_some _ e
theorem St.toks (S : St b s L G) (tk : Nat) : St b { s with toks := tk } L G := S.keeps fun _ _ e => e
theorem St.tup (S : St b s L G) {a : Addr} {ys : List Str} (h : (a, tupS ys) ∈ L) : ∃ vs, IsTup s.heap a vs ∧ StrsAre vs.toList ys :=
  let ⟨_, e, vs, n, ho, hs⟩ := S.get h; ⟨vs, ⟨_, ho ▸ e, rfl, n, rfl⟩, hs⟩
theorem St.lst (S : St b s L G) {a : Addr} {ys : List Str} (h : (a, lstS ys) ∈ L) : ∃ vs, s.heap.IsList a vs ∧ StrsAre vs.toList ys :=
  let ⟨_, e, vs, n, ho, hs⟩ := S.get h; ⟨vs, ⟨_, ho ▸ e, rfl, n, rfl⟩, hs⟩
theorem St.lstv (S : St b s L G) {a : Addr} {vs : List Value} (h : (a, lstV vs) ∈ L) : s.heap.IsList a vs.toArray :=
  let ⟨_, e, n, ho⟩ := S.get h; ⟨_, ho ▸ e, rfl, n, rfl⟩

theorem r_name {x : Str} {pos : Pos} {fl : List (Str × VP)} {P : VP} {Q : Value → Shared → Prop} (S : St b s L G) (hf : (env.locals, frC fl) ∈ L) (hx : (x, P) ∈ fl) (h : ∀ v, P v → Q v s)
    (hk : env.scope.kind = .function := by kernel_rfl) (hl : env.kindOf x = some .local := by kernel_rfl) (hd : (x == ("__debug__" : Str)) = false := by decide) :
    wpAny (model prog w) A (eval (.Name x pos) env) Q E s := wpAny_Name (r_load S hf hx h hk hl) hd
theorem r_bname {x : Str} {pos : Pos} {v : Value} {Q : Value → Shared → Prop} (B : Bs b mg mb names) (S : St b s L G) (hv : bootBuiltins x = some v) (h : Q v s)
    (hfree : x ∉ names := by decide) (hn : x ≠ "__name__" := by decide) (hg : env.globals = mainGlobals := by kernel_rfl) (hb : env.builtins = builtinsNs := by kernel_rfl)
    (hk : env.scope.kind = .function := by kernel_rfl) (hx : env.kindOf x = some .globalImplicit := by kernel_rfl) (hd : (x == ("__debug__" : Str)) = false := by decide) :
    wpAny (model prog w) A (eval (.Name x pos) env) Q E s :=
  Name_function_global hk hx (loadGlobal_builtin (hg ▸ B.g.keeps S.keep) (B.free x hfree) (hb ▸ B.bn.keeps S.keep) ((B.builtins x hn).trans hv) h) hd
theorem r_gname {x : Str} {pos : Pos} {v : Value} {Q : Value → Shared → Prop} (B : Bs b mg mb names) (S : St b s L G) (hv : mg x = some v) (h : Q v s)
    (hg : env.globals = mainGlobals := by kernel_rfl) (hk : env.scope.kind = .function := by kernel_rfl) (hx : env.kindOf x = some .globalImplicit := by kernel_rfl) (hd : (x == ("__debug__" : Str)) = false := by decide) :
    wpAny (model prog w) A (eval (.Name x pos) env) Q E s :=
  Name_function_global hk hx (loadGlobal_global (hg ▸ B.g.keeps S.keep) hv h) hd

theorem r_int {i : Int} {k : Nat} {pos : Pos} {Q : Value → Shared → Prop} (S : St b s L G) (h : ∀ t s', St b s' L G → Q (.int i t) s') : wpAny (model prog w) A (eval (.Constant (.int i) k pos) env) Q E s :=
  wpAny_Constant_int (h _ _ (S.toks _))
theorem r_str {x : Str} {k : Nat} {pos : Pos} {Q : Value → Shared → Prop} (S : St b s L G) (h : ∀ t s', St b s' L G → Q (.str x t) s') : wpAny (model prog w) A (eval (.Constant (.str x) k pos) env) Q E s :=
  Constant_str (h _ _ (S.toks _))

theorem r_newList {vs : List Value} {P : Cell} {Q : Value → Shared → Prop} (S : St b s L G) (hP : P (lstObj vs.toArray 0)) (h : ∀ a s', St b s' ((a, P) :: L) G → Q (.ref a) s') (hz : vs.length ≤ sizeLine := by first | decide | size_fits) :
    wpAny (model prog w) A (newList vs) Q E s :=
  wpAny_newObj_type (h _ _ (S.alloc hP)) (by show vs.toArray.size ≤ sizeLine; rw [List.size_toArray]; exact hz)
theorem r_newTuple {vs : List Value} {P : Cell} {Q : Value → Shared → Prop} (S : St b s L G) (hP : P (tupObj vs.toArray 0)) (h : ∀ a s', St b s' ((a, P) :: L) G → Q (.ref a) s') (hz : vs.length ≤ sizeLine := by first | decide | size_fits) :
    wpAny (model prog w) A (newTuple vs) Q E s :=
  wpAny_newObj_type (h _ _ (S.alloc hP)) (by show vs.toArray.size ≤ sizeLine; rw [List.size_toArray]; exact hz)
theorem lstV_mk {vs : List Value} : lstV vs (lstObj vs.toArray 0) := ⟨0, rfl⟩
theorem lstS_mk {vs : List Value} {ys : List Str} (hs : StrsAre vs ys) : lstS ys (lstObj vs.toArray 0) := ⟨_, 0, rfl, by simpa using hs⟩
theorem tupS_mk {vs : List Value} {ys : List Str} (hs : StrsAre vs ys) : tupS ys (tupObj vs.toArray 0) := ⟨_, 0, rfl, by simpa using hs⟩
theorem tupV_mk {vs : List Value} : tupV vs (tupObj vs.toArray 0) := ⟨0, rfl⟩

theorem r_slice_ns {value : Expr} {p pos : Pos} {upper : Expr} {Q : Value → Shared → Prop}
    (h : wpAny (model prog w) A (eval value env) (fun o s₁ => ∃ x t, o = .str x t ∧ x.length ≤ sizeLine ∧ wpAny (model prog w) A (eval upper env) (fun u s₂ => ∃ j tj, u = .int j tj ∧
      ∃ L G, St b s₂ L G ∧ ∀ s' t', St b s' L G → Q (.str (Txt.slice x none (some j)) t') s') E s₁) E s)
    (ht : ∀ o r, letTemporaryGo value o r = pure () := by intro _ _; rfl) :
    wpAny (model prog w) A (eval (.Subscript value (.Slice none (some upper) none p) pos) env) Q E s := by
  refine wpAny_Subscript_str_slice (wpAny_mono h (fun o s₁ h₁ => ?_) fun _ _ x => x) ht
  obtain ⟨x, t, rfl, hx, h₁⟩ := h₁
  refine wpAny_evalPart_none (wpAny_evalPart_some (wpAny_mono h₁ (fun u s₂ h₂ => ?_) fun _ _ x => x))
  obtain ⟨j, tj, rfl, L, G, S, hQ⟩ := h₂
  refine ⟨x, t, none, some (j, tj), rfl, rfl, rfl, ?_⟩
  exact post_val_or_str ⟨Nat.le_trans (Txt.slice_le x none (some j)) hx, fun t' k => hQ _ t' (S.push _ k)⟩
theorem r_slice_sn {value : Expr} {p pos : Pos} {lower : Expr} {Q : Value → Shared → Prop}
    (h : wpAny (model prog w) A (eval value env) (fun o s₁ => ∃ x t, o = .str x t ∧ x.length ≤ sizeLine ∧ wpAny (model prog w) A (eval lower env) (fun u s₂ => ∃ j tj, u = .int j tj ∧
      ∃ L G, St b s₂ L G ∧ ∀ s' t', St b s' L G → Q (.str (Txt.slice x (some j) none) t') s') E s₁) E s)
    (ht : ∀ o r, letTemporaryGo value o r = pure () := by intro _ _; rfl) :
    wpAny (model prog w) A (eval (.Subscript value (.Slice (some lower) none none p) pos) env) Q E s := by
  refine wpAny_Subscript_str_slice (wpAny_mono h (fun o s₁ h₁ => ?_) fun _ _ x => x) ht
  obtain ⟨x, t, rfl, hx, h₁⟩ := h₁
  refine wpAny_evalPart_some (wpAny_mono h₁ (fun u s₂ h₂ => ?_) fun _ _ x => x)
  obtain ⟨j, tj, rfl, L, G, S, hQ⟩ := h₂
  refine wpAny_evalPart_none ?_
  refine ⟨x, t, some (j, tj), none, rfl, rfl, rfl, ?_⟩
  exact post_val_or_str ⟨Nat.le_trans (Txt.slice_le x (some j) none) hx, fun t' k => hQ _ t' (S.push _ k)⟩
end
end Mine

-- part RG
open PySem PySem.W PySem.W.X PyProof.Rows PySem.Calls
set_option Elab.async false
set_option maxRecDepth 100000
namespace Mine

/-! the text's own parts, by their places -/
def rDef : Stmt := match PySem.Challenge.pw_dm0050_04.main.body with | _ :: d :: _ => d | _ => .Pass default
def rBody : List Stmt := match rDef with | .FunctionDef _ _ b .. => b | _ => []
def rScope : Scope := match rDef with | .FunctionDef _ _ _ _ _ _ sc .. => sc | _ => default
def rParams : Arguments := match rDef with | .FunctionDef _ a .. => a | _ => default
def rForS : Stmt := match rBody with | [_, _, f] => f | _ => .Pass default
def rTarget : Expr := match rForS with | .For t .. => t | _ => default
def rLoop : List Stmt := match rForS with | .For _ _ b .. => b | _ => []
def rTest : Expr := match rLoop with | [.If t ..] => t | _ => default
def rYield : Expr := match rLoop with | [.If _ [.Expr (.Yield (some e) _) _] ..] => e | _ => default

abbrev rEnv (C f : Addr) (cd : Value) : Env := envOf "restore" rScope C f cd
abbrev FL (it : Value) (env : Env) : Code := .forLoop rTarget it rLoop [] env

section
variable {prog : Program} {w : World} {A : Around} {s : Shared} {P : End → Shared → Prop} {c : Code} {fs : List Frame}

theorem sx_wrap {α : Type} {m : Sem α} {K : α → Sem Fin} {H : Value → Sem Fin} {gd lv}
    (h : wpAny (model prog w) (A.over c fs) m (fun a s' => SegX (model prog w) A c (K a) fs s' P) (fun x s' => SegX (model prog w) A c (H x) fs s' P) s) :
    SegX (model prog w) A c (m.wrap K H gd lv) fs s P := by
  rintro Γ p rfl hΓ
  obtain ⟨e, s', hr, hq⟩ := runs_wrap_of_wp (Φ := fun e s' => e.quiet = true ∧ P e s') K H gd lv m (h (Γ.over fs) p (hΓ.over fs)) (fun a p' s' h' => h' Γ p' rfl hΓ) (fun x p' s' h' => h' Γ p' rfl hΓ)
  exact ⟨e, s', hr, hq⟩
theorem sx_at {q : Pos} {k : Unit → Sem Fin} (h : SegX (model prog w) A c (k ()) fs s P) : SegX (model prog w) A c (.at q k) fs s P :=
  s_skim prog w A c fs P s (.at q k) 1 h
theorem sx_point {l : List Value} {k : Unit → Sem Fin} (h : SegX (model prog w) A c (k ()) fs s P) : SegX (model prog w) A c (.point l k) fs s P :=
  s_skim prog w A c fs P s (.point l k) 1 h
theorem bind_wrap {α β γ : Type} (m : Sem α) (f : α → Sem β) (K : β → Sem γ) (H : Value → Sem γ) (gd lv) : (m >>= f).wrap K H gd lv = m.wrap (fun a => (f a).wrap K H gd lv) H gd lv := by
  rw [Sem.bind_eq_wrap', Sem.wrap_wrap]; rfl
end

/-- the frame of the def under its loop -/
def fsR (env : Env) (p : Pos) : List Frame :=
  [.ret (fun r => ((match r with | .ok f => (.pure f : Sem Flow) | .error e => .raise e).onRaise fun (x : Value) => do
        if (← field x 1) == Value.none then unsupported "frame.own-activation:exception-without-traceback"
        setFlight x env.frame).wrap (fun (f : Flow) => match f with | .next => (execs [] env).wrap (fun (f : Flow) => .pure (.done (.ret (match f with | .ret v => v | _ => .none)))) (fun e => (leaving env e).wrap (fun _ => .raise e) .raise id id) id id | f => .pure (.done (.ret (match f with | .ret v => v | _ => .none))))
          (fun e => (leaving env e).wrap (fun _ => .raise e) .raise id id) id id) none false [] (.func rBody env) p []]

def AtLoop (it : Value) (env : Env) (gs : GenState) : Prop :=
  ∃ k l p p', gs = .suspended k l (FL it env) p (fsR env p') false ∧ k (.send .none) = .pure (.again (FL it env))

section
variable {prog : Program} {w : World} {A : Around} {s : Shared} {P : End → Shared → Prop} {env : Env}

theorem sx_done {c : Code} {p : Pos} (h : P (.ret (.ok (.ret .none))) s) : SegX (model prog w) A c (leafOf (.ok .next)) (fsR env p) s P := by
  refine s_pop _ _ _ _ _ _ s (.ok .next) _ rfl _ _ _ _ _ _ _ ?_
  exact s_end _ _ _ _ _ s (.ok (.ret .none)) _ rfl h

def rRaise (env : Env) (x : Value) : Sem Fin := (do noteFrame x env; theTreesLotGoes x : Sem Unit).bind fun _ => .raise x

theorem rLoop_eq : ∃ a b c, rLoop = [.If rTest [.Expr (.Yield (some rYield) a) b] [] c] := ⟨_, _, _, rfl⟩

/-- one turn of the loop -/
theorem sx_turn {it : Value} {p : Pos}
    (h : wpAny (model prog w) (A.over (FL it env) (fsR env p)) (pyNext it) (fun r s₁ => match r with
      | none => P (.ret (.ok (.ret .none))) s₁
      | some v => wpAny (model prog w) (A.over (FL it env) (fsR env p)) (assign rTarget env v) (fun _ s₂ =>
          wpAny (model prog w) (A.over (FL it env) (fsR env p)) (isTrue rTest env (eval rTest env)) (fun b s₃ =>
            if b = true then wpAny (model prog w) (A.over (FL it env) (fsR env p)) (eval rYield env) (fun y s₄ =>
                ∀ e : End, AtLoop it env e.genState → e.genState.bare = true → e.result = .yielded y → P e s₄)
                (fun x s₄ => SegX (model prog w) A (FL it env) (rRaise env x) (fsR env p) s₄ P) s₃
            else SegX (model prog w) A (FL it env) (.pure (.again (FL it env))) (fsR env p) s₃ P)
            (fun x s₃ => SegX (model prog w) A (FL it env) (rRaise env x) (fsR env p) s₃ P) s₂)
            (fun x s₂ => SegX (model prog w) A (FL it env) (rRaise env x) (fsR env p) s₂ P) s₁)
      (fun x s₁ => SegX (model prog w) A (FL it env) (rRaise env x) (fsR env p) s₁ P) s)
    (hco : env.scope.isCoroutine = false := by rfl) (hi : interactive env = false := by rfl) :
    SegX (model prog w) A (FL it env) (denote table (FL it env)) (fsR env p) s P := by
  show SegX _ A _ ((forTurn rTarget it rLoop [] env).onRaise (fun x => do noteFrame x env; theTreesLotGoes x)) _ s P
  unfold forTurn
  rw [Sem.onRaise_eq_wrap, bind_wrap]
  refine sx_wrap (wpAny_standAt ?_)
  rw [bind_wrap]
  refine sx_wrap (wpAny_onRaise (wpAny_mono h (fun r s₁ h₁ => ?_) fun x s₁ hx => wpAny_standAt hx))
  cases r with
  | none =>
    refine s_again _ _ _ _ _ _ s₁ _ rfl ?_
    exact sx_done h₁
  | some v =>
    show SegX _ A _ (Sem.wrap _ _ _ _ (letOwnedTupleGo rTarget it v >>= fun _ => (assign rTarget env v >>= fun _ => execs rLoop env >>= _))) _ _ _
    rw [bind_wrap]
    refine sx_wrap (wpAny_of_eq (a := ()) rfl ?_)
    rw [bind_wrap]
    refine sx_wrap (wpAny_mono h₁ (fun _ s₂ h₂ => ?_) fun _ _ x => x)
    rw [bind_wrap]
    obtain ⟨ya, yb, yc, hloop⟩ := rLoop_eq
    have hx : execs rLoop env = execs [.If rTest [.Expr (.Yield (some rYield) ya) yb] [] yc] env := by rw [hloop]
    rw [hx, execs_cons_wrap]
    show SegX _ A _ (Sem.wrap _ _ _ _ (standAt yc >>= fun _ => (isTrue rTest env (eval rTest env) >>= fun b => if b = true then execs [.Expr (.Yield (some rYield) ya) yb] env else execs [] env))) _ _ _
    rw [bind_wrap]
    refine sx_wrap (wpAny_standAt ?_)
    rw [bind_wrap]
    refine sx_wrap (wpAny_mono h₂ (fun bb s₃ h₃ => ?_) fun _ _ x => x)
    cases bb with
    | false => rw [if_neg Bool.false_ne_true] at h₃; exact h₃
    | true =>
      rw [if_pos rfl] at h₃
      rw [if_pos rfl, execs_cons_wrap, exec_Expr env _ yb hi rfl]
      show SegX _ A _ (.at yb fun _ => ((eval rYield env >>= fun v => (standAt ya >>= fun _ => yieldOut env v)) >>= fun x => dropValue (.Yield (some rYield) ya) yb x).wrap _ _ _ _) _ _ _
      have hy : ∀ v, yieldOut env v = yieldValue v := fun v => by simp only [yieldOut, hco, Bool.false_eq_true, if_false]
      simp only [hy]
      refine sx_at ?_
      rw [bind_wrap, bind_wrap]
      refine sx_wrap (wpAny_mono h₃ (fun y s₄ h₄ => ?_) fun _ _ x => x)
      refine sx_at (s_yield _ _ _ _ _ _ _ _ _ _ rfl rfl fun q => h₄ _ ?_ rfl rfl)
      refine ⟨_, _, _, p, rfl, ?_⟩
      rfl
end
end Mine

-- part RG2
open PySem PySem.W PySem.W.X PyProof.Rows PySem.Calls
set_option Elab.async false
set_option maxRecDepth 100000
namespace Mine

section
variable {prog : Program} {w : World} {A : Around} {E : Value → Shared → Prop} {b s : Shared} {L L' : Ledger} {G : GLedger} {env : Env}

theorem rg_test {C f tp : Addr} {cd : Value} {fl : List (Str × VP)} {x tag : Str} {Q : Bool → Shared → Prop} {whole : Sem Value} (S : St b s L G) (hf : (C, frC fl) ∈ L) (hl : (("line" : Str), vS x) ∈ fl) (hp : (("prefixes" : Str), vE (.ref tp)) ∈ fl)
    (ht : (tp, tupS ["  ", tag]) ∈ L) (hx : x.length ≤ sizeLine)
    (h : ∀ s', St b s' L G → Q (([("  " : Str), tag] : List Str).any (· == Txt.slice x none (some 2))) s') : wpAny (model prog w) A (isTrue rTest (rEnv C f cd) whole) Q E s := by
  refine wpAny_isTrue_Compare1 (r_slice_ns (b := b) (r_name S hf hl fun v hv => ?_))
  obtain ⟨t, rfl⟩ := hv
  refine ⟨x, t, rfl, hx, wpAny_Constant_int ⟨2, _, rfl, L, G, S.toks _, fun s₁ t' S₁ => ?_⟩⟩
  refine r_name S₁ hf hp fun v hv => ?_
  cases hv
  obtain ⟨vs, htup, hs⟩ := S₁.tup ht
  exact in_tuple_strs htup hs (wpAny_truthy_bool (h _ S₁))

theorem rg_yield {C f : Addr} {cd : Value} {fl : List (Str × VP)} {x : Str} {Q : Value → Shared → Prop} (S : St b s L G) (hf : (C, frC fl) ∈ L) (hl : (("line" : Str), vS x) ∈ fl) (hx : x.length ≤ sizeLine)
    (h : ∀ s' t', St b s' L G → Q (.str (Txt.slice x (some 2) none) t') s') : wpAny (model prog w) A (eval rYield (rEnv C f cd)) Q E s := by
  refine r_slice_sn (b := b) (r_name S hf hl fun v hv => ?_)
  obtain ⟨t, rfl⟩ := hv
  exact ⟨x, t, rfl, hx, wpAny_Constant_int ⟨2, _, rfl, L, G, S.toks _, fun s₁ t' S₁ => h s₁ t' S₁⟩⟩
end
end Mine

-- part RG3
open PySem PySem.W PySem.W.X PyProof.Rows PySem.Calls
set_option Elab.async false
set_option maxRecDepth 100000
namespace Mine

def WakeOf (gs : GenState) (c : Code) (t : Sem Fin) (fs : List Frame) : Prop :=
  (gs = .fresh c ∧ t = denote table c ∧ fs = []) ∨ (∃ k l p cl, gs = .suspended k l c p fs cl ∧ t = k (.send .none))

section
variable {prog : Program} {w : World} {A : Around} {E : Value → Shared → Prop} {s : Shared}

theorem WakeOf.not {gs : GenState} {c : Code} {t : Sem Fin} {fs : List Frame} (h : WakeOf gs c t fs) : gs.status = .fresh ∨ gs.status = .suspended := by
  rcases h with ⟨rfl, _⟩ | ⟨_, _, _, _, rfl, _⟩
  · exact .inl rfl
  · exact .inr rfl

/-- a generator woken -/
theorem g_wake {a : Addr} {g : Nat} {gs : GenState} {Q : Fin → Shared → Prop} {c₀ : Code} {t₀ : Sem Fin} {fs₀ : List Frame} (hl : s.heap.NoLimit) (hroom : A.depth < recursionLimit) (hg : s.heap.IsGen a g) (hgs : s.gens[g]? = some gs)
    (hw : WakeOf gs c₀ t₀ fs₀)
    (hgo : SegX (model prog w) A c₀ t₀ fs₀ (s.setGen g .running) (fun e s₁ => match e.result with
      | .yielded v => Q (.done (.ret v)) (s₁.setGen g e.genState)
      | .returned v => v = .none ∧ wpAny (model prog w) A (newExc (.type "StopIteration") [] >>= fun x => (raiseNew x : Sem Unit)) (fun _ _ => False) E (s₁.setGen g e.genState)
      | .raised x => wpAny (model prog w) A (Builtin.Generator.genLeft (.ref a) x) Q E (s₁.setGen g e.genState)
      | _ => False)) :
    wpAny (model prog w) A (Builtin.Generator.genWake (.ref a) (.send .none)) Q E s := by
  unfold Builtin.Generator.genWake
  refine wpAny_bind (wpAny_holding (wpAny_genNumber hg (wpAny_bind (wpAny_genState hgs ?_))))
  have key : wpAny (model prog w) A (resume g (.send .none) >>= fun x => match x with
      | .yielded v => ret v
      | .returned v => do
        if v == .none then raiseNew (← newExc (.type "StopIteration") [])
        rule "generator.return-value"; throw (← newExc (.type "StopIteration") [v])
      | .raised e => Builtin.Generator.genLeft (.ref a) e
      | .running => do rule "generator.already-executing"; raiseError "ValueError" "generator already executing"
      | .justStarted => do rule "generator.send-to-fresh"; raiseError "TypeError" "can't send non-None value to a just-started generator"
      | .finished => do raiseNew (← newExc (.type "StopIteration") [])) Q E s := by
    show wpAny (model prog w) A (.resume g (.send .none) [] _) Q E s
    have hgs' : (gs = .fresh c₀ ∧ (Resume.send .none) = .send .none ∧ t₀ = denote table c₀ ∧ fs₀ = []) ∨ (∃ k₀ l₀ p₀ cl, gs = .suspended k₀ l₀ c₀ p₀ fs₀ cl ∧ t₀ = k₀ (.send .none)) := by
      rcases hw with ⟨h1, h2, h3⟩ | h
      · exact .inl ⟨h1, rfl, h2, h3⟩
      · exact .inr h
    refine fun Γ p hΓ => wake_any Fin prog w hgs hgs' (fun Γ => Γ.In A) (fun _ h => h) (hgo.mono fun e s₁ h Γ p hC => ?_) Γ p hΓ
    revert h
    cases e.result with
    | yielded v => intro h; exact h
    | returned v =>
      rintro ⟨rfl, h⟩
      have h := h Γ p hC
      show Sem.wp (model prog w) Γ (newExc (.type "StopIteration") [] >>= fun x => raiseNew x >>= fun _ => _) _ _ p _
      rw [Sem.wp_bind'] at h ⊢
      refine Sem.wp_mono _ Γ _ (fun x p' s' h' => ?_) (fun _ _ _ h' => h') _ _ h
      rw [Sem.wp_bind']
      exact Sem.wp_mono _ Γ _ (fun _ _ _ h'' => h''.elim) (fun _ _ _ h' => h') _ _ h'
    | raised x => intro h; exact h Γ p hC
    | running => intro h; exact h.elim
    | justStarted => intro h; exact h.elim
    | finished => intro h; exact h.elim
  rcases hw.not with e | e
  · rw [e]
    exact wpAny_bind (wpAny_roomToWake hl hroom key)
  · rw [e]
    exact wpAny_bind (wpAny_roomToWake hl hroom key)
end
end Mine

-- part RG4
open PySem PySem.W PySem.W.X PyProof.Rows PySem.Calls
set_option Elab.async false
set_option maxRecDepth 100000
namespace Mine

/-- is the row of this side -/
def keepS (tag x : Str) : Bool := ([("  " : Str), tag] : List Str).any (· == Txt.slice x none (some 2))
/-- the row without its two first signs -/
def cutS (x : Str) : Str := Txt.slice x (some 2) none
def genC (g : Nat) : Cell := fun o => ∃ nm qn, o.cls = .type "generator" ∧ o.data = .fields #[.int g 0, nm, qn] ∧ o.slots = #[]

theorem SetN.here {fl fl' : List (Str × VP)} {x : Str} {P : VP} (u : SetN fl x P fl') : (x, P) ∈ fl' := by
  induction u with
  | nil => exact .head _
  | hit => exact .head _
  | skip _ _ ih => exact .tail _ ih
theorem Upd.here {α β : Type} {L L' : List (α × β)} {a : α} {P' : β} (u : Upd L a P' L') : (a, P') ∈ L' := by
  induction u with
  | head => exact .head _
  | tail _ ih => exact .tail _ ih

section
variable {b s : Shared} {L L' : Ledger} {G G' : GLedger}
theorem St.isGen (S : St b s L G) {a : Addr} {g : Nat} (h : (a, genC g) ∈ L) : s.heap.IsGen a g :=
  let ⟨o, e, nm, qn, h1, h2, h3⟩ := S.get h; ⟨o, nm, qn, e, h1, h2, h3⟩
theorem St.setGen (S : St b s L G) {g : Nat} {P' : GenState → Prop} {gs : GenState} (u : Upd G g P' G') (hP : P' gs) (hb : gs.bare = true) : St b (s.setGen g gs) L G' := by
  obtain ⟨P, hm⟩ := u.has
  obtain ⟨gs₀, hg, _⟩ := S.gens _ hm
  refine ⟨S.keep, S.own, S.nodup, S.os, ?_, fun p hp => ?_, by rw [u.keys]; exact S.gnodup⟩
  · intro x hx
    have hx' : x ∈ s.gens.setIfInBounds g gs := hx
    rcases Array.mem_or_eq_of_mem_setIfInBounds hx' with h | h
    · exact S.bare _ h
    · rw [h]; exact hb
  · rcases u.mem S.gnodup p hp with rfl | ⟨h, hne⟩
    · refine ⟨gs, ?_, hP⟩
      have hlt : g < s.gens.size := (Array.getElem?_eq_some_iff.mp hg).1
      simp [Shared.setGen, Array.getElem?_setIfInBounds, hlt]
    · obtain ⟨gs', e, hq⟩ := S.gens p h
      exact ⟨gs', by simp [Shared.setGen, Array.getElem?_setIfInBounds, Ne.symm hne, e], hq⟩
end

section
variable {prog : Program} {w : World} {A : Around} {b s : Shared}

/-- the reader's loop, over whatever source -/
theorem rg_loop {it : Value} {C f tp : Addr} {cd : Value} {p : Pos} {tag : Str} (J : Nat → Shared → Prop) {Pend : Shared → Prop} {Py : Value → Shared → Prop}
    (hnx : ∀ n s, J n s → wpAny (model prog w) (A.over (FL it (rEnv C f cd)) (fsR (rEnv C f cd) p)) (pyNext it) (fun r s₁ => match r with
      | none => Pend s₁
      | some v => ∃ x, vS x v ∧ x.length ≤ sizeLine ∧ ∃ L G fl fl' L', St b s₁ L G ∧ (C, frC fl) ∈ L ∧ SetN fl ("line" : Str) (vS x) fl' ∧ Upd L C (frC fl') L' ∧ (("prefixes" : Str), vE (.ref tp)) ∈ fl' ∧ (tp, tupS ["  ", tag]) ∈ L' ∧
          ∀ s₂, St b s₂ L' G → if keepS tag x = true then ∀ t' s₃, St b s₃ L' G → Py (.str (cutS x) t') s₃ else ∃ m, m < n ∧ J m s₂) (fun _ _ => False) s) :
    ∀ n s, J n s → SegX (model prog w) A (FL it (rEnv C f cd)) (denote table (FL it (rEnv C f cd))) (fsR (rEnv C f cd) p) s (fun e s₁ => match e.result with
      | .yielded v => AtLoop it (rEnv C f cd) e.genState ∧ e.genState.bare = true ∧ Py v s₁
      | .returned v => v = .none ∧ e.genState = .finished ∧ Pend s₁
      | _ => False) := by
  intro n
  induction n using Nat.strongRecOn with
  | ind n ih =>
    intro s hj
    refine sx_turn (wpAny_mono (hnx n s hj) (fun r s₁ h₁ => ?_) fun _ _ x => x.elim)
    cases r with
    | none => exact ⟨rfl, rfl, h₁⟩
    | some v =>
      obtain ⟨x, hv, hx, L, G, fl, fl', L', S, hC, hs, hu, hp, ht, h₂⟩ := h₁
      refine wpAny_assign_Name (r_store S hC hv hs hu fun s₂ S₂ => ?_)
      refine rg_test S₂ hu.here hs.here hp ht hx fun s₃ S₃ => ?_
      have h₃ := h₂ s₃ S₃
      cases hk : keepS tag x with
      | true =>
        rw [hk, if_pos rfl] at h₃
        rw [if_pos (show ([("  " : Str), tag] : List Str).any (· == Txt.slice x none (some 2)) = true from hk)]
        refine rg_yield S₃ hu.here hs.here hx fun s₄ t' S₄ e ha hb hr => ?_
        rw [hr]
        exact ⟨ha, hb, h₃ t' s₄ S₄⟩
      | false =>
        rw [hk, if_neg Bool.false_ne_true] at h₃
        rw [if_neg (by rw [show ([("  " : Str), tag] : List Str).any (· == Txt.slice x none (some 2)) = false from hk]; exact Bool.false_ne_true)]
        obtain ⟨m, hm, hj'⟩ := h₃
        exact s_again _ _ _ _ _ _ _ _ rfl (ih m hm s₃ hj')
end
end Mine

-- part RG5
open PySem PySem.W PySem.W.X PyProof.Rows PySem.Calls
set_option Elab.async false
set_option maxRecDepth 100000
namespace Mine

section
variable {prog : Program} {w : World} {A : Around} {E : Value → Shared → Prop} {s : Shared}

/-- a new StopIteration, raised where nothing is handled -/
theorem w_stop {α : Type} {Q : α → Shared → Prop} (hh : A.handled = none)
    (h : ∀ e h', ({ s with heap := h' } : Shared).TypeIs (.ref e) "StopIteration" → (∀ b o, s.heap.get? b = some o → h'.get? b = some o) → E (.ref e) { s with heap := h' }) :
    wpAny (model prog w) A (newExc (.type "StopIteration") [] >>= fun x => (raiseNew x : Sem α)) Q E s := by
  refine wpAny_bind ?_
  simp only [newExc, newTuple]
  refine wpAny_bind (wpAny_newObj_type ?_ (by size_fits))
  refine wpAny_bind (m := firstArgMember _ _) (wpAny_of_eq (a := Value.none) (by first | rfl | (simp only [firstArgMember]; rfl)) ?_)
  refine wpAny_newObj_type ?_ (by size_fits)
  simp only [raiseNew]
  refine wpAny_bind (wpAny_handled ?_)
  rw [hh]
  refine wpAny_bind (wpAny_pure (wpAny_throw ?_))
  exact h _ _ ⟨_, Heap.get?_push_size _ rfl, rfl⟩ fun b o hb => Heap.get?_push_of_some _ (Heap.get?_push_of_some _ hb)

/-- the next item of a generator -/
theorem r_pyNext_gen {a : Addr} {g : Nat} {gs : GenState} {Q : Option Value → Shared → Prop} {c₀ : Code} {t₀ : Sem Fin} {fs₀ : List Frame} (hh : A.handled = none) (hl : s.heap.NoLimit) (hroom : A.depth < recursionLimit)
    (hg : s.heap.IsGen a g) (hgs : s.gens[g]? = some gs) (hw : WakeOf gs c₀ t₀ fs₀)
    (hgo : SegX (model prog w) A.in1 c₀ t₀ fs₀ (s.setGen g .running) (fun e s₁ => match e.result with
      | .yielded v => Q (some v) (s₁.setGen g e.genState)
      | .returned v => v = .none ∧ ∀ h', (∀ b o, s₁.heap.get? b = some o → h'.get? b = some o) → Q none { s₁.setGen g e.genState with heap := h' }
      | .raised x => ∃ T : String, s₁.TypeIs x T ∧ isSubtype (.type T) (.type "StopIteration") = pure false ∧ s₁.heap.IsGen a g ∧ E x (s₁.setGen g e.genState)
      | _ => False)) :
    wpAny (model prog w) A (pyNext (.ref a)) Q E s := by
  unfold pyNext
  refine wpAny_bind (wpAny_attempt (wpAny_callSpecial?_slot (name := Str.ofString "__next__") hg.typeIs slot_gen_next
    (wpAny_call_entry slot_gen_next hg.typeIs entry_gen_next ?_ (args_gen_next _))))
  show wpAny _ A.in1 (Builtin.Generator.genWake (.ref a) (.send .none)) _ _ s
  refine g_wake hl hroom hg hgs hw (hgo.mono fun e s₁ h => ?_)
  revert h
  cases e.result with
  | yielded v => intro h; exact ⟨_, rfl, wpAny_pure h⟩
  | returned v =>
    rintro ⟨rfl, h⟩
    refine ⟨rfl, w_stop hh fun x h' hT hk => ?_⟩
    refine wpAny_bind (wpAny_isInstance (T := "StopIteration") (b := true) hT isSubtype_stop ?_)
    exact wpAny_pure (h h' hk)
  | raised x =>
    rintro ⟨T, hT, hs, hg', h⟩
    obtain ⟨o, nm, qn, ho, hc, hd, hsl⟩ := hg'
    show wpAny _ A.in1 (Builtin.Generator.genLeft (.ref a) x) _ _ _
    unfold Builtin.Generator.genLeft Builtin.Generator.madeByALambda
    refine wpAny_bind (wpAny_bind (wpAny_load (o := o) ho ?_))
    rw [hc, hd]
    have hT' : (s₁.setGen g e.genState).TypeIs x T := hT
    refine wpAny_pure (wpAny_bind (wpAny_isInstance (T := T) (b := false) hT' hs ?_))
    rw [if_neg (by rw [Bool.and_false]; exact Bool.false_ne_true)]
    show wpAny _ A.in1 (Builtin.Generator.genEscaped x) _ _ _
    unfold Builtin.Generator.genEscaped
    refine wpAny_bind (wpAny_isInstance (T := T) (b := false) hT' hs ?_)
    refine wpAny_throw ?_
    refine wpAny_bind (wpAny_isInstance (T := T) (b := false) hT' hs ?_)
    exact wpAny_throw h
  | running => intro h; exact h.elim
  | justStarted => intro h; exact h.elim
  | finished => intro h; exact h.elim

/-- a generator that has ended has no next item -/
theorem r_pyNext_fin {a : Addr} {g : Nat} {Q : Option Value → Shared → Prop} (hh : A.handled = none) (hg : s.heap.IsGen a g) (hgs : s.gens[g]? = some .finished)
    (h : ∀ h', (∀ b o, s.heap.get? b = some o → h'.get? b = some o) → Q none { s with heap := h' }) :
    wpAny (model prog w) A (pyNext (.ref a)) Q E s := by
  unfold pyNext
  refine wpAny_bind (wpAny_attempt (wpAny_callSpecial?_slot (name := Str.ofString "__next__") hg.typeIs slot_gen_next
    (wpAny_call_entry slot_gen_next hg.typeIs entry_gen_next ?_ (args_gen_next _))))
  show wpAny _ A.in1 (Builtin.Generator.genWake (.ref a) (.send .none)) _ _ s
  unfold Builtin.Generator.genWake
  refine wpAny_bind (wpAny_holding (wpAny_genNumber hg (wpAny_bind (wpAny_genState hgs ?_))))
  show wpAny _ A.in1 (resume g (.send .none) >>= _) _ _ s
  refine wpAny_bind ?_
  intro Γ p hΓ
  show Sem.wp _ Γ (.resume g (.send .none) [] .pure) _ _ p s
  rw [Sem.wp_resume]
  refine ⟨.finished, s, by unfold Wakes; rw [hgs]; exact ⟨rfl, rfl⟩, ?_⟩
  show wpAny (model prog w) A.in1 (newExc (.type "StopIteration") [] >>= fun x => (raiseNew x)) _ _ s
  refine w_stop hh fun x h' hT hk => ?_
  refine wpAny_bind (wpAny_isInstance (T := "StopIteration") (b := true) hT isSubtype_stop ?_)
  exact wpAny_pure (h h' hk)
end
end Mine

-- part RG6
open PySem PySem.W PySem.W.X PyProof.Rows PySem.Calls
set_option Elab.async false
set_option maxRecDepth 100000
namespace Mine

def IsFresh (env : Env) (gs : GenState) : Prop := gs = .fresh (.func rBody env)

section
variable {b s : Shared} {L L' : Ledger} {G G' : GLedger}
theorem St.newGen (S : St b s L G) {gs : GenState} {P : GenState → Prop} (hP : P gs) (hb : gs.bare = true) : St b { s with gens := s.gens.push gs } L ((s.gens.size, P) :: G) := by
  refine ⟨S.keep, S.own, S.nodup, S.os, ?_, fun p hp => ?_, ?_⟩
  · intro x hx
    rcases Array.mem_push.mp hx with h | rfl
    · exact S.bare _ h
    · exact hb
  · rcases List.mem_cons.mp hp with rfl | hp
    · exact ⟨gs, by simp, hP⟩
    · obtain ⟨g', e, h⟩ := S.gens p hp
      have : p.1 < s.gens.size := (Array.getElem?_eq_some_iff.mp e).1
      exact ⟨g', by show (s.gens.push gs)[p.1]? = _; rw [Array.getElem?_push]; simp [Nat.ne_of_lt this, e], h⟩
  · refine List.nodup_cons.mpr ⟨fun hm => ?_, S.gnodup⟩
    obtain ⟨p, hp, e⟩ := List.mem_map.mp hm
    obtain ⟨g', e', _⟩ := S.gens p hp
    have : p.1 < s.gens.size := (Array.getElem?_eq_some_iff.mp e').1
    rw [e] at this
    exact Nat.lt_irrefl _ this
end

section
variable {prog : Program} {w : World} {A : Around} {E : Value → Shared → Prop} {b s : Shared} {L L' : Ledger} {G : GLedger} {mg mb : Str → Option Value} {names : List Str}

theorem r_restore {f : Addr} {cd v1 v2 : Value} {Q : Value → Shared → Prop} (B : Bs b mg mb names) (F : FnAt b mg f "restore" rParams rBody rScope cd) (S : St b s L G) (hroom : A.depth < recursionLimit)
    (h : ∀ a C g s', St b s' ((a, genC g) :: (C, frC [(("delta" : Str), vE v1), (("which" : Str), vE v2)]) :: L) ((g, IsFresh (rEnv C f cd)) :: G) → Q (.ref a) s') :
    wpAny (model prog w) A (call (.ref f) [v1, v2]) Q E s := by
  obtain ⟨o, pm, doc, ho, hd⟩ := F.obj
  refine wpAny_call (codeAny_call_generator hroom (S.keep _ _ ho) hd rfl rfl rfl (F.code.keeps S.keep) ?_)
  refine wpAny_of_eq (a := [(("delta" : Str), v1), (("which" : Str), v2)]) rfl ?_
  refine wpAny_newFunctionEnv (scope := rScope) (binds := [(("delta" : Str), v1), (("which" : Str), v2)]) (by decide) (locs rfl) (fun h' hn hsb => ?_) rfl
  have hlim : h'.NoLimit := (B.nolimit.keeps S.keep).fresh _ hsb
  refine ⟨hlim, ?_⟩
  have hk : ∀ a o, s.heap.get? a = some o → h'.get? a = some o := fun a o e => hsb.extBut a o (Nat.ne_of_lt (Heap.lt_size e)) (Heap.get?_push_of_some _ e)
  obtain ⟨oC, hoC, hcC⟩ := frC_of (fl := [(("delta" : Str), vE v1), (("which" : Str), vE v2)]) hn (fun p hp => by
    rcases List.mem_cons.mp hp with rfl | hp
    · exact ⟨v1, rfl, rfl⟩
    · cases List.mem_singleton.mp hp
      exact ⟨v2, rfl, rfl⟩)
  have S1 : St b { s with heap := h', toks := s.toks + 2 } ((s.heap.objs.size, frC [(("delta" : Str), vE v1), (("which" : Str), vE v2)]) :: L) G := S.new (heap_get_size _) hk hoC hcC
  have S2 := S1.newGen (gs := .fresh (.func rBody (rEnv s.heap.objs.size f cd))) (P := IsFresh (rEnv s.heap.objs.size f cd)) rfl rfl
  have S3 := S2.alloc (o := { cls := .type "generator", data := .fields #[.int s.gens.size 0, .str "restore" (s.toks + 2), .str "restore" (s.toks + 2 + 1)] }) (P := genC s.gens.size) ⟨_, _, rfl, rfl, rfl⟩ (s.toks + 2 + 1 + 1)
  exact h _ _ _ _ S3
end
end Mine

-- part RG7
open PySem PySem.W PySem.W.X PyProof.Rows PySem.Calls
set_option Elab.async false
set_option maxRecDepth 100000
namespace Mine

def rTry : Stmt := match rBody with | t :: _ => t | _ => .Pass default
def rAsg : Stmt := match rBody with | _ :: t :: _ => t | _ => .Pass default
def rIter : Expr := match rForS with | .For _ i .. => i | _ => default
theorem rBody_eq : rBody = [rTry, rAsg, rForS] := rfl
theorem rForS_eq : ∃ p, rForS = .For rTarget rIter rLoop [] p := ⟨_, rfl⟩

def rLeave (env : Env) (x : Value) : Sem Fin := (leaving env x).wrap (fun _ => .raise x) .raise id id

section
variable {prog : Program} {w : World} {A : Around} {s : Shared} {P : End → Shared → Prop} {env : Env}

theorem sx_func {body : List Stmt}
    (h : SegX (model prog w) A (.func body env) ((execs body env).wrap (fun f => .pure (.done (.ret (match f with | .ret v => v | _ => .none)))) (fun e => rLeave env e) id id) [] s P) :
    SegX (model prog w) A (.func body env) (denote table (.func body env)) [] s P := by
  show SegX _ A _ (.point [] fun _ => ((execs body env).onRaise (leaving env)) >>= _) [] s P
  refine sx_point ?_
  rw [Sem.onRaise_eq_wrap, Sem.bind_eq_wrap', Sem.wrap_wrap]
  rw [Sem.wrap_congr (execs body env) _ _ (K' := fun f => .pure (.done (.ret (match f with | .ret v => v | _ => .none))))
    (H' := fun e => (leaving env e).wrap (fun _ => .raise e) .raise id id) (fun f => by cases f <;> rfl)
    (fun e => by rw [Sem.bind_eq_wrap, Sem.wrap_wrap]; rfl)]
  exact h

/-- the reader's first turn -/
theorem sx_start
    (h : wpAny (model prog w) (A.over (.func rBody env) []) (exec rTry env) (fun f s₁ => f = .next ∧
        wpAny (model prog w) (A.over (.func rBody env) []) (exec rAsg env) (fun f s₂ => f = .next ∧
          wpAny (model prog w) (A.over (.func rBody env) []) (eval rIter env) (fun x s₃ =>
            wpAny (model prog w) (A.over (.func rBody env) []) (pyIter x) (fun it' s₄ => ∀ p, SegX (model prog w) A (FL it' env) (denote table (FL it' env)) (fsR env p) s₄ P)
              (fun _ _ => False) s₃) (fun _ _ => False) s₂) (fun _ _ => False) s₁)
        (fun x s₁ => SegX (model prog w) A (.func rBody env) (rLeave env x) [] s₁ P) s)
    (hs : ∀ x, foldedSetIterable rIter env x = pure x := by intro _; rfl) :
    SegX (model prog w) A (.func rBody env) (denote table (.func rBody env)) [] s P := by
  refine sx_func ?_
  have hb : execs rBody env = execs [rTry, rAsg, rForS] env := congrArg (fun l => execs l env) rBody_eq
  rw [hb]
  have e1 : ∀ rest (K : Flow → Sem Fin) (H : Value → Sem Fin) gd lv, (execs (rTry :: rest) env).wrap K H gd lv = (exec rTry env).wrap (fun f => match f with | .next => (execs rest env).wrap K H gd lv | f => K f) H gd lv := fun rest K H gd lv => execs_cons_wrap rTry rest
  have e2 : ∀ rest (K : Flow → Sem Fin) (H : Value → Sem Fin) gd lv, (execs (rAsg :: rest) env).wrap K H gd lv = (exec rAsg env).wrap (fun f => match f with | .next => (execs rest env).wrap K H gd lv | f => K f) H gd lv := fun rest K H gd lv => execs_cons_wrap rAsg rest
  rw [e1]
  clear e1
  generalize exec rTry env = T1 at h ⊢
  generalize exec rAsg env = T2 at h e2
  refine sx_wrap (wpAny_mono h (fun f s₁ h₁ => ?_) fun _ _ x => x)
  obtain ⟨rfl, h₁⟩ := h₁
  show SegX _ A _ (Sem.wrap _ _ _ _ (execs [rAsg, rForS] env)) _ _ _
  rw [e2]
  refine sx_wrap (wpAny_mono h₁ (fun f s₂ h₂ => ?_) fun _ _ x => x.elim)
  obtain ⟨rfl, h₂⟩ := h₂
  show SegX _ A _ (Sem.wrap _ _ _ _ (execs [rForS] env)) _ _ _
  rw [execs_cons_wrap]
  obtain ⟨fp, hF⟩ := rForS_eq
  have hx : exec rForS env = (do
    standAt fp
    let x ← foldedSetIterable rIter env (← eval rIter env)
    standAt rIter.pos
    runOwn (.forLoop rTarget (← holding [x] (pyIter x)) rLoop [] env) env) := by rw [hF]; exact exec_For ..
  rw [hx, bind_wrap]
  refine sx_wrap (wpAny_standAt ?_)
  rw [bind_wrap]
  refine sx_wrap (wpAny_mono h₂ (fun x s₃ h₃ => ?_) fun _ _ x => x.elim)
  rw [bind_wrap]
  refine sx_wrap (wpAny_of_eq (hs x) ?_)
  rw [bind_wrap]
  refine sx_wrap (wpAny_standAt ?_)
  rw [bind_wrap]
  refine sx_wrap (wpAny_holding (wpAny_mono h₃ (fun it' s₄ h₄ => ?_) fun _ _ x => x.elim))
  exact s_call _ _ _ _ _ _ _ _ _ _ _ _ h₄
end
end Mine

-- part RG8
open PySem PySem.W PySem.W.X PyProof.Rows PySem.Calls
set_option Elab.async false
set_option maxRecDepth 100000
set_option maxHeartbeats 200000
namespace Mine

/-- int(v) is n, and nothing else happens -/
def IntTo (prog : Program) (w : World) (b : Shared) (v : Value) (n : Int) : Prop :=
  ∀ (A : Around) (E : Value → Shared → Prop) (s : Shared) (L : Ledger) (G : GLedger) (Q : Value → Shared → Prop), A.handled = none → St b s L G → (∀ t s', St b s' L G → Q (.int n t) s') → wpAny (model prog w) A (call (.type "int") [v]) Q E s

theorem intTo_int {prog : Program} {w : World} {b : Shared} {n : Int} {t : Tok} : IntTo prog w b (.int n t) n := fun _ _ _ _ _ _ _ S h => call_int_int (h _ _ S)

def tagOf (n : Int) : Str := if n = 1 then "- " else "+ "

theorem rTry_eq : ∃ p1 p2 p3 p4 p5 p6 p7 p8 p9 p10 p11 p12 h, rTry = .Try [.Assign [.Name "tag" p1] (.Subscript (.Dict [some (.Constant (.int 1) 0 p2), some (.Constant (.int 2) 0 p3)] [.Constant (.str "- ") 0 p4, .Constant (.str "+ ") 0 p5] p6) (.Call (.Name "int" p7) [.Name "which" p8] [] p9) p10) p11] [h] [] [] p12 :=
  ⟨_, _, _, _, _, _, _, _, _, _, _, _, _, rfl⟩
theorem boot_int : bootBuiltins "int" = some (.type "int") := by decide +kernel

section
variable {prog : Program} {w : World} {A : Around} {E : Value → Shared → Prop} {b s : Shared} {L L' : Ledger} {G : GLedger} {mg mb : Str → Option Value} {names : List Str}

theorem rg_dict {env : Env} {Q : Value → Shared → Prop} {k1 k2 k3 k4 : Nat} {p1 p2 p3 p4 p : Pos} (B : Bs b mg mb names) (S : St b s L G)
    (h : ∀ d s', St b s' ((d, fun o => ∃ t1 t2 : Tok, ∀ h : Heap, h.get? d = some o → h.DictOf (intKind prog w) d [(1, .str "- " t1), (2, .str "+ " t2)]) :: L) G → (d == sysModules) = false → Q (.ref d) s') :
    wpAny (model prog w) A (eval (.Dict [some (.Constant (.int 1) k1 p1), some (.Constant (.int 2) k2 p2)] [.Constant (.str "- ") k3 p3, .Constant (.str "+ ") k4 p4] p) env) Q E s := by
  refine wpAny_Dict_walk (knd := intKind prog w) rfl rfl (by simp) (Nat.le_of_ble_eq_true rfl) ?_
  with_reducible refine pairTrees_cons_walk ?_
  with_reducible refine wpAny_Constant_int ?_
  with_reducible refine Constant_str ?_
  with_reducible refine pairTrees_cons_walk ?_
  with_reducible refine wpAny_Constant_int ?_
  with_reducible refine Constant_str ?_
  with_reducible refine pairTrees_nil_walk ?_
  refine display_done_int rfl (by simp [intKeyPairs]) (Heap.DictOf.new _) fun h' hd hs => ?_
  obtain ⟨o, es, ep, ho, hr⟩ := id hd
  refine h _ _ (S.new (heap_get_size _) (fun a o e => ?_) ho ⟨_, _, fun h₂ e => ⟨o, es, ep, e, hr⟩⟩) ?_
  · exact hs.extBut a o (Nat.ne_of_lt (Heap.lt_size e)) (Heap.get?_push_of_some _ e)
  · have hlt : cStatics < s.heap.objs.size := let ⟨_, hn, _⟩ := B.nolimit.keeps S.keep; hn.lt
    have : s.heap.objs.size ≠ 1 := by
      have : (2 : Nat) < s.heap.objs.size := hlt
      omega
    exact beq_eq_false_iff_ne.mpr this

theorem rg_try {C f : Addr} {cd v2 : Value} {n : Int} {fl fl' : List (Str × VP)} {Q : Flow → Shared → Prop} (B : Bs b mg mb names) (hn : n = 1 ∨ n = 2) (hI : IntTo prog w b v2 n) (hh : A.handled = none)
    (S : St b s L G) (hC : (C, frC fl) ∈ L) (hw : (("which" : Str), vE v2) ∈ fl) (hs : SetN fl ("tag" : Str) (vS (tagOf n)) fl') (hu : Upd L C (frC fl') L') (h : ∀ s', St b s' L' G → Q .next s')
    (hfree : ("int" : Str) ∉ names) :
    wpAny (model prog w) A (exec rTry (rEnv C f cd)) Q E s := by
  obtain ⟨p1, p2, p3, p4, p5, p6, p7, p8, p9, p10, p11, p12, hdl, e⟩ := rTry_eq
  rw [e]
  refine wpAny_Try_except ?_
  refine wpAny_execs_cons ?_
  refine wpAny_Assign_Name ?_
  refine Subscript_ ?_
  with_reducible refine rg_dict B S ?_
  intro d s₁ S₁ hds
  refine Call_ (r_bname B S₁ boot_int ?_ hfree)
  refine callWith_type1 (args_cons (r_name S₁ (.tail _ hC) hw fun v hv => args_nil ?_))
  cases hv
  refine hI A _ _ _ G _ hh S₁ fun t s₂ S₂ => ?_
  obtain ⟨o, ho, t1, t2, hd⟩ := S₂.get (.head _)
  have hm := (hd _ ho).mapOf
  have hv : valueAt [((1 : Int), Value.str "- " t1), (2, Value.str "+ " t2)] n = some (.str (tagOf n) (if n = 1 then t1 else t2)) := by
    rcases hn with rfl | rfl <;> rfl
  refine tail_any hm.typeIs slot_dict_getitem.lookup (wpAny_getItem_of (by simp [intKind, Value.isInt]) hm hv ?_) rfl
  refine r_store (S₂.toks _) (.tail _ hC) ⟨_, rfl⟩ hs (.tail hu) fun s₃ S₃ => ?_
  exact wpAny_execs_nil (wpAny_execs_nil (h _ (S₃.sub (.cons _ (.refl _)))))
end
end Mine

-- part RG9
open PySem PySem.W PySem.W.X PyProof.Rows PySem.Calls
set_option Elab.async false
set_option maxRecDepth 100000
set_option maxHeartbeats 1000000
namespace Mine

theorem rAsg_eq : ∃ p1 p2 p3 p4 p5, rAsg = .Assign [.Name "prefixes" p1] (.Tuple [.Constant (.str "  ") 0 p2, .Name "tag" p3] 0 p4) p5 := ⟨_, _, _, _, _, rfl⟩
theorem rIter_eq : ∃ p, rIter = .Name "delta" p := ⟨_, rfl⟩

abbrev fl0 (v1 v2 : Value) : List (Str × VP) := [(("delta" : Str), vE v1), (("which" : Str), vE v2)]
abbrev fl1 (v1 v2 : Value) (n : Int) : List (Str × VP) := [(("delta" : Str), vE v1), (("which" : Str), vE v2), (("tag" : Str), vS (tagOf n))]
abbrev fl2 (v1 v2 : Value) (n : Int) (tp : Addr) : List (Str × VP) := [(("delta" : Str), vE v1), (("which" : Str), vE v2), (("tag" : Str), vS (tagOf n)), (("prefixes" : Str), vE (.ref tp))]

/-- a cell of the ledger set, whatever the others are -/
def setL {α β : Type} [DecidableEq α] (a : α) (P : β) : List (α × β) → List (α × β)
  | [] => []
  | e :: r => if e.1 = a then (a, P) :: r else e :: setL a P r
theorem setL_upd {α β : Type} [DecidableEq α] {a : α} {P : β} : ∀ {L : List (α × β)}, (∃ P₀, (a, P₀) ∈ L) → Upd L a P (setL a P L)
  | [], ⟨_, h⟩ => nomatch h
  | (c, P₁) :: r, ⟨P₀, h⟩ => by
    unfold setL
    by_cases e : c = a
    · subst e
      rw [if_pos rfl]
      exact .head
    · rw [if_neg e]
      refine .tail (setL_upd ⟨P₀, ?_⟩)
      rcases List.mem_cons.mp h with h | h
      · cases h; exact absurd rfl e
      · exact h
theorem setL_setL {α β : Type} [DecidableEq α] {a : α} {P P' : β} : ∀ {L : List (α × β)}, setL a P' (setL a P L) = setL a P' L
  | [] => rfl
  | (c, P₁) :: r => by
    by_cases e : c = a
    · simp [setL, e]
    · simp [setL, e, setL_setL]

section
variable {prog : Program} {w : World} {A : Around} {E : Value → Shared → Prop} {b s : Shared} {L L' : Ledger} {G : GLedger} {mg mb : Str → Option Value} {names : List Str}

theorem rg_asg {C f : Addr} {cd v1 v2 : Value} {n : Int} {Q : Flow → Shared → Prop} (S : St b s L G) (hC : (C, frC (fl1 v1 v2 n)) ∈ L)
    (h : ∀ tp s', St b s' ((tp, tupS ["  ", tagOf n]) :: setL C (frC (fl2 v1 v2 n tp)) L) G → Q .next s') : wpAny (model prog w) A (exec rAsg (rEnv C f cd)) Q E s := by
  obtain ⟨p1, p2, p3, p4, p5, e⟩ := rAsg_eq
  rw [e]
  refine wpAny_Assign_Name ?_
  with_reducible refine Tuple_ ?_
  refine args_cons ?_
  refine r_str S fun t1 s₁ S₁ => ?_
  refine args_cons ?_
  refine r_name S₁ hC (.tail _ (.tail _ (.head _))) fun v hv => ?_
  obtain ⟨t2, rfl⟩ := hv
  refine args_nil ?_
  refine r_newTuple S₁ (P := tupS ["  ", tagOf n]) (tupS_mk (.cons _ _ (.cons _ _ .nil))) (fun tp s₂ S₂ => ?_)
  refine r_store (P := vE (.ref tp)) (fl' := fl2 v1 v2 n tp) S₂ (.tail _ hC) rfl (.skip (by kernel_rfl) (.skip (by kernel_rfl) (.skip (by kernel_rfl) .nil))) (.tail (setL_upd ⟨_, hC⟩)) fun s₃ S₃ => h tp s₃ S₃

/-- the reader's first turn, up to its source -/
theorem rg_begin {C f : Addr} {cd v1 v2 : Value} {n : Int} {P : End → Shared → Prop} (B : Bs b mg mb names) (hfree : ("int" : Str) ∉ names) (hn : n = 1 ∨ n = 2) (hI : IntTo prog w b v2 n) (hh : A.handled = none)
    (S : St b s L G) (hC : (C, frC (fl0 v1 v2)) ∈ L)
    (h : ∀ tp s', St b s' ((tp, tupS ["  ", tagOf n]) :: setL C (frC (fl2 v1 v2 n tp)) L) G → wpAny (model prog w) (A.over (.func rBody (rEnv C f cd)) []) (pyIter v1)
      (fun it' s₄ => ∀ p, SegX (model prog w) A (FL it' (rEnv C f cd)) (denote table (FL it' (rEnv C f cd))) (fsR (rEnv C f cd) p) s₄ P) (fun _ _ => False) s') :
    SegX (model prog w) A (.func rBody (rEnv C f cd)) (denote table (.func rBody (rEnv C f cd))) [] s P := by
  refine sx_start ?_ (by intro x; kernel_rfl)
  have hh' : (A.over (.func rBody (rEnv C f cd)) []).handled = none := hh
  have hw : (("which" : Str), vE v2) ∈ fl0 v1 v2 := .tail _ (.head _)
  have hsn : SetN (fl0 v1 v2) ("tag" : Str) (vS (tagOf n)) (fl1 v1 v2 n) := .skip (by kernel_rfl) (.skip (by kernel_rfl) .nil)
  have hu : Upd L C (frC (fl1 v1 v2 n)) (setL C (frC (fl1 v1 v2 n)) L) := setL_upd ⟨_, hC⟩
  have hh1 := hu.here
  with_reducible refine rg_try B hn hI hh' S hC hw hsn hu ?_ hfree
  refine fun s₁ S₁ => ⟨rfl, ?_⟩
  with_reducible refine rg_asg S₁ hh1 ?_
  refine fun tp s₂ S₂ => ⟨rfl, ?_⟩
  rw [setL_setL] at S₂
  obtain ⟨p, e⟩ := rIter_eq
  rw [e]
  refine r_name S₂ (.tail _ (setL_upd ⟨_, hC⟩).here) (.head _) fun v hv => ?_
  cases hv
  exact h tp s₂ S₂
end
end Mine

-- part LR
open PySem PySem.W PySem.W.X PyProof.Rows PySem.Calls
set_option Elab.async false
set_option maxRecDepth 100000
set_option maxHeartbeats 1000000
namespace Mine
section
variable {prog : Program} {w : World} {A : Around} {E : Value → Shared → Prop} {b s : Shared} {L L' : Ledger} {G : GLedger}

/-- the loop of list(..) over whatever iterator -/
theorem code_extend {R : Result → Shared → Prop} {I Sa : Addr} {res : Value} (J : Nat → List Value → Shared → Prop)
    (hnx : ∀ k acc s, J k acc s → wpAny (model prog w) A.in1 (pyNext (.ref I)) (fun r s₁ => match r with
      | none => R (.ok (.ret res)) s₁
      | some v => ∃ L G L', St b s₁ L G ∧ (Sa, lstV acc) ∈ L ∧ Upd L Sa (lstV (acc ++ [v])) L' ∧ acc.length < sizeLine ∧ ∀ s₂, St b s₂ L' G → ∃ m, m < k ∧ J m (acc ++ [v]) s₂) (fun e s₁ => R (.error e) s₁) s) :
    ∀ k acc s, J k acc s → codeAny (model prog w) A (.builtin "list.extend.loop" ⟨[.ref Sa, .ref I, res], []⟩) R s := by
  intro k
  induction k using Nat.strongRecOn with
  | ind k ih =>
    intro acc s hj
    refine codeAny_builtin F.entry_extend_loop ?_
    rw [Around.under_plainId F.plain_extend_loop _]
    show wpAny _ A.in1 (pyNext (.ref I) >>= _) _ _ s
    refine wpAny_bind (wpAny_mono (hnx k acc s hj) (fun r s₁ h₁ => ?_) fun _ _ x => x)
    cases r with
    | none => exact wpAny_pure h₁
    | some v =>
      obtain ⟨L, G, L', S, hm, hu, hlt, h₂⟩ := h₁
      obtain ⟨_, ho, n, rfl⟩ := S.get hm
      show wpAny _ A.in1 (updateSeq Sa (·.push v) >>= _) _ _ _
      refine wpAny_bind ?_
      refine wpAny_updateSeq ho rfl (wpAny_pure ?_) ?_ ?_
      · have hg := Heap.get?_update_self (Obj.mapSeq (·.push v)) ho rfl
        have hcell : lstV (acc ++ [v]) ((lstObj acc.toArray n).mapSeq (·.push v)) := by
          obtain ⟨n', e⟩ := lst_push (vs := acc.toArray) (n := n) (·.push v)
          exact ⟨n', by rw [e]; simp⟩
        obtain ⟨m, hm', hj'⟩ := h₂ _ (S.set hu ⟨_, hm⟩ (Heap.SameBut.update ..).extBut hg hcell)
        exact ⟨plainId_quiet F.plain_extend_loop _, ih m hm' _ _ hj'⟩
      · simpa using Nat.le_of_lt hlt
      · simpa using Nat.succ_le_succ (Nat.le_of_lt hlt)

/-- list(..) of a generator -/
theorem r_list_gen {a : Addr} {Q : Value → Shared → Prop} {g : Nat} (S : St b s L G) (ha : (a, genC g) ∈ L)
    (J : Addr → Nat → List Value → Shared → Prop)
    (h0 : ∀ Sa s', St b s' ((Sa, lstV []) :: L) G → ∃ k, J Sa k [] s')
    (hnx : ∀ Sa k acc s, J Sa k acc s → wpAny (model prog w) A.in1.in1 (pyNext (.ref a)) (fun r s₁ => match r with
      | none => Q (.ref Sa) s₁
      | some v => ∃ L G L', St b s₁ L G ∧ (Sa, lstV acc) ∈ L ∧ Upd L Sa (lstV (acc ++ [v])) L' ∧ acc.length < sizeLine ∧ ∀ s₂, St b s₂ L' G → ∃ m, m < k ∧ J Sa m (acc ++ [v]) s₂) (fun e s₁ => E e s₁) s) :
    wpAny (model prog w) A (call (.type "list") [.ref a]) Q E s := by
  refine callType_codes (Q₁ := fun obj s₁ => obj = .ref s.heap.objs.size ∧ s₁ = { s with heap := s.heap.push { cls := .type "list", data := .seq #[] } }) F.called_list (F.typeCall_list_1 _) F.entry_list_init
    (code_list_new _ ⟨rfl, rfl⟩) fun obj s₁ h₁ => ?_
  obtain ⟨rfl, rfl⟩ := h₁
  have S0 : St b { s with heap := s.heap.push { cls := .type "list", data := .seq #[] } } ((s.heap.objs.size, lstV []) :: L) G := S.alloc ⟨0, rfl⟩
  generalize hsz : s.heap.objs.size = Sa at S0
  generalize hs0 : ({ s with heap := s.heap.push { cls := .type "list", data := .seq #[] } } : Shared) = s0 at S0
  obtain ⟨_, ho0, n0, rfl⟩ := S0.get (.head _)
  refine ⟨⟨_, ho0, rfl⟩, F.args_list_init_2 _ _, ?_⟩
  have hne : Sa ≠ a := by
    have := List.nodup_cons.mp S0.nodup
    exact fun e => this.1 (List.mem_map.mpr ⟨_, ha, e.symm⟩)
  show wpAny _ A.in1.in1 (do let old ← Builtin.List.listItems (.ref Sa); Builtin.List.listUpdate (.ref Sa) (fun _ => #[]); letGo old.toList.reverse; Builtin.List.listExtendWith (.ref Sa) (.ref a) .none) _ _ s0
  refine wpAny_bind ?_
  unfold Builtin.List.listItems
  refine wpAny_bind (wpAny_seqItems ho0 rfl (wpAny_pure ?_))
  show wpAny _ A.in1.in1 (updateSeq Sa (fun _ => #[]) >>= fun _ => letGo (([] : List Value).toArray).toList.reverse >>= fun _ => Builtin.List.listExtendWith (.ref Sa) (.ref a) .none) _ _ s0
  refine wpAny_bind (wpAny_updateSeq ho0 rfl ?_ (by simp) (by simp))
  have S1 := S0.set (P' := lstV []) .head ⟨_, .head _⟩ (Heap.SameBut.update s0.heap Sa (Obj.mapSeq fun _ => #[])).extBut (Heap.get?_update_self _ ho0 rfl) ⟨_, rfl⟩
  generalize hs1 : ({ s0 with heap := s0.heap.update Sa (Obj.mapSeq fun _ => #[]), toks := s0.toks } : Shared) = s1 at S1
  refine wpAny_bind (wpAny_letGo ?_)
  unfold Builtin.List.listExtendWith
  have hg := S1.isGen (.tail _ ha)
  refine wpAny_bind (wpAny_typeOf hg.typeIs ?_)
  have h1 : Builtin.List.listSameRef (.ref Sa) (.ref a) = false := by simp [Builtin.List.listSameRef, hne]
  have h2 : (Value.type "generator" == Value.type "list") = false := by decide
  have h3 : (Value.type "generator" == Value.type "tuple") = false := by decide
  simp only [h1, h2, h3, Bool.or_false, Bool.false_eq_true, if_false]
  refine wpAny_bind (wpAny_pyIter_gen hg ?_)
  refine wpAny_bind (wpAny_holding ?_)
  unfold Builtin.List.listLengthHint
  refine wpAny_bind (wpAny_specialOf hg.typeIs F.gen_no_len ?_)
  show wpAny _ A.in1.in1 (specialOf (Value.ref a) (Str.ofString "__length_hint__") >>= _) _ _ _
  refine wpAny_bind (wpAny_specialOf hg.typeIs F.gen_no_hint ?_)
  refine wpAny_pure ?_
  show wpAny _ A.in1.in1 (rule "list.extend.makes-room" >>= fun _ => Builtin.List.listTouch (.ref Sa) >>= fun _ =>
    again (.builtin "list.extend.loop" ⟨[.ref Sa, .ref a, .none], []⟩)) _ _ _
  refine wpAny_bind (wpAny_rule ?_)
  refine wpAny_bind ?_
  show wpAny _ A.in1.in1 (updateSeq Sa (·.push .none) >>= fun _ => updateSeq Sa (·.pop)) _ _ _
  obtain ⟨_, ho1, n1', rfl⟩ := S1.get (.head _)
  refine wpAny_bind (wpAny_updateSeq ho1 rfl ?_ (by simp) (by simp [sizeLine]))
  have hg2 := Heap.get?_update_self (Obj.mapSeq (·.push Value.none)) ho1 rfl
  have S2 := S1.set (P' := lstV [.none]) .head ⟨_, .head _⟩ (Heap.SameBut.update s1.heap Sa (Obj.mapSeq (·.push Value.none))).extBut hg2 ⟨_, rfl⟩
  refine wpAny_updateSeq hg2 rfl ?_ (by simp [sizeLine]) (by simp [sizeLine])
  have hg3 := Heap.get?_update_self (Obj.mapSeq (·.pop)) hg2 rfl
  have S3 := S2.set (P' := lstV []) .head ⟨_, .head _⟩ (Heap.SameBut.update _ Sa (Obj.mapSeq (·.pop))).extBut hg3 ⟨_, rfl⟩
  obtain ⟨k, hj⟩ := h0 Sa _ S3
  refine wpAny_pure ⟨plainId_quiet F.plain_extend_loop _, code_extend (b := b) (J Sa) ?_ k [] _ hj⟩
  intro k acc s hj
  refine wpAny_mono (hnx Sa k acc s hj) (fun r s₁ h₁ => ?_) fun _ _ x => x
  cases r with
  | none => exact ⟨rfl, h₁⟩
  | some v => exact h₁
end
end Mine

-- part GV
open PySem PySem.W PySem.W.X PyProof.Rows PySem.Calls
set_option Elab.async false
set_option maxRecDepth 100000
set_option maxHeartbeats 1000000
namespace Mine

/-- room to go d frames deeper, and nothing handled -/
structure Ar (A : Around) (d : Nat) : Prop where
  handled : A.handled = none
  depth : A.depth + d < recursionLimit
theorem Ar.mono {A : Around} {d d' : Nat} (h : Ar A d) (hd : d' ≤ d) : Ar A d' := ⟨h.1, Nat.lt_of_le_of_lt (Nat.add_le_add_left hd _) h.2⟩
theorem Ar.in1 {A : Around} {d : Nat} (h : Ar A d) : Ar A.in1 d := ⟨h.1, h.2⟩
theorem Ar.loop {A : Around} {d : Nat} {it : Value} {env : Env} {p : Pos} (h : Ar A (d + 1)) : Ar (A.over (FL it env) (fsR env p)) d := by
  refine ⟨h.1, ?_⟩
  show A.depth + 1 + 0 + d < recursionLimit
  have := h.2
  omega
theorem Ar.func {A : Around} {d : Nat} {env : Env} (h : Ar A (d + 1)) : Ar (A.over (.func rBody env) []) d := by
  refine ⟨h.1, ?_⟩
  show A.depth + 0 + 1 + d < recursionLimit
  have := h.2
  omega

section
variable (prog : Program) (w : World) (b : Shared) (Lr : Ledger) (d : Nat)

/-- v is an iterator that will give values of the makes ys; L₁, G₁ are its own; it reads of Lr -/
def Gives (v : Value) : List VP → Ledger → GLedger → Prop
  | [], L₁, G₁ => ∀ (A : Around) (E : Value → Shared → Prop) (s : Shared) (F : Ledger) (GF : GLedger) (Q : Option Value → Shared → Prop), Ar A d → (∀ p ∈ Lr, p ∈ F) → St b s (L₁ ++ F) (G₁ ++ GF) →
      (∀ s', St b s' F GF → Q none s') → wpAny (model prog w) A (pyNext v) Q E s
  | y :: r, L₁, G₁ => ∀ (A : Around) (E : Value → Shared → Prop) (s : Shared) (F : Ledger) (GF : GLedger) (Q : Option Value → Shared → Prop), Ar A d → (∀ p ∈ Lr, p ∈ F) → St b s (L₁ ++ F) (G₁ ++ GF) →
      (∀ u s' L₂ G₂, y u → Gives v r L₂ G₂ → St b s' (L₂ ++ F) (G₂ ++ GF) → Q (some u) s') → wpAny (model prog w) A (pyNext v) Q E s

/-- iter(it) is it -/
def SelfI (it : Value) (L₂ : Ledger) : Prop := ∀ (A : Around) (E : Value → Shared → Prop) (s : Shared) (F : Ledger) (GF : GLedger) (Q : Value → Shared → Prop), St b s (L₂ ++ F) GF → Q it s → wpAny (model prog w) A (pyIter it) Q E s

/-- v is an iterable of values of the makes ys -/
def GivesI (v : Value) (ys : List VP) (L₁ : Ledger) (G₁ : GLedger) : Prop :=
  ∀ (A : Around) (E : Value → Shared → Prop) (s : Shared) (F : Ledger) (GF : GLedger) (Q : Value → Shared → Prop), Ar A d → (∀ p ∈ Lr, p ∈ F) → St b s (L₁ ++ F) (G₁ ++ GF) →
      (∀ it s' L₂ G₂, Gives prog w b Lr d it ys L₂ G₂ → SelfI prog w b it L₂ → St b s' (L₂ ++ F) (G₂ ++ GF) → Q it s') → wpAny (model prog w) A (pyIter v) Q E s
end

theorem St.gperm {b s : Shared} {L : Ledger} {G G' : GLedger} (S : St b s L G) (h : G'.Perm G) : St b s L G' :=
  ⟨S.keep, S.own, S.nodup, S.os, S.bare, fun p hp => S.gens p (h.subset hp), (h.map _).nodup_iff.mpr S.gnodup⟩

/-- what a reader gives of its rows -/
def readS (n : Int) (xs : List Str) : List Str := (xs.filter (keepS (tagOf n))).map cutS
abbrev flP (tp : Addr) : List (Str × VP) := [(("prefixes" : Str), vE (.ref tp))]

theorem Upd.left {α β : Type} {F F' : List (α × β)} {a : α} {P : β} (u : Upd F a P F') : ∀ L₂ : List (α × β), Upd (L₂ ++ F) a P (L₂ ++ F')
  | [] => u
  | _ :: r => .tail (u.left r)
theorem frC_sub {fl fl' : List (Str × VP)} (h : ∀ p ∈ fl', p ∈ fl) {o : Obj} (hc : frC fl o) : frC fl' o :=
  let ⟨es, ep, h1, h2, h3⟩ := hc; ⟨es, ep, h1, h2, fun p hp => h3 p (h p hp)⟩
/-- a cell known to be more -/
theorem St.less {b s : Shared} {L L' : Ledger} {G : GLedger} (S : St b s L G) {a : Addr} {P P' : Cell} (hm : (a, P) ∈ L) (u : Upd L a P' L') (hP : ∀ o, P o → P' o) : St b s L' G :=
  let ⟨_, e, h⟩ := S.get hm
  S.set u ⟨P, hm⟩ (Heap.ExtBut.refl _ _) e (hP _ h)
def IsRun (gs : GenState) : Prop := gs = .running
def IsFin (gs : GenState) : Prop := gs = .finished

section
variable {prog : Program} {w : World} {b : Shared} {Lr : Ledger} {d : Nat} {mg mb : Str → Option Value} {names : List Str}

theorem gives_of {v : Value} {ys : List VP} {L₁ : Ledger} {G₁ : GLedger}
    (h : ∀ (A : Around) (E : Value → Shared → Prop) (s : Shared) (F : Ledger) (GF : GLedger) (Q : Option Value → Shared → Prop), Ar A d → (∀ p ∈ Lr, p ∈ F) → St b s (L₁ ++ F) (G₁ ++ GF) →
      (ys = [] → ∀ s', St b s' F GF → Q none s') → (∀ y r, ys = y :: r → ∀ u s' L₂ G₂, y u → Gives prog w b Lr d v r L₂ G₂ → St b s' (L₂ ++ F) (G₂ ++ GF) → Q (some u) s') → wpAny (model prog w) A (pyNext v) Q E s) :
    Gives prog w b Lr d v ys L₁ G₁ := by
  cases ys with
  | nil => intro A E s F GF Q hA hF S hQ; exact h A E s F GF Q hA hF S (fun _ => hQ) (fun _ _ e => nomatch e)
  | cons y r => intro A E s F GF Q hA hF S hQ; exact h A E s F GF Q hA hF S (fun e => nomatch e) (fun _ _ e => by cases e; exact hQ)
theorem Gives.next {v : Value} {ys : List VP} {L₁ : Ledger} {G₁ : GLedger} (H : Gives prog w b Lr d v ys L₁ G₁) {A : Around} {E : Value → Shared → Prop} {s : Shared} {F : Ledger} {GF : GLedger} (hA : Ar A d) (hF : ∀ p ∈ Lr, p ∈ F) (S : St b s (L₁ ++ F) (G₁ ++ GF))
    {Q : Option Value → Shared → Prop} (h1 : ys = [] → ∀ s', St b s' F GF → Q none s') (h2 : ∀ y r, ys = y :: r → ∀ u s' L₂ G₂, y u → Gives prog w b Lr d v r L₂ G₂ → St b s' (L₂ ++ F) (G₂ ++ GF) → Q (some u) s') : wpAny (model prog w) A (pyNext v) Q E s := by
  cases ys with
  | nil => exact H A E s F GF Q hA hF S (h1 rfl)
  | cons y r => exact H A E s F GF Q hA hF S (h2 y r rfl)

theorem perm3 {α : Type} (x y z : α) (L F : List α) : (L ++ x :: y :: z :: F).Perm (x :: y :: z :: (L ++ F)) := by
  refine (List.perm_middle).trans (.cons _ ?_)
  refine (List.perm_middle).trans (.cons _ ?_)
  exact List.perm_middle

/-- the reader's run from the head of its loop -/
theorem loop_seg {a C f tp : Addr} {cd it : Value} {g : Nat} {n : Int} {A : Around} {E : Value → Shared → Prop} {s₀ : Shared} {F : Ledger} {GF : GLedger} {Q : Option Value → Shared → Prop} {p' : Pos} (xs : List Str) {Li : Ledger} {Gi : GLedger}
    (hA : Ar A (d + 1)) (hF : ∀ p ∈ Lr, p ∈ F) (hlen : ∀ x ∈ xs, x.length ≤ sizeLine) (hgv : Gives prog w b Lr d it (xs.map vS) Li Gi)
    (ih : ∀ (r : List Str) (Li' : Ledger) (Gi' : GLedger), r.length < xs.length → (∀ x ∈ r, x.length ≤ sizeLine) → Gives prog w b Lr d it (r.map vS) Li' Gi' →
      Gives prog w b Lr (d + 1) (.ref a) ((readS n r).map vS) ((a, genC g) :: (C, frC (flP tp)) :: (tp, tupS ["  ", tagOf n]) :: Li') ((g, AtLoop it (rEnv C f cd)) :: Gi'))
    (S0 : St b s₀ (Li ++ ((a, genC g) :: (C, frC (flP tp)) :: (tp, tupS ["  ", tagOf n]) :: F)) (Gi ++ ((g, IsRun) :: GF)))
    (hend : readS n xs = [] → ∀ s', St b s' F GF → Q none s')
    (hyld : ∀ y r, readS n xs = y :: r → ∀ t s' L₂ G₂, Gives prog w b Lr (d + 1) (.ref a) (r.map vS) L₂ G₂ → St b s' (L₂ ++ F) (G₂ ++ GF) → Q (some (.str y t)) s') :
    SegX (model prog w) A (FL it (rEnv C f cd)) (denote table (FL it (rEnv C f cd))) (fsR (rEnv C f cd) p') s₀ (fun e s₁ => match e.result with
      | .yielded v => Q (some v) (s₁.setGen g e.genState)
      | .returned v => v = .none ∧ ∀ h', (∀ b o, s₁.heap.get? b = some o → h'.get? b = some o) → Q none { s₁.setGen g e.genState with heap := h' }
      | .raised x => ∃ T : String, s₁.TypeIs x T ∧ isSubtype (.type T) (.type "StopIteration") = pure false ∧ s₁.heap.IsGen a g ∧ E x (s₁.setGen g e.genState)
      | _ => False) := by
  let F' : Ledger := (a, genC g) :: (C, frC (flP tp)) :: (tp, tupS ["  ", tagOf n]) :: F
  let GF' : GLedger := (g, IsRun) :: GF
  let J : Nat → Shared → Prop := fun m s => ∃ xs' Li' Gi', xs'.length = m ∧ m ≤ xs.length ∧ readS n xs' = readS n xs ∧ (∀ x ∈ xs', x.length ≤ sizeLine) ∧ Gives prog w b Lr d it (xs'.map vS) Li' Gi' ∧ St b s (Li' ++ F') (Gi' ++ GF')
  let Pend : Shared → Prop := fun s => readS n xs = [] ∧ St b s F' GF'
  let Py : Value → Shared → Prop := fun v s => ∃ y t r Li' Gi' fl', v = .str (cutS y) t ∧ readS n xs = cutS y :: readS n r ∧ r.length < xs.length ∧ (∀ x ∈ r, x.length ≤ sizeLine) ∧ Gives prog w b Lr d it (r.map vS) Li' Gi' ∧ (∀ p ∈ flP tp, p ∈ fl') ∧
    St b s (Li' ++ ((a, genC g) :: (C, frC fl') :: (tp, tupS ["  ", tagOf n]) :: F)) (Gi' ++ GF')
  refine (rg_loop (b := b) (tp := tp) (tag := tagOf n) J (Pend := Pend) (Py := Py) ?_ xs.length _ ⟨xs, Li, Gi, rfl, Nat.le_refl _, rfl, hlen, hgv, S0⟩).mono ?_
  · rintro m s₁ ⟨xs', Li', Gi', hm, hle, hrd, hl', hg', S₁⟩
    refine hg'.next (F := F') (GF := GF') hA.loop (fun q hq => .tail _ (.tail _ (.tail _ (hF q hq)))) S₁ (fun e s₂ S₂ => ?_) (fun y r e u s₂ L₂ G₂ hu hg₂ S₂ => ?_)
    · have e : xs' = [] := List.map_eq_nil_iff.mp e
      subst e; exact ⟨hrd.symm.trans rfl, S₂⟩
    · obtain ⟨y, r, rfl, rfl, rfl⟩ := List.map_eq_cons_iff.mp e
      obtain ⟨t, rfl⟩ := hu
      refine ⟨y, ⟨t, rfl⟩, hl' y (.head _), L₂ ++ F', G₂ ++ GF', flP tp, [(("prefixes" : Str), vE (.ref tp)), (("line" : Str), vS y)], L₂ ++ ((a, genC g) :: (C, frC [(("prefixes" : Str), vE (.ref tp)), (("line" : Str), vS y)]) :: (tp, tupS ["  ", tagOf n]) :: F), S₂,
        List.mem_append_right _ (.tail _ (.head _)), .skip (by kernel_rfl) .nil, (Upd.tail .head).left _, .head _, List.mem_append_right _ (.tail _ (.tail _ (.head _))), fun s₃ S₃ => ?_⟩
      have hlt : r.length < xs.length := by simp only [List.length_cons] at hm; omega
      cases hkp : keepS (tagOf n) y with
      | true =>
        rw [if_pos rfl]
        intro t' s₄ S₄
        refine ⟨y, t', r, L₂, G₂, _, rfl, ?_, hlt, fun x hx => hl' x (.tail _ hx), hg₂, fun q hq => by cases List.mem_singleton.mp hq; exact .head _, S₄⟩
        rw [← hrd]
        simp [readS, hkp]
      | false =>
        rw [if_neg Bool.false_ne_true]
        refine ⟨r.length, by simp only [List.length_cons] at hm; omega, r, L₂, G₂, rfl, Nat.le_of_lt hlt, ?_, fun x hx => hl' x (.tail _ hx), hg₂, ?_⟩
        · rw [← hrd]; simp [readS, hkp]
        · exact S₃.less (List.mem_append_right _ (.tail _ (.head _))) ((Upd.tail .head).left _) fun o ho => frC_sub (fun q hq => by cases List.mem_singleton.mp hq; exact .head _) ho
  · intro e s₁ h
    revert h
    cases e.result with
    | yielded v =>
      rintro ⟨hat, hbare, y, t, r, Li', Gi', fl', rfl, hrd, hlt, hl', hg', hfl, S₁⟩
      have S₂ := S₁.setGen (P' := AtLoop it (rEnv C f cd)) (Upd.head.left Gi') hat hbare
      have S₃ := S₂.less (P' := frC (flP tp)) (List.mem_append_right _ (.tail _ (.head _))) ((Upd.tail .head).left _) fun o ho => frC_sub hfl ho
      refine hyld _ _ hrd t _ _ _ (ih r Li' Gi' hlt hl' hg') ?_
      exact (S₃.perm (perm3 _ _ _ _ _).symm).gperm List.perm_middle.symm
    | returned v =>
      rintro ⟨rfl, hfin, hrd, S₁⟩
      refine ⟨rfl, fun h' hk' => ?_⟩
      rw [hfin]
      have S₂ := S₁.setGen (P' := IsFin) (gs := .finished) .head rfl rfl
      refine hend hrd _ ?_
      exact ((S₂.keeps (s' := { s₁.setGen g .finished with heap := h' }) hk').sub ((((List.Sublist.refl F).cons _).cons _).cons _)).gsub ((List.Sublist.refl GF).cons _)
    | raised x => intro h; exact h.elim
    | running => intro h; exact h.elim
    | justStarted => intro h; exact h.elim
    | finished => intro h; exact h.elim

theorem gives_loop (B : Bs b mg mb names) {a C f tp : Addr} {cd it : Value} {g : Nat} {n : Int} :
    ∀ (k : Nat) (xs : List Str) (Li : Ledger) (Gi : GLedger), xs.length ≤ k → (∀ x ∈ xs, x.length ≤ sizeLine) → Gives prog w b Lr d it (xs.map vS) Li Gi →
      Gives prog w b Lr (d + 1) (.ref a) ((readS n xs).map vS) ((a, genC g) :: (C, frC (flP tp)) :: (tp, tupS ["  ", tagOf n]) :: Li) ((g, AtLoop it (rEnv C f cd)) :: Gi) := by
  intro k
  induction k using Nat.strongRecOn with
  | ind k ih =>
    intro xs Li Gi hk hlen hgv
    refine gives_of fun A E s F GF Q hA hF S hend hyld => ?_
    obtain ⟨gs, hgs, kk, l, p, p', rfl, hkk⟩ := S.gens _ (.head _)
    have hg := S.isGen (.head _)
    have hw : WakeOf (.suspended kk l (FL it (rEnv C f cd)) p (fsR (rEnv C f cd) p') false) (FL it (rEnv C f cd)) (.pure (.again (FL it (rEnv C f cd)))) (fsR (rEnv C f cd) p') := .inr ⟨kk, l, p, false, rfl, hkk.symm⟩
    refine r_pyNext_gen hA.handled (B.nolimit.keeps S.keep) (by have := hA.depth; omega) hg hgs hw ?_
    refine s_again _ _ _ _ _ _ _ _ rfl ?_
    have S0 : St b (s.setGen g .running) (Li ++ ((a, genC g) :: (C, frC (flP tp)) :: (tp, tupS ["  ", tagOf n]) :: F)) (Gi ++ ((g, IsRun) :: GF)) :=
      ((S.setGen (P' := IsRun) .head rfl rfl).perm (perm3 _ _ _ _ _)).gperm List.perm_middle
    exact loop_seg xs hA.in1 hF hlen hgv (fun r Li' Gi' hlt hl' hg' => ih r.length (by omega) r Li' Gi' (Nat.le_refl _) hl' hg') S0 (fun e => hend (by rw [e]; rfl)) (fun y r e t s' L₂ G₂ hg S => hyld (vS y) (r.map vS) (by rw [e]; rfl) _ s' L₂ G₂ ⟨t, rfl⟩ hg S)
end
end Mine

-- part GV2
open PySem PySem.W PySem.W.X PyProof.Rows PySem.Calls
set_option Elab.async false
set_option maxRecDepth 100000
set_option maxHeartbeats 1000000
namespace Mine

def itC (l : Addr) (i : Nat) : Cell := fun o => o.cls = .type "list_iterator" ∧ o.data = .fields #[.ref l, .int i 0]

section
variable {prog : Program} {w : World} {b : Shared} {Lr : Ledger} {d : Nat} {mg mb : Str → Option Value} {names : List Str} {ys₀ : List Str}

/-- a reader that has not begun -/
theorem gives_fresh (B : Bs b mg mb names) (hfree : ("int" : Str) ∉ names) {a C f : Addr} {cd v1 v2 : Value} {g : Nat} {n : Int} (hn : n = 1 ∨ n = 2) (hI : IntTo prog w b v2 n) {xs : List Str} {Ls : Ledger} {Gs : GLedger}
    (hlen : ∀ x ∈ xs, x.length ≤ sizeLine) (hsrc : GivesI prog w b Lr d v1 (xs.map vS) Ls Gs) :
    Gives prog w b Lr (d + 1) (.ref a) ((readS n xs).map vS) ((a, genC g) :: (C, frC (fl0 v1 v2)) :: Ls) ((g, IsFresh (rEnv C f cd)) :: Gs) := by
  refine gives_of fun A E s F GF Q hA hF S hend hyld => ?_
  obtain ⟨gs, hgs, hfr⟩ := S.gens _ (.head _)
  cases hfr
  have hg := S.isGen (.head _)
  refine r_pyNext_gen hA.handled (B.nolimit.keeps S.keep) (by have := hA.depth; omega) hg hgs (.inl ⟨rfl, rfl, rfl⟩) ?_
  have S0 := S.setGen (P' := IsRun) (gs := .running) .head rfl rfl
  refine rg_begin (v1 := v1) (v2 := v2) B hfree hn hI hA.handled S0 (.tail _ (.head _)) fun tp s₁ S₁ => ?_
  -- the ledger as the loop wants it
  have hset : setL C (frC (fl2 v1 v2 n tp)) ((a, genC g) :: (C, frC (fl0 v1 v2)) :: (Ls ++ F)) = (a, genC g) :: (C, frC (fl2 v1 v2 n tp)) :: (Ls ++ F) := by
    have hne : a ≠ C := by
      have := List.nodup_cons.mp S.nodup
      exact fun e => this.1 (e ▸ List.mem_map.mpr ⟨_, .head _, rfl⟩)
    unfold setL
    rw [if_neg hne]
    unfold setL
    rw [if_pos rfl]
  have S₂ : St b s₁ ((tp, tupS ["  ", tagOf n]) :: (a, genC g) :: (C, frC (fl2 v1 v2 n tp)) :: (Ls ++ F)) ((g, IsRun) :: (Gs ++ GF)) := by
    rw [← hset]; exact S₁
  have S₃ : St b s₁ (Ls ++ ((a, genC g) :: (C, frC (flP tp)) :: (tp, tupS ["  ", tagOf n]) :: F)) (Gs ++ ((g, IsRun) :: GF)) := by
    have S₄ := S₂.less (P' := frC (flP tp)) (.tail _ (.tail _ (.head _))) (.tail (.tail .head)) fun o ho => frC_sub (fun q hq => by cases List.mem_singleton.mp hq; exact .tail _ (.tail _ (.tail _ (.head _)))) ho
    refine (S₄.perm ?_).gperm List.perm_middle
    refine (perm3 _ _ _ _ _).trans ?_
    refine List.Perm.trans ?_ (List.Perm.swap _ _ _)
    exact .cons _ (List.Perm.swap _ _ _)
  have hA' : Ar (A.in1.over (.func rBody (rEnv C f cd)) []) d := hA.in1.func
  refine hsrc _ _ _ ((a, genC g) :: (C, frC (flP tp)) :: (tp, tupS ["  ", tagOf n]) :: F) ((g, IsRun) :: GF) _ hA' (fun q hq => .tail _ (.tail _ (.tail _ (hF q hq)))) S₃ fun it s₂ L₂ G₂ hgv _ S₄ p => ?_
  exact loop_seg xs hA.in1 hF hlen hgv (fun r Li' Gi' _ hl' hg' => gives_loop B r.length r Li' Gi' (Nat.le_refl _) hl' hg') S₄ (fun e => hend (by rw [e]; rfl)) (fun y r e t s' L₂ G₂ hg S => hyld (vS y) (r.map vS) (by rw [e]; rfl) _ s' L₂ G₂ ⟨t, rfl⟩ hg S)

theorem St.drop1 {s : Shared} {a : Addr} {P : Cell} {L : Ledger} {G : GLedger} (S : St b s ((a, P) :: L) G) {h' : Heap} (hs : Heap.ExtBut a s.heap h') (tk : Nat := s.toks) : St b { s with heap := h', toks := tk } L G := by
  have hb := (S.own _ (.head _)).1
  have hnd := List.nodup_cons.mp S.nodup
  refine ⟨fun c oc e => hs c oc (fun h => ?_) (S.keep c oc e), fun p hp => ?_, hnd.2, S.os, S.bare, S.gens, S.gnodup⟩
  · subst h; rw [hb] at e; cases e
  · obtain ⟨h1, op, e, hq⟩ := S.own p (.tail _ hp)
    exact ⟨h1, op, hs _ _ (fun h => hnd.1 (h ▸ List.mem_map.mpr ⟨p, hp, rfl⟩)) e, hq⟩

/-- a list, by the makes of its items -/
def lstP (Ps : List VP) : Cell := fun o => ∃ vs n, o = lstObj vs n ∧ vs.size = Ps.length ∧ ∀ (i : Nat) (P : VP), Ps[i]? = some P → ∃ v, vs[i]? = some v ∧ P v

theorem strsAre_len {vs : List Value} {ys : List Str} (h : StrsAre vs ys) : vs.length = ys.length := by
  induction h with
  | nil => rfl
  | cons _ _ _ ih => simp [ih]
theorem strsAre_get {vs : List Value} {ys : List Str} (h : StrsAre vs ys) {i : Nat} {y : Str} (e : ys[i]? = some y) : ∃ t, vs[i]? = some (.str y t) := by
  induction h generalizing i with
  | nil => simp at e
  | cons z t _ ih =>
    cases i with
    | zero => simp at e; subst e; exact ⟨t, rfl⟩
    | succ i => simp at e; obtain ⟨t', h'⟩ := ih e; exact ⟨t', by simpa using h'⟩
theorem intsAre_get {vs : List Value} {ys : List Int} (h : IntsAre vs ys) {i : Nat} {y : Int} (e : ys[i]? = some y) : ∃ t, vs[i]? = some (.int y t) := by
  induction h generalizing i with
  | nil => simp at e
  | cons z t _ ih =>
    cases i with
    | zero => simp at e; subst e; exact ⟨t, rfl⟩
    | succ i => simp at e; obtain ⟨t', h'⟩ := ih e; exact ⟨t', by simpa using h'⟩

/-- the list at l, in the ledger or ahead of the call, holds values of these makes -/
def HasL (b : Shared) (Lr : Ledger) (l : Addr) (Ps : List VP) : Prop :=
  ∀ (s : Shared) (F : Ledger) (G : GLedger), (∀ p ∈ Lr, p ∈ F) → St b s F G → ∃ vs : Array Value, s.heap.IsList l vs ∧ vs.size = Ps.length ∧ ∀ (i : Nat) (P : VP), Ps[i]? = some P → ∃ v, vs[i]? = some v ∧ P v
theorem hasL_S {l : Addr} {ys : List Str} (h : (l, lstS ys) ∈ Lr) : HasL b Lr l (ys.map vS) := fun s F G hF S => by
  obtain ⟨vs, hl, hs⟩ := S.lst (hF _ h)
  refine ⟨vs, hl, ?_, fun i P e => ?_⟩
  · have := strsAre_len hs; simpa using this
  · rw [List.getElem?_map] at e
    obtain ⟨y, hy, rfl⟩ := Option.map_eq_some_iff.mp e
    obtain ⟨t, ht⟩ := strsAre_get hs hy
    exact ⟨_, by rw [← Array.getElem?_toList]; exact ht, t, rfl⟩
theorem hasL_V {l : Addr} {vs : List Value} (h : (l, lstV vs) ∈ Lr) : HasL b Lr l (vs.map vE) := fun s F G hF S => by
  refine ⟨vs.toArray, S.lstv (hF _ h), by simp, fun i P e => ?_⟩
  rw [List.getElem?_map] at e
  obtain ⟨y, hy, rfl⟩ := Option.map_eq_some_iff.mp e
  exact ⟨y, by simpa using hy, rfl⟩
theorem hasL_P {l : Addr} {Ps : List VP} (h : (l, lstP Ps) ∈ Lr) : HasL b Lr l Ps := fun s F G hF S => by
  obtain ⟨_, e, vs, n, rfl, h1, h2⟩ := S.get (hF _ h)
  exact ⟨vs, ⟨_, e, rfl, n, rfl⟩, h1, h2⟩
theorem hasL_base {l : Addr} {vs : List Value} {ns : List Int} (h : b.heap.IsList l vs.toArray) (hi : IntsAre vs ns) : HasL b Lr l (ns.map vI) := fun s F G _ S => by
  refine ⟨vs.toArray, h.at fun o e => S.keep _ _ e, by simpa using hi.length, fun i P e => ?_⟩
  rw [List.getElem?_map] at e
  obtain ⟨y, hy, rfl⟩ := Option.map_eq_some_iff.mp e
  obtain ⟨t, ht⟩ := intsAre_get hi hy
  exact ⟨_, by simpa using ht, t, rfl⟩

/-- a list's iterator -/
theorem gives_iter {I l : Addr} {Ps₀ : List VP} (hLr : HasL b Lr l Ps₀) : ∀ (Ps : List VP) (i : Nat), Ps₀.drop i = Ps → Gives prog w b Lr d (.ref I) Ps [(I, itC l i)] [] := by
  intro Ps
  induction Ps with
  | nil =>
    intro i hi A E s F GF Q hA hF S hQ
    obtain ⟨o, ho, hc, hd⟩ := S.get (.head _)
    obtain ⟨vs, hl, hz, _⟩ := hLr s _ _ (fun q hq => .tail _ (hF q hq)) S
    have hx : vs[i]? = none := by
      have h1 : Ps₀.length ≤ i := List.drop_eq_nil_iff.mp hi
      exact Array.getElem?_eq_none (by rw [hz]; exact h1)
    exact wpAny_pyNext_list_end hA.handled ⟨o, ho, hc, hd⟩ hl hx fun h' he => hQ _ (S.drop1 he)
  | cons P r ih =>
    intro i hi A E s F GF Q hA hF S hQ
    obtain ⟨o, ho, hc, hd⟩ := S.get (.head _)
    obtain ⟨vs, hl, _, hv⟩ := hLr s _ _ (fun q hq => .tail _ (hF q hq)) S
    have hy : Ps₀[i]? = some P := by
      have := congrArg (·[0]?) hi
      simpa using this
    have hr : Ps₀.drop (i + 1) = r := by
      have := congrArg List.tail hi
      simpa [List.tail_drop] using this
    obtain ⟨u, hx, hu⟩ := hv i P hy
    refine wpAny_pyNext_list_item ⟨o, ho, hc, hd⟩ hl hx fun h' hit hsb => ?_
    obtain ⟨o', ho', hc', hd'⟩ := hit
    exact hQ u _ _ _ hu (ih (i + 1) hr) (S.set (P' := itC l (i + 1)) .head ⟨_, .head _⟩ hsb.extBut ho' ⟨hc', hd'⟩)

theorem selfI_iter {I l : Addr} {i : Nat} : SelfI prog w b (.ref I) [(I, itC l i)] := fun A E s F GF Q S h => by
  obtain ⟨o, ho, hc, hd⟩ := S.get (.head _)
  exact wpAny_pyIter_listiter ⟨o, ho, hc, hd⟩ h
theorem selfI_gen {a : Addr} {g : Nat} {L₁ : Ledger} : SelfI prog w b (.ref a) ((a, genC g) :: L₁) := fun A E s F GF Q S h => wpAny_pyIter_gen (S.isGen (.head _)) h

/-- a list -/
theorem givesI_list {l : Addr} {Ps : List VP} (hLr : HasL b Lr l Ps) : GivesI prog w b Lr d (.ref l) Ps [] [] := by
  intro A E s F GF Q hA hF S hQ
  obtain ⟨vs, hl, _⟩ := hLr s _ _ hF S
  refine wpAny_pyIter_list hl ?_
  exact hQ _ _ _ _ (gives_iter hLr Ps 0 rfl) selfI_iter (S.alloc (P := itC l 0) ⟨rfl, rfl⟩)

/-- an iterator is its own iterator -/
theorem givesI_gen {a : Addr} {g : Nat} {ys : List VP} {L₁ : Ledger} {G₁ : GLedger} (h : Gives prog w b Lr d (.ref a) ys ((a, genC g) :: L₁) G₁) : GivesI prog w b Lr d (.ref a) ys ((a, genC g) :: L₁) G₁ := by
  intro A E s F GF Q hA hF S hQ
  exact wpAny_pyIter_gen (S.isGen (.head _)) (hQ _ _ _ _ h selfI_gen S)

/-- list(..) of a reader -/
theorem r_list_gives {A : Around} {E : Value → Shared → Prop} {s : Shared} {a : Addr} {g : Nat} {ys : List Str} {L₁ F : Ledger} {G₁ GF : GLedger} {Q : Value → Shared → Prop} (hg : Gives prog w b Lr d (.ref a) (ys.map vS) ((a, genC g) :: L₁) G₁) (hA : Ar A d) (hF : ∀ p ∈ Lr, p ∈ F)
    (S : St b s ((a, genC g) :: L₁ ++ F) (G₁ ++ GF)) (hz : ys.length ≤ sizeLine) (h : ∀ l s', St b s' ((l, lstS ys) :: F) GF → Q (.ref l) s') : wpAny (model prog w) A (call (.type "list") [.ref a]) Q E s := by
  let J : Addr → Nat → List Value → Shared → Prop := fun Sa k acc s => ∃ pre post L₂ G₂, ys = pre ++ post ∧ post.length = k ∧ StrsAre acc pre ∧ Gives prog w b Lr d (.ref a) (post.map vS) L₂ G₂ ∧ St b s (L₂ ++ ((Sa, lstV acc) :: F)) (G₂ ++ GF)
  refine r_list_gen (g := g) S (.head _) J (fun Sa s' S' => ⟨ys.length, [], ys, _, _, rfl, rfl, .nil, hg, S'.perm List.perm_middle⟩) ?_
  rintro Sa k acc s₁ ⟨pre, post, L₂, G₂, e, hk, hs, hg₂, S₁⟩
  have hA2 : Ar A.in1.in1 d := hA.in1.in1
  refine hg₂.next (F := (Sa, lstV acc) :: F) hA2 (fun q hq => .tail _ (hF q hq)) S₁ (fun e' s₂ S₂ => ?_) (fun y r e' u s₂ L₃ G₃ hu hg₃ S₂ => ?_)
  · have e' : post = [] := List.map_eq_nil_iff.mp e'
    subst e'
    rw [List.append_nil] at e
    subst e
    exact h _ _ (S₂.less (.head _) .head fun o ho => let ⟨n, hn⟩ := ho; ⟨_, n, hn, by simpa using hs⟩)
  · obtain ⟨y, r, rfl, rfl, rfl⟩ := List.map_eq_cons_iff.mp e'
    obtain ⟨t, rfl⟩ := hu
    refine ⟨_, _, L₃ ++ ((Sa, lstV (acc ++ [.str y t])) :: F), S₂, List.mem_append_right _ (.head _), Upd.head.left _, ?_, fun s₃ S₃ => ?_⟩
    · rw [strsAre_len hs]
      have : ys.length = pre.length + (r.length + 1) := by rw [e]; simp
      omega
    · refine ⟨r.length, by simp only [List.length_cons] at hk; omega, pre ++ [y], r, L₃, G₃, by rw [e]; simp, rfl, hs.append' (.cons _ _ .nil), hg₃, S₃⟩
end
end Mine

-- part LC
open PySem PySem.W PySem.W.X PyProof.Rows PySem.Calls
set_option Elab.async false
set_option maxRecDepth 100000
set_option maxHeartbeats 1000000
namespace Mine

/-- no exception -/
abbrev NoE : Value → Shared → Prop := fun _ _ => False

section
variable {prog : Program} {w : World} {A : Around} {E : Value → Shared → Prop} {b s : Shared} {L L' X : Ledger} {G : GLedger} {env : Env} {Lr : Ledger} {d : Nat} {mg mb : Str → Option Value} {names : List Str}

theorem noE {α : Type} {t : Sem α} {Q : α → Shared → Prop} (h : wpAny (model prog w) A t Q NoE s) : wpAny (model prog w) A t Q E s := wpAny_mono h (fun _ _ x => x) fun _ _ x => x.elim

/-- what follows a statement -/
def Then (prog : Program) (w : World) (A : Around) (env : Env) (rest : List Stmt) (Q : Flow → Shared → Prop) (E : Value → Shared → Prop) (f : Flow) (s' : Shared) : Prop :=
  match f with | .next => wpAny (model prog w) A (execs rest env) Q E s' | f => Q f s'
theorem r_seq {st : Stmt} {rest : List Stmt} {Q : Flow → Shared → Prop} (h : wpAny (model prog w) A (exec st env) (Then prog w A env rest Q E) E s) : wpAny (model prog w) A (execs (st :: rest) env) Q E s :=
  wpAny_execs_cons (wpAny_mono h (fun f s' h' => by cases f <;> exact h') fun _ _ x => x)
theorem then_next {rest : List Stmt} {Q : Flow → Shared → Prop} (h : wpAny (model prog w) A (execs rest env) Q E s) : Then prog w A env rest Q E .next s := h
theorem then_ret {rest : List Stmt} {Q : Flow → Shared → Prop} {v : Value} (h : Q (.ret v) s) : Then prog w A env rest Q E (.ret v) s := h

/-- what follows a turn of a loop -/
def Turn (Q : Flow → Shared → Prop) (N : Shared → Prop) (f : Flow) (s : Shared) : Prop :=
  match f with | .next | .cont => N s | .brk => Q .next s | .ret v => Q (.ret v) s
theorem turn_next {Q : Flow → Shared → Prop} {N : Shared → Prop} (h : N s) : Turn Q N .next s := h
theorem turn_ret {Q : Flow → Shared → Prop} {N : Shared → Prop} {v : Value} (h : Q (.ret v) s) : Turn Q N (.ret v) s := h

theorem perm_swap3 {α : Type} (a b c : List α) : (a ++ (b ++ c)).Perm (b ++ (a ++ c)) := by
  rw [← List.append_assoc, ← List.append_assoc]
  exact List.perm_append_comm.append_right c

/-- a for over whatever is iterable -/
theorem r_for {v₀ : Value} {Ps : List VP} {L₁ F₀ : Ledger} {G₁ : GLedger} {target iter : Expr} {body : List Stmt} {pos : Pos} {Q : Flow → Shared → Prop} (J : List VP → Ledger → Prop)
    (hsrc : GivesI prog w b Lr d v₀ Ps L₁ G₁) (hA : Ar A d)
    (hiter : wpAny (model prog w) A (eval iter env) (fun v s₁ => v = v₀ ∧ St b s₁ (L₁ ++ (F₀ ++ X)) (G₁ ++ G)) NoE s)
    (h0 : J [] F₀) (hR : ∀ pre F, J pre F → ∀ p ∈ Lr, p ∈ F ++ X)
    (turn : ∀ pre P r u F L₂ G₂ s, Ps = pre ++ P :: r → P u → J pre F → St b s (F ++ (L₂ ++ X)) (G₂ ++ G) →
      wpAny (model prog w) A (assign target env u) (fun _ s₂ => wpAny (model prog w) A (execs body env) (Turn Q fun s₃ => ∃ F', J (pre ++ [P]) F' ∧ St b s₃ (F' ++ (L₂ ++ X)) (G₂ ++ G)) NoE s₂) NoE s)
    (done : ∀ F s, J Ps F → St b s (F ++ X) G → Q .next s)
    (hs : ∀ x, foldedSetIterable iter env x = pure x := by intro _; kernel_rfl) (ht : ∀ it v, letOwnedTupleGo target it v = pure () := by intro _ _; kernel_rfl) :
    wpAny (model prog w) A (exec (.For target iter body [] pos) env) Q E s := by
  refine wpAny_For (wpAny_mono hiter (fun v s₁ h₁ => ?_) fun _ _ x => x.elim) hs
  obtain ⟨rfl, S₁⟩ := h₁
  refine hsrc A _ _ _ _ _ hA (hR [] F₀ h0) S₁ fun it s₂ L₂ G₂ hg _ S₂ => ?_
  refine codeAny_forLoop (fun n s => ∃ pre post F L₂ G₂, Ps = pre ++ post ∧ post.length = n ∧ J pre F ∧ Gives prog w b Lr d it post L₂ G₂ ∧ St b s (L₂ ++ (F ++ X)) (G₂ ++ G)) ?_ Ps.length ⟨[], Ps, F₀, L₂, G₂, rfl, rfl, h0, hg, S₂⟩ (ht it)
  rintro n s₃ ⟨pre, post, F, L₃, G₃, e, hn, hj, hg₃, S₃⟩
  refine hg₃.next hA (hR pre F hj) S₃ (fun e' s₄ S₄ => ?_) (fun P r e' u s₄ L₄ G₄ hu hg₄ S₄ => ?_)
  · subst e'
    rw [List.append_nil] at e
    subst e
    exact wpAny_execs_nil (done F s₄ hj S₄)
  · subst e'
    refine wpAny_mono (turn pre P r u F L₄ G₄ s₄ e hu hj (S₄.perm (perm_swap3 F L₄ X))) (fun _ s₅ h₅ => ?_) fun _ _ x => x.elim
    refine wpAny_mono h₅ (fun f s₆ h₆ => ?_) fun _ _ x => x.elim
    have nx : (∃ F', J (pre ++ [P]) F' ∧ St b s₆ (F' ++ (L₄ ++ X)) (G₄ ++ G)) → ∃ m, m < n ∧ ∃ pre post F L₂ G₂, Ps = pre ++ post ∧ post.length = m ∧ J pre F ∧ Gives prog w b Lr d it post L₂ G₂ ∧ St b s₆ (L₂ ++ (F ++ X)) (G₂ ++ G) := by
      rintro ⟨F', hj', S'⟩
      exact ⟨r.length, by simp only [List.length_cons] at hn; omega, pre ++ [P], r, F', L₄, G₄, by rw [e]; simp, rfl, hj', hg₄, S'.perm (perm_swap3 L₄ F' X)⟩
    cases f with
    | next => exact nx h₆
    | cont => exact nx h₆
    | brk => exact h₆
    | ret v => exact h₆

/-- a while by a measure -/
theorem r_while {test : Expr} {body : List Stmt} {pos : Pos} {Q : Flow → Shared → Prop} (I : Nat → Shared → Prop) (n : Nat) (h : I n s)
    (turn : ∀ n s, I n s → wpAny (model prog w) A (isTrue test env (eval test env)) (fun c s₂ => if c = true then wpAny (model prog w) A (execs body env) (Turn Q fun s₃ => ∃ m, m < n ∧ I m s₃) NoE s₂ else Q .next s₂) NoE s) :
    wpAny (model prog w) A (exec (.While test body [] pos) env) Q E s := by
  refine wpAny_While (codeAny_whileLoop I (fun n s hi => ?_) n h)
  refine wpAny_mono (turn n s hi) (fun c s₂ h₂ => ?_) fun _ _ x => x.elim
  cases c with
  | true =>
    rw [if_pos rfl] at h₂
    show wpAny _ _ _ _ _ _
    refine wpAny_mono h₂ (fun f s₃ h₃ => ?_) fun _ _ x => x.elim
    cases f <;> exact h₃
  | false =>
    rw [if_neg Bool.false_ne_true] at h₂
    exact wpAny_execs_nil h₂
end
end Mine

-- part LCc
open PySem PySem.W PySem.W.X PyProof.Rows PySem.Calls
set_option Elab.async false
set_option maxRecDepth 100000
set_option maxHeartbeats 1000000
namespace Mine

section
variable {prog : Program} {w : World} {A : Around} {E : Value → Shared → Prop} {b s : Shared} {L L' X : Ledger} {G : GLedger} {env : Env} {Lr : Ledger} {d : Nat} {mg mb : Str → Option Value} {names : List Str}

abbrev testsOf (ifs : List Expr) (env : Env) : Sem Bool := forIn ifs true fun c r => if r = true then do let ok ← isTrue c env (eval c env); pure (ForInStep.yield ok) else pure (ForInStep.yield r)

/-- a comprehension over whatever is iterable -/
theorem comp_core {v₀ : Value} {Ps : List VP} {L₁ F₀ : Ledger} {G₁ : GLedger} {elt iter : Expr} {x : Str} {px pos pos' : Pos} {ifs : List Expr} {scope : Scope} {cl : List (Str × Addr)} {use : Option (Value → Sem Unit)} {Q : Value → Shared → Prop}
    (J : List VP → List Value → Ledger → Prop)
    (hsrc : GivesI prog w b Lr d v₀ Ps L₁ G₁) (hA : Ar A d)
    (hiter : wpAny (model prog w) A (eval iter env) (fun v s₁ => v = v₀ ∧ St b s₁ (L₁ ++ (F₀ ++ X)) (G₁ ++ G)) NoE s)
    (h0 : J [] [] F₀) (hR : ∀ pre acc F, J pre acc F → ∀ p ∈ Lr, p ∈ F ++ X) (hz : ∀ pre acc F, J pre acc F → acc.length ≤ pre.length) (hPs : Ps.length ≤ sizeLine)
    (turn : ∀ pre P r u acc F C D L₂ G₂ s, Ps = pre ++ P :: r → P u → J pre acc F → St b s ((C, frC [(x, vE u)]) :: (D, lstV acc) :: (F ++ (L₂ ++ X))) (G₂ ++ G) →
      wpAny (model prog w) A (testsOf ifs (compEnvC scope cl C env)) (fun ok s₂ =>
        if ok = true then wpAny (model prog w) A (eval elt (compEnvC scope cl C env)) (fun y s₃ => ∃ F', J (pre ++ [P]) (acc ++ [y]) F' ∧ St b s₃ ((C, frC [(x, vE u)]) :: (D, lstV acc) :: (F' ++ (L₂ ++ X))) (G₂ ++ G)) NoE s₂
        else ∃ F', J (pre ++ [P]) acc F' ∧ St b s₂ ((C, frC [(x, vE u)]) :: (D, lstV acc) :: (F' ++ (L₂ ++ X))) (G₂ ++ G)) NoE s)
    (hfin : ∀ acc F C D s', J Ps acc F → St b s' ((C, frC []) :: (D, lstV acc) :: (F ++ X)) G → compPost (model prog w) A E use Q (.ref D) C (.ok .next) s')
    (hclos : closureFor scope env = pure cl) (hkind : scope.kind = .function) (hnames : ∀ y ∈ scope.names, y.2 = .local → scope.names.lookup y.1 = some .local)
    (hcell : ∀ y ∈ scope.names, y.2 ≠ .cell) (hx : scope.names.lookup x = some .local) (hs : ∀ v, foldedSetIterable iter env v = pure v) :
    wpAny (model prog w) A (comprehension (.ListComp elt [⟨.Name x px, iter, ifs, 0⟩] scope pos') scope env pos (newList []) false (eval iter env) use) Q E s := by
  refine wpAny_comprehension_free (g := ⟨.Name x px, iter, ifs, 0⟩) (gs := []) rfl hs hclos hkind hnames ?_
  refine wpAny_mono hiter (fun v s₁ h₁ => ?_) fun _ _ x => x.elim
  obtain ⟨rfl, S₁⟩ := h₁
  refine hsrc A _ _ _ _ _ hA (hR [] [] F₀ h0) S₁ fun it s₂ L₂ G₂ hg hself S₂ => ?_
  refine r_newList S₂ lstV_mk fun D s₃ S₃ => ?_
  refine wpAny_newFunctionEnv (scope := scope) (binds := []) hcell (fun y hy => nomatch hy) (fun h' hn hsb => ?_) hkind
  obtain ⟨oC, hoC, hcC⟩ := frC_of (fl := []) hn (fun p hp => nomatch hp)
  have S₄ : St b { s₃ with heap := h', toks := s₃.toks + ([] : List (Str × Value)).length } ((s₃.heap.objs.size, frC []) :: (D, lstV []) :: (L₂ ++ (F₀ ++ X))) (G₂ ++ G) :=
    S₃.new (heap_get_size _) (fun a o e => hsb.extBut a o (Nat.ne_of_lt (Heap.lt_size e)) (Heap.get?_push_of_some _ e)) hoC hcC
  generalize hC : s₃.heap.objs.size = C at S₄
  show codeAny _ A (.compStart _ 0 it (.ref D) (compEnvC scope cl C env)) (compPost _ A E use Q (.ref D) C) _
  have S₅ : St b _ (L₂ ++ ((C, frC []) :: (D, lstV []) :: (F₀ ++ X))) (G₂ ++ G) := S₄.perm (by
    refine List.perm_middle.trans (.cons _ ?_)
    exact List.perm_middle)
  have loop : ∀ (it : Value) (s : Shared) (L₂ : Ledger) (G₂ : GLedger), Gives prog w b Lr d it Ps L₂ G₂ → St b s (L₂ ++ ((C, frC []) :: (D, lstV []) :: (F₀ ++ X))) (G₂ ++ G) →
      codeAny (model prog w) A (.compLoop (.ListComp elt [⟨.Name x px, iter, ifs, 0⟩] scope pos') 0 it (.ref D) (compEnvC scope cl C env)) (compPost (model prog w) A E use Q (.ref D) C) s := by
    intro it s L₂ G₂ hg S
    refine codeAny_compLoop_tests (fun n s => ∃ pre post acc F L₂ G₂, Ps = pre ++ post ∧ post.length = n ∧ J pre acc F ∧ Gives prog w b Lr d it post L₂ G₂ ∧ St b s (L₂ ++ ((C, frC []) :: (D, lstV acc) :: (F ++ X))) (G₂ ++ G)) ?_ Ps.length
      ⟨[], Ps, [], F₀, L₂, G₂, rfl, rfl, h0, hg, S⟩
    rintro n s₃ ⟨pre, post, acc, F, L₃, G₃, e, hn, hj, hg₃, S₃⟩
    refine hg₃.next hA (fun q hq => .tail _ (.tail _ (hR pre acc F hj q hq))) S₃ (fun e' s₄ S₄ => ?_) (fun P r e' u s₄ L₄ G₄ hu hg₄ S₄ => ?_)
    · subst e'
      rw [List.append_nil] at e
      subst e
      exact hfin acc F C D s₄ hj S₄
    · subst e'
      have S₅ : St b s₄ ((C, frC []) :: (D, lstV acc) :: (F ++ (L₄ ++ X))) (G₄ ++ G) := S₄.perm (by
        refine List.Perm.trans ?_ (List.perm_middle.symm)
        refine .cons _ ?_
        refine List.Perm.trans ?_ (List.perm_middle.symm)
        exact .cons _ (perm_swap3 F L₄ X))
      refine wpAny_assign_Name (r_store (P := vE u) S₅ (.head _) rfl .nil .head (fun s₅ S₆ => ?_) (lookup_relabel_local hx) (by show (scope.kind == .class || (scope.kind == .module && _)) = false; rw [hkind]; rfl))
      refine wpAny_mono (turn pre P r u acc F C D L₄ G₄ s₅ e hu hj S₆) (fun ok s₆ h₆ => ?_) fun _ _ x => x.elim
      have back : ∀ {acc' F' s}, St b s ((C, frC [(x, vE u)]) :: (D, lstV acc') :: (F' ++ (L₄ ++ X))) (G₄ ++ G) → St b s (L₄ ++ ((C, frC []) :: (D, lstV acc') :: (F' ++ X))) (G₄ ++ G) := fun S => by
        refine (S.less (.head _) .head fun o ho => frC_sub (fl' := []) (fun q hq => nomatch hq) ho).perm ?_
        refine List.perm_middle.trans (.cons _ ?_)
        refine List.perm_middle.trans (.cons _ ?_)
        exact perm_swap3 _ _ _
      cases ok with
      | true =>
        rw [if_pos rfl] at h₆ ⊢
        refine wpAny_mono h₆ (fun y s₇ h₇ => ?_) fun _ _ x => x.elim
        obtain ⟨F', hj', S₇⟩ := h₇
        have hlen : acc.length < sizeLine := by
          have h1 := hz pre acc F hj
          have h2 : Ps.length = pre.length + (r.length + 1) := by rw [e]; simp
          omega
        obtain ⟨_, hoD, nD, rfl⟩ := S₇.get (.tail _ (.head _))
        refine wpAny_list_append_plain (x := y) ⟨nD, hoD⟩ (fun h' hl hsb => ?_) (by simpa using Nat.le_of_lt hlen)
        obtain ⟨n', ho'⟩ := hl
        refine ⟨r.length, by simp only [List.length_cons] at hn; omega, pre ++ [P], r, acc ++ [y], F', L₄, G₄, by rw [e]; simp, rfl, hj', hg₄, back ?_⟩
        exact S₇.set (P' := lstV (acc ++ [y])) (.tail .head) ⟨_, .tail _ (.head _)⟩ hsb.extBut ho' ⟨n', by simp⟩
      | false =>
        rw [if_neg Bool.false_ne_true] at h₆ ⊢
        obtain ⟨F', hj', S₇⟩ := h₆
        exact ⟨r.length, by simp only [List.length_cons] at hn; omega, pre ++ [P], r, acc, F', L₄, G₄, by rw [e]; simp, rfl, hj', hg₄, back S₇⟩
  refine codeAny_compStart_list (loop it _ L₂ G₂ hg S₅) ?_
  exact hself A _ _ _ _ _ S₅ (loop it _ L₂ G₂ hg S₅)
end
end Mine

-- part LD
open PySem PySem.W PySem.W.X PyProof.Rows PySem.Calls PySem.Spec
set_option Elab.async false
set_option maxRecDepth 100000
set_option maxHeartbeats 1000000
namespace Mine

section
variable {prog : Program} {w : World} {A : Around} {E : Value → Shared → Prop} {b s : Shared} {L L' X : Ledger} {G : GLedger} {env : Env} {Lr : Ledger} {d : Nat} {mg mb : Str → Option Value} {names : List Str} {Q : Value → Shared → Prop}

theorem r_nameE {x : Str} {pos : Pos} {fl : List (Str × VP)} {v : Value} (S : St b s L G) (hf : (env.locals, frC fl) ∈ L) (hx : (x, vE v) ∈ fl) (h : Q v s)
    (hk : env.scope.kind = .function := by kernel_rfl) (hl : env.kindOf x = some .local := by kernel_rfl) (hd : (x == ("__debug__" : Str)) = false := by kernel_rfl) :
    wpAny (model prog w) A (eval (.Name x pos) env) Q E s := r_name S hf hx (fun _ e => e ▸ h) hk hl hd
theorem r_nameI {x : Str} {pos : Pos} {fl : List (Str × VP)} {i : Int} (S : St b s L G) (hf : (env.locals, frC fl) ∈ L) (hx : (x, vI i) ∈ fl) (h : ∀ t, Q (.int i t) s)
    (hk : env.scope.kind = .function := by kernel_rfl) (hl : env.kindOf x = some .local := by kernel_rfl) (hd : (x == ("__debug__" : Str)) = false := by kernel_rfl) :
    wpAny (model prog w) A (eval (.Name x pos) env) Q E s := r_name S hf hx (fun _ ⟨t, e⟩ => e ▸ h t) hk hl hd
theorem r_nameS {x : Str} {pos : Pos} {fl : List (Str × VP)} {y : Str} (S : St b s L G) (hf : (env.locals, frC fl) ∈ L) (hx : (x, vS y) ∈ fl) (h : ∀ t, Q (.str y t) s)
    (hk : env.scope.kind = .function := by kernel_rfl) (hl : env.kindOf x = some .local := by kernel_rfl) (hd : (x == ("__debug__" : Str)) = false := by kernel_rfl) :
    wpAny (model prog w) A (eval (.Name x pos) env) Q E s := r_name S hf hx (fun _ ⟨t, e⟩ => e ▸ h t) hk hl hd

/-! ints -/
theorem r_add {x y : Int} {t u : Tok} (S : St b s L G) (h : ∀ t s', St b s' L G → Q (.int (x + y) t) s') : wpAny (model prog w) A (binaryOp .Add (.int x t) (.int y u)) Q E s := PyProof.Rows.add_int (h _ _ (S.toks _))
theorem r_iadd {x y : Int} {t u : Tok} (S : St b s L G) (h : ∀ t s', St b s' L G → Q (.int (x + y) t) s') : wpAny (model prog w) A (inplaceOp .Add (.int x t) (.int y u)) Q E s := PyProof.Rows.iadd_int (h _ _ (S.toks _))
theorem r_sub {x y : Int} {t u : Tok} (S : St b s L G) (h : ∀ t s', St b s' L G → Q (.int (x - y) t) s') : wpAny (model prog w) A (binaryOp .Sub (.int x t) (.int y u)) Q E s := PyProof.Rows.sub_int (h _ _ (S.toks _))
theorem r_mod {x y : Int} {t u : Tok} (S : St b s L G) (hy : y ≠ 0) (h : ∀ t s', St b s' L G → Q (.int (x.fmod y) t) s') : wpAny (model prog w) A (binaryOp .Mod (.int x t) (.int y u)) Q E s := PyProof.Rows.mod_int hy (h _ _ (S.toks _))
theorem r_fdiv {x y : Int} {t u : Tok} (S : St b s L G) (hy : y ≠ 0) (hp : PylongRoom (model prog w) A s) (h : ∀ t s', St b s' L G → Q (.int (x.fdiv y) t) s') : wpAny (model prog w) A (binaryOp .FloorDiv (.int x t) (.int y u)) Q E s :=
  floordiv_int hy (h _ _ (S.toks _)) (.inr hp)
theorem r_pow {x n : Int} {t u : Tok} (S : St b s L G) (h0 : 0 ≤ n) (h1 : n ≤ 1000000) (hx : x.natAbs < 2 ^ 64) (h : ∀ t s', St b s' L G → Q (.int (x ^ n.toNat) t) s') : wpAny (model prog w) A (binaryOp .Pow (.int x t) (.int n u)) Q E s :=
  pow_int_small h0 h1 hx (h _ _ (S.toks _))
theorem r_lt {x y : Int} {t u : Tok} (h : Q (.bool (decide (x < y))) s) : wpAny (model prog w) A (compareOp .Lt (.int x t) (.int y u)) Q E s := PyProof.Rows.lt_int h
theorem r_gt {x y : Int} {t u : Tok} (h : Q (.bool (decide (y < x))) s) : wpAny (model prog w) A (compareOp .Gt (.int x t) (.int y u)) Q E s := PyProof.Rows.gt_int h
theorem r_eqI {x y : Int} {t u : Tok} (h : Q (.bool (x == y)) s) : wpAny (model prog w) A (compareOp .Eq (.int x t) (.int y u)) Q E s := PyProof.Rows.eq_int h

/-! texts -/
theorem r_addS {x y : Str} {t u : Tok} (S : St b s L G) (hz : x.length + y.length ≤ sizeLine) (h : ∀ t s', St b s' L G → Q (.str (x ++ y) t) s') : wpAny (model prog w) A (binaryOp .Add (.str x t) (.str y u)) Q E s :=
  PyProof.Rows.add_str (fun t' tk => h t' _ (S.toks tk)) hz
theorem r_eqS {x y : Str} {t u : Tok} (h : Q (.bool (x == y)) s) : wpAny (model prog w) A (compareOp .Eq (.str x t) (.str y u)) Q E s := PyProof.Rows.eq_str h
theorem r_neS {x y : Str} {t u : Tok} (h : Q (.bool (x != y)) s) : wpAny (model prog w) A (compareOp .NotEq (.str x t) (.str y u)) Q E s := PyProof.Rows.ne_str h
theorem r_strI {x : Int} {t : Tok} (S : St b s L G) (hx : x.natAbs.log2 < 1920) (h : ∀ t s', St b s' L G → Q (.str (toString x) t) s') : wpAny (model prog w) A (call (.type "str") [.int x t]) Q E s :=
  P.str_of_int hx (h _ _ (S.toks _))

/-! lists -/
theorem St.isLS (S : St b s L G) {l : Addr} {ys : List Str} (h : (l, lstS ys) ∈ L) : ∃ vs n, IsL s.heap l vs n ∧ StrsAre vs.toList ys :=
by
  obtain ⟨_, e, vs, n, rfl, hs⟩ := S.get h
  exact ⟨vs, n, e, hs⟩
theorem St.isLV (S : St b s L G) {l : Addr} {vs : List Value} (h : (l, lstV vs) ∈ L) : ∃ n, IsL s.heap l vs.toArray n :=
by
  obtain ⟨_, e, n, rfl⟩ := S.get h
  exact ⟨n, e⟩
theorem size_of {vs : Array Value} {ys : List Str} (h : StrsAre vs.toList ys) : vs.size = ys.length := by have := strsAre_len h; simpa using this

theorem r_lenS {l : Addr} {ys : List Str} (S : St b s L G) (hl : (l, lstS ys) ∈ L) (hz : ys.length ≤ sizeLine) (h : ∀ t s', St b s' L G → Q (.int ys.length t) s') : wpAny (model prog w) A (call (.builtin "len") [.ref l]) Q E s := by
  obtain ⟨vs, n, hv, hs⟩ := S.isLS hl
  refine call_len_list hv.isList ?_ ?_
  · rw [size_of hs]; have : sizeLine < 2 ^ 63 := by decide
    omega
  · rw [size_of hs]; exact h _ _ (S.toks _)
theorem r_lenV {l : Addr} {vs : List Value} (S : St b s L G) (hl : (l, lstV vs) ∈ L) (hz : vs.length ≤ sizeLine) (h : ∀ t s', St b s' L G → Q (.int vs.length t) s') : wpAny (model prog w) A (call (.builtin "len") [.ref l]) Q E s := by
  obtain ⟨n, hv⟩ := S.isLV hl
  refine call_len_list hv.isList ?_ ?_
  · rw [List.size_toArray]; have : sizeLine < 2 ^ 63 := by decide
    omega
  · rw [List.size_toArray]; exact h _ _ (S.toks _)

theorem r_itemS {value slice : Expr} {l : Addr} {ys : List Str} {k : Int} {u : Tok} {y : Str} (S : St b s L G) (hl : (l, lstS ys) ∈ L) (h0 : 0 ≤ k) (hz : k < 2 ^ 63) (hy : ys[k.toNat]? = some y) (h : ∀ t, Q (.str y t) s)
    (hs : subscripted slice false (.ref l) (.int k u) = operate [.ref l, .int k u] (getItem (.ref l) (.int k u)) := by kernel_rfl) :
    wpAny (model prog w) A (subscriptTail value slice (.ref l) (.int k u)) Q E s := by
  obtain ⟨vs, n, hv, hst⟩ := S.isLS hl
  obtain ⟨t, ht⟩ := strsAre_get hst hy
  exact tail_any hv.isList.typeIs slot_list_getitem.lookup (wpAny_getItem_list hv.isList h0 hz (by rw [← Array.getElem?_toList]; exact ht) (h t)) hs
theorem r_itemV {value slice : Expr} {l : Addr} {vs : List Value} {k : Int} {u : Tok} {v : Value} (S : St b s L G) (hl : (l, lstV vs) ∈ L) (h0 : 0 ≤ k) (hz : k < 2 ^ 63) (hy : vs[k.toNat]? = some v) (h : Q v s)
    (hs : subscripted slice false (.ref l) (.int k u) = operate [.ref l, .int k u] (getItem (.ref l) (.int k u)) := by kernel_rfl) :
    wpAny (model prog w) A (subscriptTail value slice (.ref l) (.int k u)) Q E s := by
  obtain ⟨n, hv⟩ := S.isLV hl
  exact tail_any hv.isList.typeIs slot_list_getitem.lookup (wpAny_getItem_list hv.isList h0 hz (by simpa using hy) h) hs

/-- a method of a list's, of one argument -/
theorem r_meth1 {o e : Expr} {name : Str} {apos pos : Pos} {id : String} (slot : Slot "list" name id) (hty : typeOf (.builtin id) = pure (.type "method_descriptor"))
    (h : wpAny (model prog w) A (eval o env) (fun ov s₁ => ∃ D ob, ov = .ref D ∧ s₁.heap.get? D = some ob ∧ ob.cls = .type "list" ∧ ob.dict = none ∧ wpAny (model prog w) A (callWith pos (.builtin id) [.ref D] [(false, eval e env)] []) Q E s₁) E s)
    (hbase : attributeBase o name env (eval o env) = eval o env := by kernel_rfl) (hline : (apos.endLine == pos.line) = true := by kernel_rfl) (htrees : backTo pos (starEach [e] env) = [(false, eval e env)] := by kernel_rfl) :
    wpAny (model prog w) A (eval (.Call (.Attribute o name apos) [e] [] pos) env) Q E s := by
  refine wpAny_Call_method (T := "list") (id := id) hbase (by rw [htrees]; rfl) hline F.plainAttrs_list slot hty (wpAny_mono h (fun ov s₁ h₁ => ?_) fun _ _ x => x)
  obtain ⟨D, ob, rfl, ho, hc, hd, h₂⟩ := h₁
  refine ⟨⟨ob, ho, hc⟩, fun a e => ?_, by rw [htrees]; exact h₂⟩
  cases e
  exact ⟨ob, ho, hd⟩
end
end Mine

-- part LD2
open PySem PySem.W PySem.W.X PyProof.Rows PySem.Calls PySem.Spec PySem.SeqAt
set_option Elab.async false
set_option maxRecDepth 100000
set_option maxHeartbeats 1000000
namespace Mine

/-- l[lo:hi] -/
def pick {α : Type} (l : List α) (lo hi : Option Int) : List α := (l.drop (kms_lo lo l.length)).take (kms_hi hi l.length - kms_lo lo l.length)
theorem strs_drop {vs : List Value} {ys : List Str} (h : StrsAre vs ys) : ∀ n, StrsAre (vs.drop n) (ys.drop n) := by
  induction h with
  | nil => intro n; simpa using StrsAre.nil
  | cons y t h ih => intro n; cases n with
    | zero => exact .cons y t h
    | succ n => simpa using ih n
theorem strs_take {vs : List Value} {ys : List Str} (h : StrsAre vs ys) : ∀ n, StrsAre (vs.take n) (ys.take n) := by
  induction h with
  | nil => intro n; simpa using StrsAre.nil
  | cons y t h ih => intro n; cases n with
    | zero => exact .nil
    | succ n => simpa using StrsAre.cons y t (ih n)

section
variable {prog : Program} {w : World} {A : Around} {E : Value → Shared → Prop} {b s : Shared} {L L' X : Ledger} {G : GLedger} {env : Env} {Lr : Ledger} {d : Nat} {mg mb : Str → Option Value} {names : List Str} {Q : Value → Shared → Prop}

/-- a cut of a list of texts -/
theorem r_slcS {value : Expr} {lower upper : Option Expr} {p pos : Pos}
    (h : wpAny (model prog w) A (eval value env) (fun o s₁ => ∃ l, o = .ref l ∧ wpAny (model prog w) A (evalPart lower env) (fun vl s₂ => wpAny (model prog w) A (evalPart upper env) (fun vu s₃ =>
      ∃ lo hi ys L G, IsPart vl lo ∧ IsPart vu hi ∧ St b s₃ L G ∧ (l, lstS ys) ∈ L ∧ ys.length ≤ sizeLine ∧ ∀ a s', St b s' ((a, lstS (pick ys lo hi)) :: L) G → Q (.ref a) s') E s₂) E s₁) E s)
    (ht : ∀ o r, letTemporaryGo value o r = pure () := by intro _ _; kernel_rfl) :
    wpAny (model prog w) A (eval (.Subscript value (.Slice lower upper none p) pos) env) Q E s := by
  refine wpAny_Subscript_list_slice (wpAny_mono h (fun o s₁ h₁ => ?_) fun _ _ x => x) ht
  obtain ⟨l, rfl, h₁⟩ := h₁
  refine wpAny_mono h₁ (fun vl s₂ h₂ => wpAny_mono h₂ (fun vu s₃ h₃ => ?_) fun _ _ x => x) fun _ _ x => x
  obtain ⟨lo, hi, ys, L, G, hlo, hhi, S, hl, hz, hQ⟩ := h₃
  obtain ⟨vs, n, hv, hs⟩ := S.isLS hl
  refine ⟨l, vs, lo, hi, rfl, hv.isList, by rw [size_of hs]; exact hz, hlo, hhi, ?_⟩
  have S₁ := S.push { cls := .type "slice", data := .fields #[vl, vu, .none] } s₃.toks
  have e : s₃.heap.objs.size + 1 = (s₃.heap.push { cls := .type "slice", data := .fields #[vl, vu, .none] }).objs.size := by rw [Heap.size_push]
  rw [e]
  refine hQ _ _ (S₁.alloc (o := { cls := .type "list", data := .seq (slicePick vs lo hi none) }) ⟨_, 0, rfl, ?_⟩)
  rw [kms_pick_eq]
  have hsz := strsAre_len hs
  show StrsAre (kms_pick vs.toList lo hi) (pick ys lo hi)
  unfold kms_pick pick
  rw [hsz]
  exact strs_take (strs_drop hs _) _

/-! append, extend -/
theorem r_appS {pos : Pos} {l : Addr} {ys : List Str} {x : Sem Value} (h : wpAny (model prog w) A x (fun v s₁ => ∃ y t L L' G, v = .str y t ∧ St b s₁ L G ∧ (l, lstS ys) ∈ L ∧ Upd L l (lstS (ys ++ [y])) L' ∧ ys.length ≤ sizeLine ∧ ∀ s', St b s' L' G → Q .none s') E s) :
    wpAny (model prog w) A (callWith pos (.builtin "list.append") [.ref l] [(false, x)] []) Q E s := by
  refine P.append_list (wpAny_mono h (fun v s₁ h₁ => ?_) fun _ _ x => x)
  obtain ⟨y, t, L, L', G, rfl, S, hl, hu, hz, hQ⟩ := h₁
  obtain ⟨vs, n, hv, hs⟩ := S.isLS hl
  refine ⟨vs, n, by rw [size_of hs]; exact hz, hv, ?_⟩
  refine hQ _ (S.set hu ⟨_, hl⟩ (Heap.SameBut.update ..).extBut (hv.update _) ⟨_, _, rfl, ?_⟩)
  simpa using hs.append' (.cons y t .nil)
theorem r_appV {pos : Pos} {l : Addr} {vs : List Value} {x : Sem Value} (h : wpAny (model prog w) A x (fun v s₁ => ∃ L L' G, St b s₁ L G ∧ (l, lstV vs) ∈ L ∧ Upd L l (lstV (vs ++ [v])) L' ∧ vs.length ≤ sizeLine ∧ ∀ s', St b s' L' G → Q .none s') E s) :
    wpAny (model prog w) A (callWith pos (.builtin "list.append") [.ref l] [(false, x)] []) Q E s := by
  refine P.append_list (wpAny_mono h (fun v s₁ h₁ => ?_) fun _ _ x => x)
  obtain ⟨L, L', G, S, hl, hu, hz, hQ⟩ := h₁
  obtain ⟨n, hv⟩ := S.isLV hl
  refine ⟨vs.toArray, n, by simpa using hz, hv, ?_⟩
  refine hQ _ (S.set hu ⟨_, hl⟩ (Heap.SameBut.update ..).extBut (hv.update _) ?_)
  exact ⟨_, by rw [show (vs ++ [v]).toArray = vs.toArray.push v by simp]⟩
theorem r_extS {pos : Pos} {l : Addr} {ys : List Str} {x : Sem Value} (h : wpAny (model prog w) A x (fun v s₁ => ∃ l' zs L L' G, v = .ref l' ∧ St b s₁ L G ∧ (l, lstS ys) ∈ L ∧ (l', lstS zs) ∈ L ∧ Upd L l (lstS (ys ++ zs)) L' ∧ ys.length + zs.length ≤ sizeLine ∧ ∀ s', St b s' L' G → Q .none s') E s) :
    wpAny (model prog w) A (callWith pos (.builtin "list.extend") [.ref l] [(false, x)] []) Q E s := by
  refine P.extend_list (wpAny_mono h (fun v s₁ h₁ => ?_) fun _ _ x => x)
  obtain ⟨l', zs, L, L', G, rfl, S, hl, hl', hu, hz, hQ⟩ := h₁
  obtain ⟨vs, n, hv, hs⟩ := S.isLS hl
  obtain ⟨us, m, hv', hs'⟩ := S.isLS hl'
  have h1 := size_of hs
  have h2 := size_of hs'
  refine ⟨l', vs, us, n, m, by omega, by omega, PyProof.Rows.extend_door (by omega), rfl, hv, hv', ?_⟩
  refine hQ _ (S.set hu ⟨_, hl⟩ (Heap.SameBut.update ..).extBut (hv.update _) ⟨_, _, rfl, ?_⟩)
  simpa using hs.append' hs'
/-- rows.append(e), rows.extend(e) as statements -/
theorem r_stmtE {e : Expr} {pos : Pos} {Q : Flow → Shared → Prop} (h : wpAny (model prog w) A (eval e env) (fun v s' => v = .none ∧ Q .next s') E s)
    (hi : interactive env = false := by kernel_rfl) (hs : swapsWith e none pos.line env = pure false := by kernel_rfl) : wpAny (model prog w) A (exec (.Expr e pos) env) Q E s :=
  wpAny_Expr (wpAny_mono h (fun v s' h' => by obtain ⟨rfl, h'⟩ := h'; exact h') fun _ _ x => x) hi hs

/-! two lists of texts compared -/
theorem reads_strs {h : Heap} : ∀ {vs : List Value} {ys : List Str}, StrsAre vs ys → ReadsAll h vs (ys.map PyData.str) []
  | _, _, .nil => .nil
  | _, _, .cons y t hr => .cons (.str y t) (reads_strs hr)
theorem reads_strsL {h : Heap} {a : Addr} {vs : Array Value} {n : Nat} {ys : List Str} (hl : IsL h a vs n) (hs : StrsAre vs.toList ys) : Reads h (.ref a) (.list (ys.map PyData.str)) [a] := by
  obtain ⟨l⟩ := vs
  exact .list hl rfl rfl (reads_strs hs)
/-- texts of real signs -/
def OkS (ys : List Str) : Prop := ∀ y ∈ ys, PyData.strOk y = true
theorem canLay_strs : ∀ ys : List Str, OkS ys → PyData.canLayAll0 (ys.map PyData.str) = true
  | [], _ => rfl
  | y :: r, h => by simp only [List.map_cons, PyData.canLayAll0, PyData.canLay0, canLay_strs r (fun z hz => h z (.tail _ hz)), h y (.head _), Bool.and_self]
theorem depth_strs : ∀ ys : List Str, PyData.depthAll (ys.map PyData.str) ≤ 1
  | [] => by simp [PyData.depthAll]
  | _ :: r => by
    simp only [List.map_cons, PyData.depthAll, PyData.depth]
    have := depth_strs r
    omega
theorem shaped_strs {ys : List Str} (h : OkS ys) : shaped (.list (ys.map PyData.str)) = true := by
  have h1 := depth_strs ys
  have h2 : PyData.depth (.list (ys.map PyData.str)) ≤ 64 := by simp only [PyData.depth]; omega
  simp only [shaped, Bool.and_eq_true, decide_eq_true_eq]
  exact ⟨by simp only [PyData.canLay0]; exact canLay_strs ys h, h2⟩
theorem noMix_strs : ∀ ns ms : List Str, noMixAll (ns.map PyData.str) (ms.map PyData.str) = true
  | [], [] => rfl
  | [], _ :: _ => rfl
  | _ :: _, [] => rfl
  | _ :: r, _ :: q => by simp only [List.map_cons, noMixAll, noMix, noMix_strs r q, Bool.and_self]
theorem same_strs : ∀ ns ms : List Str, PySem.Spec.sameAll (ns.map PyData.str) (ms.map PyData.str) = decide (ns = ms)
  | [], [] => by simp [PySem.Spec.sameAll]
  | [], _ :: _ => by simp [PySem.Spec.sameAll]
  | _ :: _, [] => by simp [PySem.Spec.sameAll]
  | n :: r, k :: q => by
    simp only [List.map_cons, PySem.Spec.sameAll, PySem.Spec.same, same_strs r q]
    by_cases h : n = k <;> simp [h]
theorem r_eqLS {l l' : Addr} {ys zs : List Str} (S : St b s L G) (hl : (l, lstS ys) ∈ L) (hl' : (l', lstS zs) ∈ L) (ho : OkS ys) (ho' : OkS zs) (hu : A.units + 64 < cLine) (h : Q (.bool (decide (ys = zs))) s) : wpAny (model prog w) A (compareOp .Eq (.ref l) (.ref l')) Q E s := by
  obtain ⟨vs, n, hv, hs⟩ := S.isLS hl
  obtain ⟨us, m, hv', hs'⟩ := S.isLS hl'
  exact eq_dataH_same (reads_strsL hv hs) (reads_strsL hv' hs') (shaped_strs ho) (shaped_strs ho') hu (by simp only [noMix]; exact noMix_strs ys zs) (by simp only [PySem.Spec.same]; rw [same_strs]; exact h)
theorem r_neLS {l l' : Addr} {ys zs : List Str} (S : St b s L G) (hl : (l, lstS ys) ∈ L) (hl' : (l', lstS zs) ∈ L) (ho : OkS ys) (ho' : OkS zs) (hu : A.units + 64 < cLine) (h : Q (.bool (!decide (ys = zs))) s) : wpAny (model prog w) A (compareOp .NotEq (.ref l) (.ref l')) Q E s := by
  obtain ⟨vs, n, hv, hs⟩ := S.isLS hl
  obtain ⟨us, m, hv', hs'⟩ := S.isLS hl'
  exact ne_dataH_same (reads_strsL hv hs) (reads_strsL hv' hs') (shaped_strs ho) (shaped_strs ho') hu (by simp only [noMix]; exact noMix_strs ys zs) (by simp only [PySem.Spec.same]; rw [same_strs]; exact h)
end
end Mine

-- part LE
open PySem PySem.W PySem.W.X PyProof.Rows PySem.Calls PySem.Spec PySem.SeqAt
set_option Elab.async false
set_option maxRecDepth 100000
set_option maxHeartbeats 1000000
namespace Mine

section
variable {prog : Program} {w : World} {A : Around} {E : Value → Shared → Prop} {b s : Shared} {L L' X : Ledger} {G : GLedger} {env : Env} {Lr : Ledger} {d : Nat} {mg mb : Str → Option Value} {names : List Str} {Q : Value → Shared → Prop}

def vals (binds : List (Str × Value)) : List (Str × VP) := binds.map fun p => (p.1, vE p.2)

/-- a def of the text's, called -/
theorem r_callDef {f : Addr} {name : Str} {params : Arguments} {body : List Stmt} {scope : Scope} {cd : Value} {vs : List Value} (binds : List (Str × Value)) (B : Bs b mg mb names) (F : FnAt b mg f name params body scope cd) (S : St b s L G) (hroom : A.depth < recursionLimit)
    (hbind : ∀ pm doc, bindArgs (docDef name params body scope pm cd doc) ⟨vs, []⟩ = pure binds)
    (hloc : ∀ p ∈ binds, scope.names.lookup p.1 = some .local) (hlk : ∀ p ∈ binds, binds.reverse.lookup p.1 = some p.2)
    (h : ∀ C s', St b s' ((C, frC (vals binds)) :: L) G → wpAny (model prog w) (A.deeper (envOf name scope C f cd)) (execs body (envOf name scope C f cd)) (fun fl s'' => Q (match fl with | .ret v => v | _ => .none) s'') NoE s')
    (hco : scope.isCoroutine = false) (hgen : scope.isGenerator = false) (hk : scope.kind = .function) (hcell : ∀ y ∈ scope.names, y.2 ≠ .cell) :
    wpAny (model prog w) A (call (.ref f) vs) Q E s := by
  obtain ⟨o, pm, doc, ho, hd⟩ := F.obj
  refine wpAny_call (codeAny_call_function hroom (S.keep _ _ ho) hd hco hgen rfl (F.code.keeps S.keep) ?_)
  rw [hbind]
  refine wpAny_pure (wpAny_newFunctionEnv (scope := scope) (binds := binds) hcell hloc (fun h' hn hsb => ?_) hk)
  have hlim : h'.NoLimit := (B.nolimit.keeps S.keep).fresh _ hsb
  refine ⟨hlim, ?_⟩
  have hkp : ∀ a o, s.heap.get? a = some o → h'.get? a = some o := fun a o e => hsb.extBut a o (Nat.ne_of_lt (Heap.lt_size e)) (Heap.get?_push_of_some _ e)
  obtain ⟨oC, hoC, hcC⟩ := frC_of (fl := vals binds) hn (fun p hp => by
    obtain ⟨q, hq, rfl⟩ := List.mem_map.mp hp
    exact ⟨q.2, hlk q hq, rfl⟩)
  have S1 : St b { s with heap := h', toks := s.toks + binds.length } ((s.heap.objs.size, frC (vals binds)) :: L) G := S.new (heap_get_size _) hkp hoC hcC
  show codeAny _ _ (.func body (envOf name scope s.heap.objs.size f cd)) _ _
  refine codeAny_func (wpAny_mono (h _ _ S1) (fun fl s'' hq => hq) fun _ _ x => x.elim)

/-! ranges -/
def rngC (x y z : Int) : Cell := fun o => ∃ t u v, o = { cls := .type "range", data := .fields #[.int x t, .int y u, .int z v] }
def ritC (x left step : Int) : Cell := fun o => o = { cls := .type "range_iterator", data := .fields #[rawInt x, rawInt left, rawInt step] }
theorem r_range1 {n : Int} {t : Tok} (S : St b s L G) (h : ∀ a s', St b s' ((a, rngC 0 n 1) :: L) G → Q (.ref a) s') : wpAny (model prog w) A (call (.type "range") [.int n t]) Q E s :=
  call_range_1 (h _ _ (S.alloc ⟨_, _, _, rfl⟩ _))

/-- the rngI of a range -/
def rngI (x step : Int) (n : Nat) : List Int := (List.range n).map fun (i : Nat) => x + (i : Int) * step
theorem rngI_succ (x step : Int) (n : Nat) : rngI x step (n + 1) = x :: rngI (x + step) step n := by
  unfold rngI
  rw [List.range_succ_eq_map, List.map_cons, List.map_map]
  congr 1
  · simp
  · apply List.map_congr_left
    intro i _
    simp only [Function.comp]
    have : ((i.succ : Nat) : Int) = (i : Int) + 1 := by omega
    rw [this, Int.add_mul]
    omega

theorem gives_rit {I : Addr} {step : Int} : ∀ (n : Nat) (x : Int), Gives prog w b Lr d (.ref I) ((rngI x step n).map vI) [(I, ritC x n step)] [] := by
  intro n
  induction n with
  | zero =>
    intro x
    show Gives prog w b Lr d (.ref I) [] _ _
    unfold Gives
    intro A E s F GF Q hA hF S hQ
    obtain ⟨_, ho, rfl⟩ := S.get (.head _)
    exact wpAny_pyNext_range_end hA.handled ho (by simp) fun h' he => hQ _ (S.drop1 he)
  | succ n ih =>
    intro x
    rw [rngI_succ]
    intro A E s F GF Q hA hF S hQ
    obtain ⟨_, ho, rfl⟩ := S.get (.head _)
    refine wpAny_pyNext_range_item ho (by omega) fun h' hit hsb => ?_
    refine hQ _ _ _ _ ⟨_, rfl⟩ (ih (x + step)) (S.set (P' := ritC (x + step) n step) .head ⟨_, .head _⟩ hsb.extBut hit ?_ _)
    show _ = _
    have e : ((n + 1 : Nat) : Int) - 1 = (n : Int) := by omega
    rw [e]
theorem selfI_rit {I : Addr} {x l st : Int} : SelfI prog w b (.ref I) [(I, ritC x l st)] := fun A E s F GF Q S h => by
  obtain ⟨_, ho, rfl⟩ := S.get (.head _)
  exact wpAny_pyIter_rangeiter ho h
theorem givesI_rng {r : Addr} {x y z : Int} {n : Nat} (hr : (r, rngC x y z) ∈ Lr) (hsmall : Builtin.Range.small x y z = true) (hn : Builtin.Range.rangeSize x y z = n) : GivesI prog w b Lr d (.ref r) ((rngI x z n).map vI) [] [] := by
  intro A E s F GF Q hA hF S hQ
  obtain ⟨_, ho, t, u, v, rfl⟩ := S.get (hF _ hr)
  refine wpAny_pyIter_range ho hsmall ?_
  rw [hn]
  exact hQ _ _ _ _ (gives_rit n x) selfI_rit (S.alloc (P := ritC x n z) rfl)
end
end Mine

-- part LF
open PySem PySem.W PySem.W.X PyProof.Rows PySem.Calls PySem.Spec PySem.SeqAt
set_option Elab.async false
set_option maxRecDepth 100000
set_option maxHeartbeats 200000
namespace Mine

section
variable {prog : Program} {w : World} {A : Around} {E : Value → Shared → Prop} {b s : Shared} {L L' X : Ledger} {G : GLedger} {env : Env} {Lr : Ledger} {d : Nat} {mg mb : Str → Option Value} {names : List Str} {Q : Value → Shared → Prop}

/-! calls by name -/
theorem r_callB1 {x : Str} {e : Expr} {p pos : Pos} {id : String} (B : Bs b mg mb names) (S : St b s L G) (hv : bootBuiltins x = some (.builtin id))
    (h : wpAny (model prog w) A (eval e env) (fun v s₁ => wpAny (model prog w) A (call (.builtin id) [v]) Q E s₁) E s)
    (hfree : x ∉ names := by decide) (hn : x ≠ "__name__" := by decide) (hg : env.globals = mainGlobals := by kernel_rfl) (hb : env.builtins = builtinsNs := by kernel_rfl)
    (hk : env.scope.kind = .function := by kernel_rfl) (hx : env.kindOf x = some .globalImplicit := by kernel_rfl) (hd : (x == ("__debug__" : Str)) = false := by decide)
    (ht : backTo pos (starEach [e] env) = [(false, eval e env)] := by kernel_rfl) :
    wpAny (model prog w) A (eval (.Call (.Name x p) [e] [] pos) env) Q E s := by
  refine wpAny_Call_NameR (r_bname B S hv ?_ hfree hn hg hb hk hx hd)
  rw [ht]
  exact Calls.callWith_builtin rfl (Calls.evalArgs_plain (Calls.spliced_cons (wpAny_mono h (fun _ _ h₁ => Calls.spliced_nil h₁) fun _ _ e => e)))
theorem r_callT1 {x : Str} {e : Expr} {p pos : Pos} {T : String} (B : Bs b mg mb names) (S : St b s L G) (hv : bootBuiltins x = some (.type T))
    (h : wpAny (model prog w) A (eval e env) (fun v s₁ => wpAny (model prog w) A (call (.type T) [v]) Q E s₁) E s)
    (hfree : x ∉ names := by decide) (hn : x ≠ "__name__" := by decide) (hg : env.globals = mainGlobals := by kernel_rfl) (hb : env.builtins = builtinsNs := by kernel_rfl)
    (hk : env.scope.kind = .function := by kernel_rfl) (hx : env.kindOf x = some .globalImplicit := by kernel_rfl) (hd : (x == ("__debug__" : Str)) = false := by decide)
    (ht : backTo pos (starEach [e] env) = [(false, eval e env)] := by kernel_rfl) :
    wpAny (model prog w) A (eval (.Call (.Name x p) [e] [] pos) env) Q E s := by
  refine wpAny_Call_NameR (r_bname B S hv ?_ hfree hn hg hb hk hx hd)
  rw [ht]
  exact PyProof.Rows.callWith_type rfl (Calls.evalArgs_plain (Calls.spliced_cons (wpAny_mono h (fun _ _ h₁ => Calls.spliced_nil h₁) fun _ _ e => e)))
theorem r_callT3 {x : Str} {e₁ e₂ e₃ : Expr} {p pos : Pos} {T : String} (B : Bs b mg mb names) (S : St b s L G) (hv : bootBuiltins x = some (.type T))
    (h : wpAny (model prog w) A (eval e₁ env) (fun v₁ s₁ => wpAny (model prog w) A (eval e₂ env) (fun v₂ s₂ => wpAny (model prog w) A (eval e₃ env) (fun v₃ s₃ => wpAny (model prog w) A (call (.type T) [v₁, v₂, v₃]) Q E s₃) E s₂) E s₁) E s)
    (hfree : x ∉ names := by decide) (hn : x ≠ "__name__" := by decide) (hg : env.globals = mainGlobals := by kernel_rfl) (hb : env.builtins = builtinsNs := by kernel_rfl)
    (hk : env.scope.kind = .function := by kernel_rfl) (hx : env.kindOf x = some .globalImplicit := by kernel_rfl) (hd : (x == ("__debug__" : Str)) = false := by decide)
    (ht : backTo pos (starEach [e₁, e₂, e₃] env) = [(false, eval e₁ env), (false, eval e₂ env), (false, eval e₃ env)] := by kernel_rfl) :
    wpAny (model prog w) A (eval (.Call (.Name x p) [e₁, e₂, e₃] [] pos) env) Q E s := by
  refine wpAny_Call_NameR (r_bname B S hv ?_ hfree hn hg hb hk hx hd)
  rw [ht]
  exact PyProof.Rows.callWith_type rfl (Calls.evalArgs_plain (Calls.spliced_cons (wpAny_mono h (fun _ _ h₁ => Calls.spliced_cons (wpAny_mono h₁ (fun _ _ h₂ => Calls.spliced_cons (wpAny_mono h₂ (fun _ _ h₃ => Calls.spliced_nil h₃) fun _ _ e => e)) fun _ _ e => e)) fun _ _ e => e)))
/-- a def of two arguments, called by its name -/
theorem r_callD2 {x : Str} {e₁ e₂ : Expr} {p pos : Pos} {f : Addr} {params : Arguments} {body : List Stmt} {scope : Scope} {cd : Value} (B : Bs b mg mb names) (F : FnAt b mg f x params body scope cd) (S : St b s L G)
    (h : wpAny (model prog w) A (eval e₁ env) (fun v₁ s₁ => wpAny (model prog w) A (eval e₂ env) (fun v₂ s₂ => (∃ L G, St b s₂ L G) ∧ wpAny (model prog w) A (call (.ref f) [v₁, v₂]) Q E s₂) E s₁) E s)
    (hg : env.globals = mainGlobals := by kernel_rfl) (hk : env.scope.kind = .function := by kernel_rfl) (hx : env.kindOf x = some .globalImplicit := by kernel_rfl) (hd : (x == ("__debug__" : Str)) = false := by decide)
    (ht : backTo pos (starEach [e₁, e₂] env) = [(false, eval e₁ env), (false, eval e₂ env)] := by kernel_rfl) :
    wpAny (model prog w) A (eval (.Call (.Name x p) [e₁, e₂] [] pos) env) Q E s := by
  refine wpAny_Call_NameR (r_gname B S F.at_ ?_ hg hk hx hd)
  rw [ht]
  obtain ⟨o, pm, doc, ho, hdat⟩ := F.obj
  refine Calls.callWith_function (o := o) (fd := docDef x params body scope pm cd doc) (Calls.evalArgs_plain (Calls.spliced_cons (wpAny_mono h (fun _ _ h₁ => Calls.spliced_cons (wpAny_mono h₁ (fun _ _ h₂ => Calls.spliced_nil ?_) fun _ _ e => e)) fun _ _ e => e)))
  obtain ⟨⟨_, _, S₂⟩, h₂⟩ := h₂
  exact ⟨⟨S₂.keep _ _ ho, hdat⟩, h₂⟩

/-! a list of texts, written out -/
inductive Lits : List Expr → List Str → Prop
  | nil : Lits [] []
  | cons {y : Str} {k : Nat} {p : Pos} {r : List Expr} {ys : List Str} : Lits r ys → Lits (.Constant (.str y) k p :: r) (y :: ys)
theorem r_splS {pos : Pos} {elts : List Expr} {ys : List Str} (he : Lits elts ys) : ∀ {s : Shared} {Q : List Value → Shared → Prop}, St b s L G → (∀ vs s', StrsAre vs ys → St b s' L G → Q vs s') →
    wpAny (model prog w) A (spliced (backTo pos (starEach elts env))) Q E s := by
  induction he with
  | nil => intro s Q S h; exact Calls.spliced_nil (h _ _ .nil S)
  | @cons y k p r ys _ ih =>
    intro s Q S h
    show wpAny _ _ (spliced ((false, eval (.Constant (.str y) k p) env) :: backTo pos (starEach r env))) _ _ _
    refine Calls.spliced_cons (r_str S fun t s₁ S₁ => ?_)
    exact ih S₁ fun vs s' hs S' => h _ _ (.cons y t hs) S'
theorem r_listS {elts : List Expr} {pos : Pos} (ys : List Str) (S : St b s L G) (h : ∀ a s', St b s' ((a, lstS ys) :: L) G → Q (.ref a) s') (he : Lits elts ys := by repeat (first | exact Lits.nil | refine Lits.cons ?_)) (hz : ys.length ≤ sizeLine := by decide) :
    wpAny (model prog w) A (eval (.List elts pos) env) Q E s :=
  wpAny_List (r_splS he S fun vs s' hs S' => ⟨by rw [strsAre_len hs]; exact hz, h _ _ (S'.alloc (P := lstS ys) (lstS_mk hs))⟩)
end
end Mine

-- part PL
open PySem PySem.Builtin.Str PySem.W PySem.W.X PyProof.Rows PySem.Calls PySem.Spec PySem.SeqAt
set_option Elab.async false
set_option maxRecDepth 100000
set_option maxHeartbeats 400000
set_option linter.all false
namespace Mine

/-! texts as lists of signs -/
theorem str_ext {x y : Str} (h : x.cps.toList = y.cps.toList) : x = y := by
  cases x; cases y
  congr 1
  exact Array.toList_inj.mp h
theorem str_app (x y : Str) : (x ++ y).cps.toList = x.cps.toList ++ y.cps.toList := by
  show (x.cps ++ y.cps).toList = _
  simp
theorem str_len (x : Str) : x.length = x.cps.toList.length := by unfold Str.length; simp
theorem str_len_app (x y : Str) : (x ++ y).length = x.length + y.length := by rw [str_len, str_app, List.length_append, ← str_len, ← str_len]

theorem fm_range {α : Type} (l : List α) (a : Nat) : ∀ n, a + n ≤ l.length → (List.range n).filterMap (fun k => l[a + k]?) = (l.drop a).take n := by
  intro n
  induction n with
  | zero => intro _; simp
  | succ n ih =>
    intro h
    rw [List.range_succ, List.filterMap_append, ih (by omega), List.take_add_one]
    congr 1
    rw [List.getElem?_drop]
    rw [List.getElem?_eq_getElem (by omega)]
    simp [List.getElem?_eq_getElem (show a + n < l.length by omega)]

theorem slice_pre (x : Str) : Txt.slice x none (some 2) = ⟨(x.cps.toList.take 2).toArray⟩ := by
  have hi : strSliceIndices none (some 2) 1 x.length = List.range (min 2 x.length) := by
    unfold strSliceIndices sliceRange
    simp only [show (1 : Int) > 0 by decide, if_true, show ¬ ((2 : Int) < 0) by decide, if_false]
    by_cases h0 : x.length = 0
    · rw [h0]; rfl
    · rw [if_pos (by omega)]
      have e : ((max 0 (min 2 (x.length : Int)) - 0 + 1 - 1) / 1).toNat = min 2 x.length := by rw [Int.ediv_one]; omega
      rw [e]
      conv => rhs; rw [← List.map_id (List.range _)]
      apply List.map_congr_left
      intro k _
      simp
  unfold Txt.slice
  rw [hi]
  have hlen := str_len x
  split
  · rename_i h
    simp only [List.length_range, Bool.and_eq_true, beq_iff_eq] at h
    refine str_ext ?_
    rw [List.take_of_length_le (by omega)]
  · congr 2
    have := fm_range x.cps.toList 0 (min 2 x.length) (by omega)
    simp only [Nat.zero_add, List.drop_zero] at this
    simp only [← Array.getElem?_toList]
    rw [this]
    rw [List.take_eq_take_iff]
    omega
theorem slice_suf (x : Str) : Txt.slice x (some 2) none = ⟨(x.cps.toList.drop 2).toArray⟩ := by
  have hi : strSliceIndices (some 2) none 1 x.length = (List.range (x.length - 2)).map (2 + ·) := by
    unfold strSliceIndices sliceRange
    simp only [show (1 : Int) > 0 by decide, if_true, show ¬ ((2 : Int) < 0) by decide, if_false]
    by_cases h0 : 2 < x.length
    · rw [if_pos (by omega)]
      have e : (((x.length : Int) - max 0 (min 2 (x.length : Int)) + 1 - 1) / 1).toNat = x.length - 2 := by rw [Int.ediv_one]; omega
      rw [e]
      apply List.map_congr_left
      intro k _
      omega
    · rw [if_neg (by omega), show x.length - 2 = 0 by omega]
      rfl
  unfold Txt.slice
  rw [hi]
  have hlen := str_len x
  split
  · rename_i h
    simp only [List.length_map, List.length_range, Bool.and_eq_true, beq_iff_eq] at h
    refine str_ext ?_
    have : x.cps.toList.length = 0 := by omega
    rw [List.length_eq_zero_iff] at this
    rw [this]
    rfl
  · rw [List.filterMap_map]
    congr 2
    by_cases h2 : 2 ≤ x.length
    · have := fm_range x.cps.toList 2 (x.length - 2) (by omega)
      simp only [← Array.getElem?_toList]
      show List.filterMap (fun k => x.cps.toList[2 + k]?) _ = _
      rw [this, List.take_of_length_le (by rw [List.length_drop]; omega)]
    · rw [show x.length - 2 = 0 by omega, List.drop_of_length_le (by omega)]
      rfl

/-- a row of a two-sign head -/
theorem head2 {h y : Str} (hh : h.cps.toList.length = 2) : Txt.slice (h ++ y) none (some 2) = h := by
  rw [slice_pre]
  refine str_ext ?_
  rw [str_app]
  show ((h.cps.toList ++ y.cps.toList).take 2) = _
  rw [List.take_append_of_le_length (by omega), List.take_of_length_le (by omega)]
theorem cut_head {h y : Str} (hh : h.cps.toList.length = 2) : cutS (h ++ y) = y := by
  unfold cutS
  rw [slice_suf]
  refine str_ext ?_
  rw [str_app]
  show ((h.cps.toList ++ y.cps.toList).drop 2) = _
  rw [List.drop_append_of_le_length (by omega), List.drop_of_length_le (by omega)]
  rfl
theorem cut_len (x : Str) : (cutS x).length ≤ x.length := Txt.slice_le x _ _

theorem len_sp : ("  " : Str).cps.toList.length = 2 := by decide +kernel
theorem len_mi : ("- " : Str).cps.toList.length = 2 := by decide +kernel
theorem len_pl : ("+ " : Str).cps.toList.length = 2 := by decide +kernel
theorem keep_sp (tag y : Str) : keepS tag ("  " ++ y) = true := by unfold keepS; rw [head2 len_sp]; simp
theorem keep_mi1 (y : Str) : keepS (tagOf 1) ("- " ++ y) = true := by unfold keepS tagOf; rw [head2 len_mi]; simp
theorem keep_mi2 (y : Str) : keepS (tagOf 2) ("- " ++ y) = false := by unfold keepS tagOf; rw [head2 len_mi]; decide +kernel
theorem keep_pl1 (y : Str) : keepS (tagOf 1) ("+ " ++ y) = false := by unfold keepS tagOf; rw [head2 len_pl]; decide +kernel
theorem keep_pl2 (y : Str) : keepS (tagOf 2) ("+ " ++ y) = true := by unfold keepS tagOf; rw [head2 len_pl]; simp

theorem readS_nil (n : Int) : readS n [] = [] := rfl
theorem readS_app (n : Int) (xs ys : List Str) : readS n (xs ++ ys) = readS n xs ++ readS n ys := by unfold readS; rw [List.filter_append, List.map_append]
theorem readS_keep {n : Int} {x y : Str} (hk : keepS (tagOf n) x = true) (hc : cutS x = y) : readS n [x] = [y] := by unfold readS; simp [hk, hc]
theorem readS_drop {n : Int} {x : Str} (hk : keepS (tagOf n) x = false) : readS n [x] = [] := by unfold readS; simp [hk]
theorem readS_sp (n : Int) (y : Str) : readS n ["  " ++ y] = [y] := readS_keep (keep_sp _ _) (cut_head len_sp)
theorem readS_mi1 (y : Str) : readS 1 ["- " ++ y] = [y] := readS_keep (keep_mi1 _) (cut_head len_mi)
theorem readS_mi2 (y : Str) : readS 2 ["- " ++ y] = [] := readS_drop (keep_mi2 _)
theorem readS_pls1 (ys : List Str) : readS 1 (ys.map fun y : Str => ("+ " : Str) ++ y) = [] := by
  induction ys with
  | nil => rfl
  | cons y r ih => rw [List.map_cons, ← List.singleton_append, readS_app, ih, readS_drop (keep_pl1 y)]; rfl
theorem readS_pls2 (ys : List Str) : readS 2 (ys.map fun y : Str => ("+ " : Str) ++ y) = ys := by
  induction ys with
  | nil => rfl
  | cons y r ih => rw [List.map_cons, ← List.singleton_append, readS_app, ih, readS_keep (keep_pl2 y) (cut_head len_pl)]; rfl

/-! the delta -/
def oddL : List Str := ["?  ^", "", "-", " ", "+x", " -", "x  "]
theorem odd_read : ∀ y ∈ oddL, readS 1 [y] = [] ∧ readS 2 [y] = [] := by decide +kernel
/-- where row next lies in new, from k on (the end: nowhere) -/
def dFar (new : List Str) (row : Str) (k : Nat) : Nat := k + ((new.drop k).takeWhile (· != row)).length
def dStep (new : List Str) (st : List Str × Nat) (row : Str) : List Str × Nat :=
  if dFar new row st.2 < new.length then (st.1 ++ ((new.drop st.2).take (dFar new row st.2 - st.2)).map (fun y : Str => ("+ " : Str) ++ y) ++ ["  " ++ row], dFar new row st.2 + 1)
  else (st.1 ++ ["- " ++ row] ++ [oddL.getD ((st.1.length + 1) % 7) ""], st.2)
def dRun (old new : List Str) : List Str × Nat := old.foldl (dStep new) ([], 0)
def deltaS (old new : List Str) : List Str := (dRun old new).1 ++ (new.drop (dRun old new).2).map (fun y : Str => ("+ " : Str) ++ y)

theorem takeWhile_take {α : Type} (p : α → Bool) : ∀ l : List α, l.take (l.takeWhile p).length = l.takeWhile p
  | [] => rfl
  | a :: r => by
    by_cases h : p a = true
    · rw [List.takeWhile_cons_of_pos h]; simp [takeWhile_take p r]
    · rw [List.takeWhile_cons_of_neg h]; rfl
theorem takeWhile_at {α : Type} (p : α → Bool) : ∀ l : List α, (l.takeWhile p).length < l.length → ∃ a, l[(l.takeWhile p).length]? = some a ∧ p a = false
  | [], h => by simp at h
  | a :: r, h => by
    by_cases hp : p a = true
    · rw [List.takeWhile_cons_of_pos hp] at h ⊢
      simp only [List.length_cons] at h ⊢
      simpa using takeWhile_at p r (by omega)
    · rw [List.takeWhile_cons_of_neg hp]
      exact ⟨a, rfl, by simpa using hp⟩
theorem takeWhile_in {α : Type} (p : α → Bool) : ∀ (l : List α) (j : Nat), j < (l.takeWhile p).length → ∃ a, l[j]? = some a ∧ p a = true
  | [], j, h => by simp at h
  | a :: r, j, h => by
    by_cases hp : p a = true
    · rw [List.takeWhile_cons_of_pos hp] at h
      cases j with
      | zero => exact ⟨a, rfl, hp⟩
      | succ j => simpa using takeWhile_in p r j (by simpa using h)
    · rw [List.takeWhile_cons_of_neg hp] at h
      simp at h
theorem dFar_ge (new : List Str) (row : Str) (k : Nat) : k ≤ dFar new row k := Nat.le_add_right _ _
theorem dFar_le {new : List Str} {row : Str} {k : Nat} (hk : k ≤ new.length) : dFar new row k ≤ new.length := by
  have := (List.takeWhile_prefix (· != row) (l := new.drop k)).length_le
  rw [List.length_drop] at this
  unfold dFar; omega
theorem dFar_in {new : List Str} {row : Str} {k j : Nat} (hk : k ≤ new.length) (h1 : k ≤ j) (h2 : j < dFar new row k) : j < new.length ∧ ∃ y, new[j]? = some y ∧ (y != row) = true := by
  have h3 := dFar_le (row := row) hk
  obtain ⟨y, hy, hp⟩ := takeWhile_in (· != row) (new.drop k) (j - k) (by unfold dFar at h2; omega)
  rw [List.getElem?_drop, show k + (j - k) = j by omega] at hy
  exact ⟨by omega, y, hy, hp⟩
theorem dFar_at {new : List Str} {row : Str} {k : Nat} (h : dFar new row k < new.length) : new[dFar new row k]? = some row := by
  obtain ⟨y, hy, hp⟩ := takeWhile_at (· != row) (new.drop k) (by rw [List.length_drop]; unfold dFar at h; omega)
  rw [List.getElem?_drop] at hy
  unfold dFar
  rw [hy]
  simp only [bne_eq_false_iff_eq] at hp
  rw [hp]

theorem odd_at (k : Nat) : oddL.getD (k % 7) "" ∈ oddL ∧ oddL[k % 7]? = some (oddL.getD (k % 7) "") := by
  have h : k % 7 < oddL.length := Nat.mod_lt _ (by decide)
  rw [List.getD_eq_getElem?_getD, List.getElem?_eq_getElem h]
  exact ⟨List.getElem_mem h, rfl⟩

/-- what the run has read so far -/
structure DInv (pre new : List Str) (st : List Str × Nat) : Prop where
  le : st.2 ≤ new.length
  one : readS 1 st.1 = pre
  two : readS 2 st.1 = new.take st.2
theorem DInv.step {pre new : List Str} {st : List Str × Nat} {row : Str} (h : DInv pre new st) : DInv (pre ++ [row]) new (dStep new st row) := by
  unfold dStep
  split
  · rename_i hlt
    have hge := dFar_ge new row st.2
    refine ⟨by show dFar new row st.2 + 1 ≤ _; omega, ?_, ?_⟩
    · show readS 1 _ = _
      rw [readS_app, readS_app, readS_pls1, readS_sp, h.one, List.append_nil]
    · show readS 2 _ = new.take (dFar new row st.2 + 1)
      rw [readS_app, readS_app, readS_pls2, readS_sp, h.two, List.take_add_one, dFar_at hlt]
      congr 1
      rw [← List.take_add]
      congr 1
      omega
  · obtain ⟨o1, o2⟩ := odd_read _ (odd_at (st.1.length + 1)).1
    refine ⟨h.le, ?_, ?_⟩
    · show readS 1 _ = _
      rw [readS_app, readS_app, readS_mi1, o1, h.one, List.append_nil]
    · show readS 2 _ = new.take st.2
      rw [readS_app, readS_app, readS_mi2, o2, h.two, List.append_nil, List.append_nil]
theorem DInv.run (new : List Str) : ∀ (old pre : List Str) (st : List Str × Nat), DInv pre new st → DInv (pre ++ old) new (old.foldl (dStep new) st)
  | [], pre, st, h => by simpa using h
  | y :: r, pre, st, h => by
    have := DInv.run new r (pre ++ [y]) (dStep new st y) h.step
    simpa using this
theorem dInv (old new : List Str) : DInv old new (dRun old new) := DInv.run new old [] ([], 0) ⟨Nat.zero_le _, rfl, rfl⟩
theorem delta_one (old new : List Str) : readS 1 (deltaS old new) = old := by
  unfold deltaS; rw [readS_app, readS_pls1, (dInv old new).one, List.append_nil]
theorem delta_two (old new : List Str) : readS 2 (deltaS old new) = new := by
  unfold deltaS; rw [readS_app, readS_pls2, (dInv old new).two, List.take_append_drop]

/-! sizes -/
structure Fit (m k : Nat) (xs : List Str) : Prop where
  many : xs.length ≤ m
  long : ∀ x ∈ xs, x.length ≤ k
  ok : OkS xs
theorem dStep_len (new : List Str) (st : List Str × Nat) (row : Str) (h : st.2 ≤ new.length) : (dStep new st row).1.length + st.2 ≤ st.1.length + (dStep new st row).2 + 2 := by
  unfold dStep
  split
  · rename_i hlt
    have := dFar_ge new row st.2
    simp only [List.length_append, List.length_map, List.length_take, List.length_drop, List.length_cons, List.length_nil]
    omega
  · simp only [List.length_append, List.length_cons, List.length_nil]; omega
theorem dRun_len (new : List Str) : ∀ (old pre : List Str) (st : List Str × Nat), DInv pre new st → (old.foldl (dStep new) st).1.length + st.2 ≤ st.1.length + (old.foldl (dStep new) st).2 + 2 * old.length
  | [], pre, st, h => by simp
  | y :: r, pre, st, h => by
    have h1 := dRun_len new r (pre ++ [y]) (dStep new st y) h.step
    have h2 := dStep_len new st y h.le
    simp only [List.foldl_cons, List.length_cons]
    omega
theorem dRun_small (old new : List Str) : (dRun old new).1.length ≤ (dRun old new).2 + 2 * old.length := by
  have := dRun_len new old [] ([], 0) ⟨Nat.zero_le _, rfl, rfl⟩
  simpa [dRun] using this
theorem delta_len (old new : List Str) : (deltaS old new).length ≤ 2 * old.length + new.length := by
  have h1 := dRun_small old new
  have h2 := (dInv old new).le
  unfold deltaS
  simp only [List.length_append, List.length_map, List.length_drop]
  omega

def Good (k : Nat) (x : Str) : Prop := x.length ≤ k ∧ PyData.strOk x = true
theorem good_app {k m : Nat} {h y : Str} (hh : Good k h) (hy : Good m y) : Good (k + m) (h ++ y) := by
  refine ⟨by rw [str_len_app]; have := hh.1; have := hy.1; omega, ?_⟩
  have e1 := hh.2
  have e2 := hy.2
  unfold PyData.strOk at e1 e2 ⊢
  rw [← Array.all_toList] at e1 e2 ⊢
  rw [str_app, List.all_append, e1, e2]; rfl
theorem good_sp : Good 2 "  " := by unfold Good; decide +kernel
theorem good_mi : Good 2 "- " := by unfold Good; decide +kernel
theorem good_pl : Good 2 "+ " := by unfold Good; decide +kernel
theorem good_odd : ∀ y ∈ oddL, Good 4 y := by unfold Good; decide +kernel
theorem Good.mono {k m : Nat} {x : Str} (h : Good k x) (hk : k ≤ m) : Good m x := ⟨Nat.le_trans h.1 hk, h.2⟩
theorem dStep_good {k : Nat} (hk : 2 ≤ k) {new : List Str} (hn : ∀ y ∈ new, Good k y) {st : List Str × Nat} {row : Str} (hr : Good k row) (hs : ∀ y ∈ st.1, Good (2 + k) y) : ∀ y ∈ (dStep new st row).1, Good (2 + k) y := by
  unfold dStep
  split
  · intro y hy
    simp only [List.mem_append, List.mem_map, List.mem_singleton] at hy
    rcases hy with (hy | ⟨z, hz, rfl⟩) | rfl
    · exact hs y hy
    · exact good_app good_pl (hn z (List.mem_of_mem_drop (List.mem_of_mem_take hz)))
    · exact good_app good_sp hr
  · intro y hy
    simp only [List.mem_append, List.mem_singleton] at hy
    rcases hy with (hy | rfl) | rfl
    · exact hs y hy
    · exact good_app good_mi hr
    · exact (good_odd _ (odd_at _).1).mono (by omega)
theorem dRun_good {k : Nat} (hk : 2 ≤ k) {new : List Str} (hn : ∀ y ∈ new, Good k y) : ∀ (old : List Str) (st : List Str × Nat), (∀ y ∈ old, Good k y) → (∀ y ∈ st.1, Good (2 + k) y) → ∀ y ∈ (old.foldl (dStep new) st).1, Good (2 + k) y
  | [], st, _, hs => hs
  | z :: r, st, ho, hs => dRun_good hk hn r (dStep new st z) (fun y hy => ho y (.tail _ hy)) (dStep_good hk hn (ho z (.head _)) hs)
theorem delta_good {k : Nat} (hk : 2 ≤ k) {old new : List Str} (ho : ∀ y ∈ old, Good k y) (hn : ∀ y ∈ new, Good k y) : ∀ y ∈ deltaS old new, Good (2 + k) y := by
  intro y hy
  unfold deltaS at hy
  simp only [List.mem_append, List.mem_map] at hy
  rcases hy with hy | ⟨z, hz, rfl⟩
  · exact dRun_good hk hn old ([], 0) ho (fun y hy => nomatch hy) y hy
  · exact good_app good_pl (hn z (List.mem_of_mem_drop hz))
end Mine

-- part LG
open PySem PySem.W PySem.W.X PyProof.Rows PySem.Calls PySem.Spec PySem.SeqAt
set_option Elab.async false
set_option maxRecDepth 100000
set_option maxHeartbeats 400000
namespace Mine
theorem vS_inj {p q : Str} (hpq : vS p = vS q) : p = q := by
  have : vS q (.str p 0) := by rw [← hpq]; exact ⟨0, rfl⟩
  obtain ⟨t, ht⟩ := this
  cases ht; rfl
theorem vI_inj {p q : Int} (hpq : vI p = vI q) : p = q := by
  have : vI q (.int p 0) := by rw [← hpq]; exact ⟨0, rfl⟩
  obtain ⟨t, ht⟩ := this
  cases ht; rfl
theorem map_vS_inj : ∀ {xs ys : List Str}, xs.map vS = ys.map vS → xs = ys
  | [], [], _ => rfl
  | [], _ :: _, h => by simp at h
  | _ :: _, [], h => by simp at h
  | x :: xs, y :: ys, h => by
    simp only [List.map_cons, List.cons.injEq] at h
    rw [vS_inj h.1, map_vS_inj h.2]
theorem map_vI_inj : ∀ {xs ys : List Int}, xs.map vI = ys.map vI → xs = ys
  | [], [], _ => rfl
  | [], _ :: _, h => by simp at h
  | _ :: _, [], h => by simp at h
  | x :: xs, y :: ys, h => by
    simp only [List.map_cons, List.cons.injEq] at h
    rw [vI_inj h.1, map_vI_inj h.2]
/-- the next of a list of texts (ints) -/
theorem next_vS {ys zs : List Str} {P : VP} {r : List VP} (e : ys.map vS = zs.map vS ++ P :: r) : ∃ y rs, ys = zs ++ y :: rs ∧ P = vS y := by
  obtain ⟨a, c, h1, h2, h3⟩ := List.map_eq_append_iff.mp e
  obtain ⟨y, rs, h4, h5, _⟩ := List.map_eq_cons_iff.mp h3
  exact ⟨y, rs, by rw [h1, h4, map_vS_inj h2], h5.symm⟩
theorem next_vI {ys zs : List Int} {P : VP} {r : List VP} (e : ys.map vI = zs.map vI ++ P :: r) : ∃ y rs, ys = zs ++ y :: rs ∧ P = vI y := by
  obtain ⟨a, c, h1, h2, h3⟩ := List.map_eq_append_iff.mp e
  obtain ⟨y, rs, h4, h5, _⟩ := List.map_eq_cons_iff.mp h3
  exact ⟨y, rs, by rw [h1, h4, map_vI_inj h2], h5.symm⟩
section
variable {prog : Program} {w : World} {A : Around} {E : Value → Shared → Prop} {b s : Shared} {env : Env} {mg mb : Str → Option Value} {names : List Str}

/-- what a for is to do with the value it walks -/
structure ForJob (prog : Program) (w : World) (A : Around) (b : Shared) (env : Env) (target : Expr) (body : List Stmt) (Q : Flow → Shared → Prop) (v₀ : Value) (s₁ : Shared)
    (Lr : Ledger) (d : Nat) (Ps : List VP) (L₁ F₀ X : Ledger) (G₁ G : GLedger) (J : List VP → Ledger → Prop) : Prop where
  src : GivesI prog w b Lr d v₀ Ps L₁ G₁
  room : Ar A d
  st : St b s₁ (L₁ ++ (F₀ ++ X)) (G₁ ++ G)
  h0 : J [] F₀
  hR : ∀ pre F, J pre F → ∀ p ∈ Lr, p ∈ F ++ X
  turn : ∀ pre P r u F L₂ G₂ s, Ps = pre ++ P :: r → P u → J pre F → St b s (F ++ (L₂ ++ X)) (G₂ ++ G) →
      wpAny (model prog w) A (assign target env u) (fun _ s₂ => wpAny (model prog w) A (execs body env) (Turn Q fun s₃ => ∃ F', J (pre ++ [P]) F' ∧ St b s₃ (F' ++ (L₂ ++ X)) (G₂ ++ G)) NoE s₂) NoE s
  done : ∀ F s, J Ps F → St b s (F ++ X) G → Q .next s
/-- a for over whatever its iterable turns out to be -/
theorem r_forj {target iter : Expr} {body : List Stmt} {pos : Pos} {Q : Flow → Shared → Prop}
    (hiter : wpAny (model prog w) A (eval iter env) (fun v s₁ => ∃ Lr d Ps L₁ F₀ X G₁ G J, ForJob prog w A b env target body Q v s₁ Lr d Ps L₁ F₀ X G₁ G J) NoE s)
    (hs : ∀ x, foldedSetIterable iter env x = pure x := by intro _; kernel_rfl) (ht : ∀ it v, letOwnedTupleGo target it v = pure () := by intro _ _; kernel_rfl) :
    wpAny (model prog w) A (exec (.For target iter body [] pos) env) Q E s := by
  refine wpAny_For (wpAny_mono hiter (fun v s₁ h₁ => ?_) fun _ _ x => x.elim) hs
  obtain ⟨Lr, d, Ps, L₁, F₀, X, G₁, G, J, hsrc, hA, S₁, h0, hR, turn, done⟩ := h₁
  refine hsrc A _ _ _ _ _ hA (hR [] F₀ h0) S₁ fun it s₂ L₂ G₂ hg _ S₂ => ?_
  refine codeAny_forLoop (fun n s => ∃ pre post F L₂ G₂, Ps = pre ++ post ∧ post.length = n ∧ J pre F ∧ Gives prog w b Lr d it post L₂ G₂ ∧ St b s (L₂ ++ (F ++ X)) (G₂ ++ G)) ?_ Ps.length ⟨[], Ps, F₀, L₂, G₂, rfl, rfl, h0, hg, S₂⟩ (ht it)
  rintro n s₃ ⟨pre, post, F, L₃, G₃, e, hn, hj, hg₃, S₃⟩
  refine hg₃.next hA (hR pre F hj) S₃ (fun e' s₄ S₄ => ?_) (fun P r e' u s₄ L₄ G₄ hu hg₄ S₄ => ?_)
  · subst e'
    rw [List.append_nil] at e
    subst e
    exact wpAny_execs_nil (done F s₄ hj S₄)
  · subst e'
    refine wpAny_mono (turn pre P r u F L₄ G₄ s₄ e hu hj (S₄.perm (perm_swap3 F L₄ X))) (fun _ s₅ h₅ => ?_) fun _ _ x => x.elim
    refine wpAny_mono h₅ (fun f s₆ h₆ => ?_) fun _ _ x => x.elim
    have nx : (∃ F', J (pre ++ [P]) F' ∧ St b s₆ (F' ++ (L₄ ++ X)) (G₄ ++ G)) → ∃ m, m < n ∧ ∃ pre post F L₂ G₂, Ps = pre ++ post ∧ post.length = m ∧ J pre F ∧ Gives prog w b Lr d it post L₂ G₂ ∧ St b s₆ (L₂ ++ (F ++ X)) (G₂ ++ G) := by
      rintro ⟨F', hj', S'⟩
      exact ⟨r.length, by simp only [List.length_cons] at hn; omega, pre ++ [P], r, F', L₄, G₄, by rw [e]; simp, rfl, hj', hg₄, S'.perm (perm_swap3 L₄ F' X)⟩
    cases f with
    | next => exact nx h₆
    | cont => exact nx h₆
    | brk => exact h₆
    | ret v => exact h₆

/-- what a comprehension is to do with the value it walks -/
structure CompJob (prog : Program) (w : World) (A : Around) (E : Value → Shared → Prop) (b : Shared) (env : Env) (elt : Expr) (x : Str) (ifs : List Expr) (scope : Scope) (cl : List (Str × Addr)) (use : Option (Value → Sem Unit)) (Q : Value → Shared → Prop) (v₀ : Value) (s₁ : Shared)
    (Lr : Ledger) (d : Nat) (Ps : List VP) (L₁ F₀ X : Ledger) (G₁ G : GLedger) (J : List VP → List Value → Ledger → Prop) : Prop where
  src : GivesI prog w b Lr d v₀ Ps L₁ G₁
  room : Ar A d
  st : St b s₁ (L₁ ++ (F₀ ++ X)) (G₁ ++ G)
  h0 : J [] [] F₀
  hR : ∀ pre acc F, J pre acc F → ∀ p ∈ Lr, p ∈ F ++ X
  hz : ∀ pre acc F, J pre acc F → acc.length ≤ pre.length
  hPs : Ps.length ≤ sizeLine
  turn : ∀ pre P r u acc F C D L₂ G₂ s, Ps = pre ++ P :: r → P u → J pre acc F → St b s ((C, frC [(x, vE u)]) :: (D, lstV acc) :: (F ++ (L₂ ++ X))) (G₂ ++ G) →
      wpAny (model prog w) A (testsOf ifs (compEnvC scope cl C env)) (fun ok s₂ =>
        if ok = true then wpAny (model prog w) A (eval elt (compEnvC scope cl C env)) (fun y s₃ => ∃ F', J (pre ++ [P]) (acc ++ [y]) F' ∧ St b s₃ ((C, frC [(x, vE u)]) :: (D, lstV acc) :: (F' ++ (L₂ ++ X))) (G₂ ++ G)) NoE s₂
        else ∃ F', J (pre ++ [P]) acc F' ∧ St b s₂ ((C, frC [(x, vE u)]) :: (D, lstV acc) :: (F' ++ (L₂ ++ X))) (G₂ ++ G)) NoE s
  hfin : ∀ acc F C D s', J Ps acc F → St b s' ((C, frC []) :: (D, lstV acc) :: (F ++ X)) G → compPost (model prog w) A E use Q (.ref D) C (.ok .next) s'
theorem comp_job {elt iter : Expr} {x : Str} {px pos pos' : Pos} {ifs : List Expr} {scope : Scope} {cl : List (Str × Addr)} {use : Option (Value → Sem Unit)} {Q : Value → Shared → Prop}
    (hiter : wpAny (model prog w) A (eval iter env) (fun v s₁ => ∃ Lr d Ps L₁ F₀ X G₁ G J, CompJob prog w A E b env elt x ifs scope cl use Q v s₁ Lr d Ps L₁ F₀ X G₁ G J) NoE s)
    (hclos : closureFor scope env = pure cl) (hkind : scope.kind = .function) (hnames : ∀ y ∈ scope.names, y.2 = .local → scope.names.lookup y.1 = some .local)
    (hcell : ∀ y ∈ scope.names, y.2 ≠ .cell) (hx : scope.names.lookup x = some .local) (hs : ∀ v, foldedSetIterable iter env v = pure v) :
    wpAny (model prog w) A (comprehension (.ListComp elt [⟨.Name x px, iter, ifs, 0⟩] scope pos') scope env pos (newList []) false (eval iter env) use) Q E s := by
  refine wpAny_comprehension_free (g := ⟨.Name x px, iter, ifs, 0⟩) (gs := []) rfl hs hclos hkind hnames ?_
  refine wpAny_mono hiter (fun v s₁ h₁ => ?_) fun _ _ x => x.elim
  obtain ⟨Lr, d, Ps, L₁, F₀, X, G₁, G, J, hsrc, hA, S₁, h0, hR, hz, hPs, turn, hfin⟩ := h₁
  refine hsrc A _ _ _ _ _ hA (hR [] [] F₀ h0) S₁ fun it s₂ L₂ G₂ hg hself S₂ => ?_
  refine r_newList S₂ lstV_mk fun D s₃ S₃ => ?_
  refine wpAny_newFunctionEnv (scope := scope) (binds := []) hcell (fun y hy => nomatch hy) (fun h' hn hsb => ?_) hkind
  obtain ⟨oC, hoC, hcC⟩ := frC_of (fl := []) hn (fun p hp => nomatch hp)
  have S₄ : St b { s₃ with heap := h', toks := s₃.toks + ([] : List (Str × Value)).length } ((s₃.heap.objs.size, frC []) :: (D, lstV []) :: (L₂ ++ (F₀ ++ X))) (G₂ ++ G) :=
    S₃.new (heap_get_size _) (fun a o e => hsb.extBut a o (Nat.ne_of_lt (Heap.lt_size e)) (Heap.get?_push_of_some _ e)) hoC hcC
  generalize hC : s₃.heap.objs.size = C at S₄
  show codeAny _ A (.compStart _ 0 it (.ref D) (compEnvC scope cl C env)) (compPost _ A E use Q (.ref D) C) _
  have S₅ : St b _ (L₂ ++ ((C, frC []) :: (D, lstV []) :: (F₀ ++ X))) (G₂ ++ G) := S₄.perm (by
    refine List.perm_middle.trans (.cons _ ?_)
    exact List.perm_middle)
  have loop : ∀ (it : Value) (s : Shared) (L₂ : Ledger) (G₂ : GLedger), Gives prog w b Lr d it Ps L₂ G₂ → St b s (L₂ ++ ((C, frC []) :: (D, lstV []) :: (F₀ ++ X))) (G₂ ++ G) →
      codeAny (model prog w) A (.compLoop (.ListComp elt [⟨.Name x px, iter, ifs, 0⟩] scope pos') 0 it (.ref D) (compEnvC scope cl C env)) (compPost (model prog w) A E use Q (.ref D) C) s := by
    intro it s L₂ G₂ hg S
    refine codeAny_compLoop_tests (fun n s => ∃ pre post acc F L₂ G₂, Ps = pre ++ post ∧ post.length = n ∧ J pre acc F ∧ Gives prog w b Lr d it post L₂ G₂ ∧ St b s (L₂ ++ ((C, frC []) :: (D, lstV acc) :: (F ++ X))) (G₂ ++ G)) ?_ Ps.length
      ⟨[], Ps, [], F₀, L₂, G₂, rfl, rfl, h0, hg, S⟩
    rintro n s₃ ⟨pre, post, acc, F, L₃, G₃, e, hn, hj, hg₃, S₃⟩
    refine hg₃.next hA (fun q hq => .tail _ (.tail _ (hR pre acc F hj q hq))) S₃ (fun e' s₄ S₄ => ?_) (fun P r e' u s₄ L₄ G₄ hu hg₄ S₄ => ?_)
    · subst e'
      rw [List.append_nil] at e
      subst e
      exact hfin acc F C D s₄ hj S₄
    · subst e'
      have S₅ : St b s₄ ((C, frC []) :: (D, lstV acc) :: (F ++ (L₄ ++ X))) (G₄ ++ G) := S₄.perm (by
        refine List.Perm.trans ?_ (List.perm_middle.symm)
        refine .cons _ ?_
        refine List.Perm.trans ?_ (List.perm_middle.symm)
        exact .cons _ (perm_swap3 F L₄ X))
      refine wpAny_assign_Name (r_store (P := vE u) S₅ (.head _) rfl .nil .head (fun s₅ S₆ => ?_) (lookup_relabel_local hx) (by show (scope.kind == .class || (scope.kind == .module && _)) = false; rw [hkind]; rfl))
      refine wpAny_mono (turn pre P r u acc F C D L₄ G₄ s₅ e hu hj S₆) (fun ok s₆ h₆ => ?_) fun _ _ x => x.elim
      have back : ∀ {acc' F' s}, St b s ((C, frC [(x, vE u)]) :: (D, lstV acc') :: (F' ++ (L₄ ++ X))) (G₄ ++ G) → St b s (L₄ ++ ((C, frC []) :: (D, lstV acc') :: (F' ++ X))) (G₄ ++ G) := fun S => by
        refine (S.less (.head _) .head fun o ho => frC_sub (fl' := []) (fun q hq => nomatch hq) ho).perm ?_
        refine List.perm_middle.trans (.cons _ ?_)
        refine List.perm_middle.trans (.cons _ ?_)
        exact perm_swap3 _ _ _
      cases ok with
      | true =>
        rw [if_pos rfl] at h₆ ⊢
        refine wpAny_mono h₆ (fun y s₇ h₇ => ?_) fun _ _ x => x.elim
        obtain ⟨F', hj', S₇⟩ := h₇
        have hlen : acc.length < sizeLine := by
          have h1 := hz pre acc F hj
          have h2 : Ps.length = pre.length + (r.length + 1) := by rw [e]; simp
          omega
        obtain ⟨_, hoD, nD, rfl⟩ := S₇.get (.tail _ (.head _))
        refine wpAny_list_append_plain (x := y) ⟨nD, hoD⟩ (fun h' hl hsb => ?_) (by simpa using Nat.le_of_lt hlen)
        obtain ⟨n', ho'⟩ := hl
        refine ⟨r.length, by simp only [List.length_cons] at hn; omega, pre ++ [P], r, acc ++ [y], F', L₄, G₄, by rw [e]; simp, rfl, hj', hg₄, back ?_⟩
        exact S₇.set (P' := lstV (acc ++ [y])) (.tail .head) ⟨_, .tail _ (.head _)⟩ hsb.extBut ho' ⟨n', by simp⟩
      | false =>
        rw [if_neg Bool.false_ne_true] at h₆ ⊢
        obtain ⟨F', hj', S₇⟩ := h₆
        exact ⟨r.length, by simp only [List.length_cons] at hn; omega, pre ++ [P], r, acc, F', L₄, G₄, by rw [e]; simp, rfl, hj', hg₄, back S₇⟩
  refine codeAny_compStart_list (loop it _ L₂ G₂ hg S₅) ?_
  exact hself A _ _ _ _ _ S₅ (loop it _ L₂ G₂ hg S₅)

/-- no own cell: the end of a comprehension whose value is its list -/
theorem comp_end {A : Around} {E : Value → Shared → Prop} {Q : Value → Shared → Prop} {C D : Addr} {s' : Shared} {L : Ledger} {G : GLedger} (S : St b s' ((C, frC []) :: L) G) (h : ∀ s'', St b s'' L G → Q (.ref D) s'') :
    compPost (model prog w) A E none Q (.ref D) C (.ok .next) s' := by
  obtain ⟨o, ho, hc⟩ := S.get (.head _)
  obtain ⟨m, hn, _⟩ := frC_ns ho hc
  exact ⟨m, hn, fun h'' hs'' => h _ (S.drop1 hs''.extBut)⟩

/-- [f(x) for x in texts] -/
theorem r_compS {elt iter : Expr} {x : Str} {px pos : Pos} {scope : Scope} {Q : Value → Shared → Prop} (fS : Str → Str) (hA : Ar A 0)
    (hiter : wpAny (model prog w) A (eval iter env) (fun v s₁ => ∃ l ys L' G', v = .ref l ∧ St b s₁ ((l, lstS ys) :: L') G' ∧ ys.length ≤ sizeLine ∧
      (∀ y ∈ ys, ∀ (C : Addr) (L : Ledger) (G : GLedger) (u : Value) (s : Shared) (R : Value → Shared → Prop), vS y u → St b s ((C, frC [(x, vE u)]) :: L) G → (∀ t s', St b s' ((C, frC [(x, vE u)]) :: L) G → R (.str (fS y) t) s') → wpAny (model prog w) A (eval elt (compEnvC scope [] C env)) R NoE s) ∧
      ∀ D s', St b s' ((D, lstS (ys.map fS)) :: L') G' → Q (.ref D) s') NoE s)
    (hclos : closureFor scope env = pure [] := by kernel_rfl) (hkind : scope.kind = .function := by kernel_rfl) (hnames : ∀ y ∈ scope.names, y.2 = .local → scope.names.lookup y.1 = some .local := by decide)
    (hcell : ∀ y ∈ scope.names, y.2 ≠ .cell := by decide) (hx : scope.names.lookup x = some .local := by kernel_rfl) (hs : ∀ v, foldedSetIterable iter env v = pure v := by intro _; kernel_rfl) :
    wpAny (model prog w) A (eval (.ListComp elt [⟨.Name x px, iter, [], 0⟩] scope pos) env) Q E s := by
  rw [eval_ListComp]
  refine comp_job (b := b) (cl := []) (wpAny_mono hiter (fun v s₁ h₁ => ?_) fun _ _ x => x) hclos hkind hnames hcell hx hs
  obtain ⟨l, ys, L', G', rfl, S₁, hz, helt, hQ⟩ := h₁
  refine ⟨[(l, lstS ys)], 0, ys.map vS, [], [(l, lstS ys)], L', [], G', fun pre acc F => ∃ zs, pre = zs.map vS ∧ StrsAre acc (zs.map fS) ∧ F = [(l, lstS ys)], givesI_list (hasL_S (.head _)), hA, S₁, ⟨[], rfl, .nil, rfl⟩, ?_, ?_, by rw [List.length_map]; exact hz, ?_, ?_⟩
  · rintro _ _ _ ⟨_, _, _, rfl⟩ p hp
    rw [List.mem_singleton] at hp
    subst hp
    exact .head _
  · rintro _ _ _ ⟨zs, rfl, h, _⟩
    rw [strsAre_len h, List.length_map, List.length_map]
    exact Nat.le_refl _
  · rintro pre P r u acc F C D L₂ G₂ s e hu ⟨zs, rfl, hacc, rfl⟩ S
    refine wpAny_pure ?_
    rw [if_pos rfl]
    obtain ⟨y, rs, hy, hPy⟩ := next_vS e
    subst hPy
    refine helt y (by rw [hy]; simp) C _ _ u s _ hu S fun t s' S' => ?_
    exact ⟨_, ⟨zs ++ [y], by simp, by rw [List.map_append]; exact hacc.append' (.cons _ t .nil), rfl⟩, S'⟩
  · rintro acc F C D s' ⟨zs, e, hacc, rfl⟩ S
    have : zs = ys := (map_vS_inj e).symm
    subst this
    refine comp_end S fun s'' S'' => hQ D s'' ?_
    refine (S''.weaken (P' := lstS (zs.map fS)) .head ?_).sub ?_
    · rintro P o hP ho
      have hnd := S''.nodup
      have : P = lstV acc := by
        rcases List.mem_cons.mp hP with h | h
        · exact (Prod.mk.inj h).2
        · exact absurd (List.mem_map_of_mem (f := (·.1)) h) (List.nodup_cons.mp hnd).1
      subst this
      obtain ⟨n, rfl⟩ := ho
      exact ⟨_, n, rfl, by simpa using hacc⟩
    · exact .cons_cons _ (List.sublist_cons_self _ _)
end
end Mine

-- part LX
open PySem PySem.W PySem.W.X PyProof.Rows PySem.Calls PySem.Spec PySem.SeqAt
set_option Elab.async false
set_option maxRecDepth 100000
set_option maxHeartbeats 400000
set_option linter.all false
namespace Mine

theorem lt_natB {a b : Nat} : decide ((a : Int) < (b : Int)) = decide (a < b) := by simp

theorem pick_nat {α : Type} (l : List α) (a c : Nat) : pick l (some (a : Int)) (some (c : Int)) = (l.drop a).take (c - a) := by
  unfold pick kms_lo kms_hi
  simp only [show ¬ ((a : Int) < 0) by omega, show ¬ ((c : Int) < 0) by omega, if_false, Int.toNat_natCast]
  by_cases ha : a ≤ l.length
  · rw [Nat.min_eq_left ha, List.take_eq_take_iff, List.length_drop]; omega
  · rw [Nat.min_eq_right (show l.length ≤ a by omega), List.drop_of_length_le (l := l) (Nat.le_refl _), List.drop_of_length_le (show l.length ≤ a by omega)]
    simp
theorem pick_from {α : Type} (l : List α) (a : Nat) : pick l (some (a : Int)) none = l.drop a := by
  unfold pick kms_lo kms_hi
  simp only [show ¬ ((a : Int) < 0) by omega, if_false, Int.toNat_natCast]
  rw [List.take_of_length_le (by rw [List.length_drop]; omega)]
  by_cases ha : a ≤ l.length
  · rw [Nat.min_eq_left ha]
  · rw [Nat.min_eq_right (show l.length ≤ a by omega), List.drop_of_length_le (l := l) (Nat.le_refl _), List.drop_of_length_le (show l.length ≤ a by omega)]

section
variable {prog : Program} {w : World} {A : Around} {E : Value → Shared → Prop} {b s : Shared} {X : Ledger} {G : GLedger} {mg mb : Str → Option Value} {names : List Str} {Q : Value → Shared → Prop}
/-- a method of a list of texts -/
theorem r_methS {o e : Expr} {name : Str} {apos pos : Pos} {id : String} {env : Env} (slot : Slot "list" name id) (hty : typeOf (.builtin id) = pure (.type "method_descriptor"))
    (h : wpAny (model prog w) A (eval o env) (fun ov s₁ => ∃ l ys L G, ov = .ref l ∧ St b s₁ L G ∧ (l, lstS ys) ∈ L ∧ wpAny (model prog w) A (callWith pos (.builtin id) [.ref l] [(false, eval e env)] []) Q E s₁) E s)
    (hbase : attributeBase o name env (eval o env) = eval o env := by kernel_rfl) (hline : (apos.endLine == pos.line) = true := by kernel_rfl) (htrees : backTo pos (starEach [e] env) = [(false, eval e env)] := by kernel_rfl) :
    wpAny (model prog w) A (eval (.Call (.Attribute o name apos) [e] [] pos) env) Q E s := by
  refine r_meth1 slot hty (wpAny_mono h (fun ov s₁ h₁ => ?_) fun _ _ x => x) hbase hline htrees
  obtain ⟨l, ys, L, G, rfl, S, hl, h₂⟩ := h₁
  obtain ⟨_, e, vs, m, rfl, hs⟩ := S.get hl
  exact ⟨_, _, rfl, e, rfl, rfl, h₂⟩

/-- h + x, in a comprehension -/
theorem w_headed {env : Env} {scope : Scope} {h x : Str} {k : Nat} {p1 p2 p3 : Pos} {y : Str} (hz : h.length + y.length ≤ sizeLine) (hkind : scope.kind = .function) (hx : scope.names.lookup x = some .local) (hd : (x == ("__debug__" : Str)) = false) {C : Addr} {L : Ledger} {u : Value} {R : Value → Shared → Prop}
    (hu : vS y u) (S : St b s ((C, frC [(x, vE u)]) :: L) G) (hR : ∀ t s', St b s' ((C, frC [(x, vE u)]) :: L) G → R (.str (h ++ y) t) s') :
    wpAny (model prog w) A (eval (.BinOp (.Constant (.str h) k p1) .Add (.Name x p2) p3) (compEnvC scope [] C env)) R NoE s := by
  refine wpAny_BinOp ?_
  refine r_str S fun t s₁ S₁ => ?_
  refine r_name S₁ (.head _) (.head _) (fun v hv => ?_) (by simp [compEnvC, relabel, hkind]) (lookup_relabel_local hx) hd
  obtain rfl : v = u := hv
  obtain ⟨t', rfl⟩ := hu
  exact r_addS S₁ hz fun t₂ s₂ S₂ => hR _ _ S₂

theorem Ar.deeper {A : Around} {d : Nat} {env : Env} (h : Ar A (d + 1)) : Ar (A.deeper env) d := ⟨h.1, by have := h.2; show A.depth + 1 + d < recursionLimit; omega⟩

end
end Mine

-- part LH
open PySem PySem.W PySem.W.X PyProof.Rows PySem.Calls PySem.Spec PySem.SeqAt
set_option Elab.async false
set_option maxRecDepth 100000
set_option maxHeartbeats 400000
set_option linter.all false
namespace Mine

/-! variables of a block inside: cells -/
def celN : Cell := fun o => ∃ v, o.data = .cell v
def celV (P : VP) : Cell := fun o => ∃ v, o.data = .cell (some v) ∧ P v
theorem celV_N {P : VP} {o : Obj} (h : celV P o) : celN o := let ⟨v, e, _⟩ := h; ⟨_, e⟩

section
variable {prog : Program} {w : World} {A : Around} {E : Value → Shared → Prop} {b s : Shared} {L L' X : Ledger} {G : GLedger} {env : Env} {mg mb : Str → Option Value} {names : List Str}

theorem r_nameC {Q : Value → Shared → Prop} {x : Str} {pos : Pos} {c : Addr} {P : VP} (S : St b s L G) (hc : (c, celV P) ∈ L) (h : ∀ v, P v → Q v s) (he : env.cells.lookup x = some c := by kernel_rfl)
    (hk : env.scope.kind = .function := by kernel_rfl) (hl : env.kindOf x = some .cell := by kernel_rfl) (hd : (x == ("__debug__" : Str)) = false := by decide) :
    wpAny (model prog w) A (eval (.Name x pos) env) Q E s := by
  obtain ⟨o, ho, v, e, hv⟩ := S.get hc
  exact wpAny_Name (wpAny_loadName_cell hk hl he ⟨o, ho, e⟩ (h v hv)) hd
theorem r_nameF {Q : Value → Shared → Prop} {x : Str} {pos : Pos} {c : Addr} {P : VP} (S : St b s L G) (hc : (c, celV P) ∈ L) (h : ∀ v, P v → Q v s) (he : env.cells.lookup x = some c := by kernel_rfl)
    (hk : env.scope.kind = .function := by kernel_rfl) (hl : env.kindOf x = some .free := by kernel_rfl) (hd : (x == ("__debug__" : Str)) = false := by decide) (hn : (x == ("__classdict__" : Str)) = false := by decide) :
    wpAny (model prog w) A (eval (.Name x pos) env) Q E s := by
  obtain ⟨o, ho, v, e, hv⟩ := S.get hc
  exact wpAny_Name (wpAny_loadName_free hk hl he ⟨o, ho, e⟩ (h v hv) hn) hd
theorem r_storeC {Q : Unit → Shared → Prop} {x : Str} {c : Addr} {P₀ : Cell} {v : Value} {P : VP} (S : St b s L G) (hc : (c, P₀) ∈ L) (h₀ : ∀ o, P₀ o → celN o) (hv : P v) (hu : Upd L c (celV P) L') (h : ∀ s', St b s' L' G → Q () s') (he : env.cells.lookup x = some c := by kernel_rfl)
    (hk : env.scope.kind = .function := by kernel_rfl) (hl : env.kindOf x = some .cell := by kernel_rfl) :
    wpAny (model prog w) A (storeName env x v) Q E s := by
  obtain ⟨o, ho, hP⟩ := S.get hc
  obtain ⟨v₀, e⟩ := h₀ o hP
  refine wpAny_storeName_cell hk hl he ⟨o, ho, e⟩ fun h' hc' hsb => ?_
  obtain ⟨o', ho', e'⟩ := hc'
  exact h _ (S.set hu ⟨_, hc⟩ hsb.extBut ho' ⟨v, e', hv⟩)

abbrev envOf1 (name : Str) (params : Arguments) (body : List Stmt) (scope : Scope) (C f : Addr) (cd : Value) : Env := callEnvC (docDef name params body scope .none cd .none) C f

/-- a call of a def with one variable of a block inside, and one argument -/
theorem r_callCell1 {Q : Value → Shared → Prop} {f : Addr} {name x : Str} {params : Arguments} {body : List Stmt} {scope : Scope} {cd v : Value} {y : Str} (B : Bs b mg mb names) (F : FnAt b mg f name params body scope cd) (S : St b s L G) (hroom : A.depth < recursionLimit)
    (hbind : ∀ pm doc, bindArgs (docDef name params body scope pm cd doc) ⟨[v], []⟩ = pure [(x, v)])
    (hloc : scope.names.lookup x = some .local) (hcs : ∀ n, cellsFrom n scope.names [] = [(y, n)])
    (h : ∀ C s', St b s' ((C, frC [(x, vE v)]) :: (C + 1, celN) :: L) G → wpAny (model prog w) (A.deeper (envOf1 name params body scope C f cd)) (execs body (envOf1 name params body scope C f cd)) (fun fl s'' => Q (match fl with | .ret v => v | _ => .none) s'') NoE s')
    (hco : scope.isCoroutine = false) (hgen : scope.isGenerator = false) (hk : scope.kind = .function) :
    wpAny (model prog w) A (call (.ref f) [v]) Q E s := by
  obtain ⟨o, pm, doc, ho, hd⟩ := F.obj
  have hkf : (callEnvC (docDef name params body scope pm cd doc) s.heap.objs.size f).kindOf x = some .local := hloc
  refine wpAny_call (codeAny_call_cells hroom (S.keep _ _ ho) hd (B.nolimit.keeps S.keep) (F.code.keeps S.keep) rfl (hbind pm doc) rfl (fun p hp => ?_) (fun s₁ I => ?_) hco hgen hk)
  · rw [List.mem_singleton] at hp
    subst hp
    exact .inl hloc
  · have hns := I.toInCall.ns
    obtain ⟨oC, hoC, hcC⟩ := frC_of (fl := [(x, vE v)]) hns (fun p hp => by
      rw [List.mem_singleton] at hp
      subst hp
      refine ⟨v, ?_, rfl⟩
      unfold bindL bindL
      rw [if_pos hkf]
      simp)
    have hce : (callEnvC (docDef name params body scope pm cd doc) s.heap.objs.size f).cells = [(y, s.heap.objs.size + 1)] := hcs _
    obtain ⟨oy, hoy, hyd⟩ := I.cell y (s.heap.objs.size + 1) (by rw [hce]; simp [List.lookup])
    obtain ⟨h₁, tk, rfl⟩ := I.toInCall.same
    have hkp := I.toInCall.keep
    have hbn : ∀ {a}, s.heap.get? a = none → b.heap.get? a = none := fun {a} e => by
      cases hb : b.heap.get? a with
      | none => rfl
      | some o' => rw [S.keep _ _ hb] at e; cases e
    have hnone : ∀ k, s.heap.get? (s.heap.objs.size + k) = none := fun k => by
      cases hb : s.heap.get? (s.heap.objs.size + k) with
      | none => rfl
      | some o' => exact absurd (Heap.lt_size hb) (Nat.not_lt.mpr (Nat.le_add_right _ _))
    have hlt : ∀ p ∈ L, p.1 < s.heap.objs.size := fun p hp => S.lt hp
    have S₁ : St b { s with heap := h₁, toks := tk } ((s.heap.objs.size, frC [(x, vE v)]) :: (s.heap.objs.size + 1, celN) :: L) G := by
      refine ⟨fun a o e => hkp a o (S.keep a o e), fun p hp => ?_, ?_, S.os, S.bare, S.gens, S.gnodup⟩
      · rcases List.mem_cons.mp hp with rfl | hp
        · exact ⟨hbn (hnone 0), oC, hoC, hcC⟩
        · rcases List.mem_cons.mp hp with rfl | hp
          · exact ⟨hbn (hnone 1), oy, hoy, _, hyd⟩
          · obtain ⟨h1, o', h2, h3⟩ := S.own p hp
            exact ⟨h1, o', hkp _ _ h2, h3⟩
      · simp only [List.map_cons, List.nodup_cons, List.mem_cons, List.mem_map, not_or, not_exists, not_and]
        refine ⟨⟨Nat.ne_of_lt (Nat.lt_succ_self _), fun p hp e => ?_⟩, fun p hp e => ?_, S.nodup⟩
        · exact Nat.ne_of_lt (hlt p hp) e
        · exact Nat.ne_of_lt (Nat.lt_succ_of_lt (hlt p hp)) e
    exact wpAny_mono (h _ _ S₁) (fun fl s'' hq => hq) fun _ _ x => x.elim

/-- y = [ .. ] -/
theorem r_asgComp {Q : Flow → Shared → Prop} {elt iter : Expr} {x y : Str} {px py : Pos} {ifs : List Expr} {scope : Scope} {cl : List (Str × Addr)} {pos spos : Pos}
    (hiter : wpAny (model prog w) A (eval iter env) (fun v s₁ => ∃ Lr d Ps L₁ F₀ X G₁ G J, CompJob prog w A E b env elt x ifs scope cl (some (assign (.Name y py) env)) (fun _ s' => Q .next s') v s₁ Lr d Ps L₁ F₀ X G₁ G J) NoE s)
    (hsw : swapsWith (.ListComp elt [⟨.Name x px, iter, ifs, 0⟩] scope pos) (some (.Name y py)) spos.line env = pure true := by kernel_rfl)
    (hclos : closureFor scope env = pure cl := by kernel_rfl) (hkind : scope.kind = .function := by kernel_rfl) (hnames : ∀ y ∈ scope.names, y.2 = .local → scope.names.lookup y.1 = some .local := by decide)
    (hcell : ∀ y ∈ scope.names, y.2 ≠ .cell := by decide) (hx : scope.names.lookup x = some .local := by kernel_rfl) (hs : ∀ v, foldedSetIterable iter env v = pure v := by intro _; kernel_rfl) :
    wpAny (model prog w) A (exec (.Assign [.Name y py] (.ListComp elt [⟨.Name x px, iter, ifs, 0⟩] scope pos) spos) env) Q E s := by
  rw [exec_Assign_Name_used _ _ _ _ hsw]
  refine wpAny_bind (wpAny_standAt (wpAny_bind ?_))
  show wpAny _ A (do let _ ← comprehension (.ListComp elt [⟨.Name x px, iter, ifs, 0⟩] scope pos) scope env _ (newList []) false (eval iter env) (some (assign (.Name y py) env))) _ _ s
  exact wpAny_bind (wpAny_mono (comp_job (b := b) (cl := cl) hiter hclos hkind hnames hcell hx hs) (fun _ s' hq => wpAny_pure (wpAny_pure hq)) fun _ _ e => e)

/-- the end of a comprehension whose list is stored -/
theorem comp_endU {Q : Value → Shared → Prop} {u : Value → Sem Unit} {C D : Addr} {s' : Shared} (h : wpAny (model prog w) A (u (.ref D)) (fun _ s'' => ∃ L G, St b s'' ((C, frC []) :: L) G ∧ ∀ s₃, St b s₃ L G → Q .none s₃) E s') :
    compPost (model prog w) A E (some u) Q (.ref D) C (.ok .next) s' := by
  refine wpAny_mono h (fun _ s'' h'' => ?_) fun _ _ x => x
  obtain ⟨L, G, S, hQ⟩ := h''
  obtain ⟨o, ho, hc⟩ := S.get (.head _)
  obtain ⟨m, hn, _⟩ := frC_ns ho hc
  exact ⟨m, hn, fun h'' hs'' => hQ _ (S.drop1 hs''.extBut)⟩

/-! lists of lists of texts -/
def cellsOf (as : List Addr) (tx : List (List Str)) : Ledger := (as.zip tx).map fun p => (p.1, lstS p.2)
theorem cellsOf_at : ∀ {as : List Addr} {tx : List (List Str)} {k : Nat} {a : Addr} {y : List Str}, as[k]? = some a → tx[k]? = some y → (a, lstS y) ∈ cellsOf as tx
  | [], _, _, _, _, h, _ => by simp at h
  | _ :: _, [], _, _, _, _, h => by simp at h
  | a :: r, y :: q, 0, _, _, h1, h2 => by
    simp only [List.getElem?_cons_zero, Option.some.injEq] at h1 h2
    subst h1 h2
    exact .head _
  | a :: r, y :: q, k + 1, _, _, h1, h2 => by
    simp only [List.getElem?_cons_succ] at h1 h2
    exact .tail _ (cellsOf_at h1 h2)
theorem cellsOf_upd : ∀ {as : List Addr} {tx : List (List Str)} {k : Nat} {a : Addr} {y z : List Str} (R : Ledger), as[k]? = some a → tx[k]? = some y → Upd (cellsOf as tx ++ R) a (lstS z) (cellsOf as (tx.set k z) ++ R)
  | [], _, _, _, _, _, _, h, _ => by simp at h
  | _ :: _, [], _, _, _, _, _, _, h => by simp at h
  | a :: r, y :: q, 0, _, _, z, R, h1, h2 => by
    simp only [List.getElem?_cons_zero, Option.some.injEq] at h1 h2
    subst h1 h2
    exact .head
  | a :: r, y :: q, k + 1, _, _, z, R, h1, h2 => by
    simp only [List.getElem?_cons_succ] at h1 h2
    exact .tail (cellsOf_upd R h1 h2)
theorem cellsOf_snoc : ∀ {as : List Addr} {tx : List (List Str)}, as.length = tx.length → ∀ (a : Addr) (y : List Str), cellsOf (as ++ [a]) (tx ++ [y]) = cellsOf as tx ++ [(a, lstS y)]
  | [], [], _, _, _ => rfl
  | [], _ :: _, h, _, _ => by simp at h
  | _ :: _, [], h, _, _ => by simp at h
  | a :: r, y :: q, h, c, z => by
    have := cellsOf_snoc (as := r) (tx := q) (by simpa using h) c z
    show (a, lstS y) :: cellsOf (r ++ [c]) (q ++ [z]) = _
    rw [this]; rfl
end
end Mine

-- part LY
open PySem PySem.W PySem.W.X PyProof.Rows PySem.Calls PySem.Spec PySem.SeqAt
set_option Elab.async false
set_option maxRecDepth 100000
set_option maxHeartbeats 400000
set_option linter.all false
namespace Mine

theorem rngI_mem {n : Nat} {k : Int} (h : k ∈ rngI 0 1 n) : 0 ≤ k ∧ k < n := by
  unfold rngI at h
  obtain ⟨i, hi, rfl⟩ := List.mem_map.mp h
  rw [List.mem_range] at hi
  omega
theorem fmod_range (x : Int) {m : Int} (hm : 0 < m) : 0 ≤ x.fmod m ∧ x.fmod m < m := by
  rw [Int.fmod_eq_emod_of_nonneg _ (by omega)]
  exact ⟨Int.emod_nonneg _ (by omega), Int.emod_lt_of_pos _ hm⟩

theorem readS_long {n : Int} {xs : List Str} {N : Nat} (h : ∀ x ∈ xs, x.length ≤ N) : ∀ x ∈ readS n xs, x.length ≤ N := by
  intro x hx
  unfold readS at hx
  obtain ⟨y, hy, rfl⟩ := List.mem_map.mp hx
  exact Nat.le_trans (cut_len y) (h y (List.mem_filter.mp hy).1)

section
variable {prog : Program} {w : World} {A : Around} {E : Value → Shared → Prop} {b s : Shared} {Y : Ledger} {G : GLedger} {mg mb : Str → Option Value} {names : List Str}
theorem r_range3 {L : Ledger} {Q : Value → Shared → Prop} {x y z : Int} {t u v : Tok} (S : St b s L G) (hz : z ≠ 0) (hp : PylongRoom (model prog w) A s) (h : ∀ a s', St b s' ((a, rngC x y z) :: L) G → Q (.ref a) s') : wpAny (model prog w) A (call (.type "range") [.int x t, .int y u, .int z v]) Q E s :=
  call_range_3 hz (h _ _ (S.alloc ⟨_, _, _, rfl⟩ _)) (.inr hp)
theorem r_comp {env : Env} {Q : Value → Shared → Prop} {elt iter : Expr} {x : Str} {px : Pos} {ifs : List Expr} {scope : Scope} {cl : List (Str × Addr)} {pos : Pos}
    (hiter : wpAny (model prog w) A (eval iter env) (fun v s₁ => ∃ Lr d Ps L₁ F₀ X G₁ G J, CompJob prog w A E b env elt x ifs scope cl none Q v s₁ Lr d Ps L₁ F₀ X G₁ G J) NoE s)
    (hclos : closureFor scope env = pure cl := by kernel_rfl) (hkind : scope.kind = .function := by kernel_rfl) (hnames : ∀ y ∈ scope.names, y.2 = .local → scope.names.lookup y.1 = some .local := by decide)
    (hcell : ∀ y ∈ scope.names, y.2 ≠ .cell := by decide) (hx : scope.names.lookup x = some .local := by kernel_rfl) (hs : ∀ v, foldedSetIterable iter env v = pure v := by intro _; kernel_rfl) :
    wpAny (model prog w) A (eval (.ListComp elt [⟨.Name x px, iter, ifs, 0⟩] scope pos) env) Q E s := by
  rw [eval_ListComp]
  exact comp_job (b := b) (cl := cl) hiter hclos hkind hnames hcell hx hs

end
theorem fnAt_of {p : Program} {loose : List Str} {mean : ExcName → Option Value} {mg mb : Str → Option Value} {s : Shared} (T : Top p loose mean mg mb s.heap) {name : Str} {params : Arguments} {body : List Stmt} {scope : Scope}
    (h : ∃ d ∈ recsOf p, d.name = name ∧ d.params = params ∧ d.body = body ∧ d.scope = scope) : ∃ a cd, FnAt s mg a name params body scope cd := by
  obtain ⟨d, hd, rfl, rfl, rfl, rfl⟩ := h
  obtain ⟨a, o, pm, code, doc, h1, h2, h3, h4⟩ := T.fn d hd
  exact ⟨a, code, h1, ⟨o, pm, doc, h2, h3⟩, h4⟩
theorem bs_of {p : Program} {loose : List Str} {mean : ExcName → Option Value} {mg mb : Str → Option Value} {s : Shared} (T : Top p loose mean mg mb s.heap) :
    Bs s mg mb (startupNames ++ loose ++ (recsOf p).map (·.name) ++ (PyProof.Rows.litsOf p).map (·.1) ++ (clssOf p loose).map (·.name)) :=
  ⟨T.g, T.b, T.nolimit, T.builtins, fun x hx => by
    simp only [List.mem_append, not_or] at hx
    exact T.free x hx.1.1.1.1 hx.1.1.1.2 hx.1.1.2 hx.1.2 hx.2⟩

end Mine


-- part M4
open PySem PySem.W PySem.W.X PyProof.Rows PySem.Calls PySem.Spec PySem.SeqAt
set_option Elab.async false
set_option maxRecDepth 100000
set_option maxHeartbeats 400000
set_option linter.all false
namespace Mine

def lstI (ns : List Int) : Cell := fun o => ∃ vs n, o = lstObj vs n ∧ IntsAre vs.toList ns
theorem hasL_I {b : Shared} {Lr : Ledger} {l : Addr} {ns : List Int} (h : (l, lstI ns) ∈ Lr) : HasL b Lr l (ns.map vI) := fun s F G hF S => by
  obtain ⟨_, e, vs, n, rfl, hi⟩ := S.get (hF _ h)
  refine ⟨vs, ⟨_, e, rfl, n, rfl⟩, by simpa using hi.length, fun i P e => ?_⟩
  rw [List.getElem?_map] at e
  obtain ⟨y, hy, rfl⟩ := Option.map_eq_some_iff.mp e
  obtain ⟨t, ht⟩ := intsAre_get hi hy
  exact ⟨_, by rw [← Array.getElem?_toList]; exact ht, t, rfl⟩

theorem strs_reverse {vs : List Value} {ys : List Str} (h : StrsAre vs ys) : StrsAre vs.reverse ys.reverse := by
  induction h with
  | nil => exact .nil
  | cons y t _ ih => rw [List.reverse_cons, List.reverse_cons]; exact ih.append' (.cons y t .nil)

section
variable {prog : Program} {w : World} {A : Around} {E : Value → Shared → Prop} {b s : Shared} {L L' X : Ledger} {G : GLedger} {env : Env} {mg mb : Str → Option Value} {names : List Str} {Q : Value → Shared → Prop}

theorem r_min2 {x y : Int} {t u : Tok} (hh : A.handled = none) (S : St b s L G) (h : ∀ t s', St b s' L G → Q (.int (min x y) t) s') : wpAny (model prog w) A (call (.builtin "min") [.int x t, .int y u]) Q E s := by
  refine PySem.Flt.min_two_num hh (.int x t) (.int y u) fun h' tk hk => ?_
  have S' : St b { s with heap := h', toks := tk } L G := S.keeps hk
  show Q (if decide (y < x) = true then .int y u else .int x t) _
  by_cases hlt : y < x
  · rw [if_pos (by simpa using hlt)]
    have := h u _ S'
    rwa [Int.min_eq_right (by omega)] at this
  · rw [if_neg (by simpa using hlt)]
    have := h t _ S'
    rwa [Int.min_eq_left (by omega)] at this

theorem r_callB2 {x : Str} {e₁ e₂ : Expr} {p pos : Pos} {id : String} (B : Bs b mg mb names) (S : St b s L G) (hv : bootBuiltins x = some (.builtin id))
    (h : wpAny (model prog w) A (eval e₁ env) (fun v₁ s₁ => wpAny (model prog w) A (eval e₂ env) (fun v₂ s₂ => wpAny (model prog w) A (call (.builtin id) [v₁, v₂]) Q E s₂) E s₁) E s)
    (hfree : x ∉ names := by decide) (hn : x ≠ "__name__" := by decide) (hg : env.globals = mainGlobals := by kernel_rfl) (hb : env.builtins = builtinsNs := by kernel_rfl)
    (hk : env.scope.kind = .function := by kernel_rfl) (hx : env.kindOf x = some .globalImplicit := by kernel_rfl) (hd : (x == ("__debug__" : Str)) = false := by decide)
    (ht : backTo pos (starEach [e₁, e₂] env) = [(false, eval e₁ env), (false, eval e₂ env)] := by kernel_rfl) :
    wpAny (model prog w) A (eval (.Call (.Name x p) [e₁, e₂] [] pos) env) Q E s := by
  refine wpAny_Call_NameR (r_bname B S hv ?_ hfree hn hg hb hk hx hd)
  rw [ht]
  exact Calls.callWith_builtin rfl (Calls.evalArgs_plain (Calls.spliced_cons (wpAny_mono h (fun _ _ h₁ => Calls.spliced_cons (wpAny_mono h₁ (fun _ _ h₂ => Calls.spliced_nil h₂) fun _ _ e => e)) fun _ _ e => e)))

theorem r_addLS {l l' : Addr} {ys zs : List Str} (S : St b s L G) (hl : (l, lstS ys) ∈ L) (hl' : (l', lstS zs) ∈ L) (hz : ys.length + zs.length ≤ sizeLine) (h : ∀ a s', St b s' ((a, lstS (ys ++ zs)) :: L) G → Q (.ref a) s') : wpAny (model prog w) A (binaryOp .Add (.ref l) (.ref l')) Q E s := by
  obtain ⟨vs, n, hv, hs⟩ := S.isLS hl
  obtain ⟨us, m, hv', hs'⟩ := S.isLS hl'
  refine P.add_list hv hv' (h _ _ (S.alloc (P := lstS (ys ++ zs)) ⟨_, 0, rfl, ?_⟩)) (by rw [size_of hs, size_of hs']; exact hz)
  simpa using hs.append' hs'
theorem r_addLI {l l' : Addr} {ys zs : List Int} (S : St b s L G) (hl : (l, lstI ys) ∈ L) (hl' : (l', lstI zs) ∈ L) (hz : ys.length + zs.length ≤ sizeLine) (h : ∀ a s', St b s' ((a, lstI (ys ++ zs)) :: L) G → Q (.ref a) s') : wpAny (model prog w) A (binaryOp .Add (.ref l) (.ref l')) Q E s := by
  obtain ⟨_, hv, vs, n, rfl, hs⟩ := S.get hl
  obtain ⟨_, hv', us, m, rfl, hs'⟩ := S.get hl'
  have e1 : vs.size = ys.length := by simpa using hs.length
  have e2 : us.size = zs.length := by simpa using hs'.length
  refine P.add_list hv hv' (h _ _ (S.alloc (P := lstI (ys ++ zs)) ⟨_, 0, rfl, ?_⟩)) (by rw [e1, e2]; exact hz)
  simpa using hs.append hs'
/-- list(ints of the call) -/
theorem r_listI {l : Addr} {vs : List Value} {ns : List Int} (S : St b s L G) (hL : b.heap.IsList l vs.toArray) (hI : IntsAre vs ns) (hz : ns.length ≤ sizeLine) (h : ∀ a s', St b s' ((a, lstI ns) :: L) G → Q (.ref a) s') : wpAny (model prog w) A (call (.type "list") [.ref l]) Q E s := by
  obtain ⟨o, ho, hc, n, hd⟩ := hL
  refine call_list_seq l (.inl rfl) (S.keep _ _ ho) hc hd (fun h' c' hk hg => h _ _ (S.new (heap_get_size _) hk hg ⟨_, c', rfl, by simpa using hI⟩)) (by
    have := hI.length
    simpa [this] using hz)

theorem r_itemVneg {value slice : Expr} {l : Addr} {vs : List Value} {k : Int} {u : Tok} {v : Value} (S : St b s L G) (hl : (l, lstV vs) ∈ L) (h0 : k < 0) (h1 : -(vs.length : Int) ≤ k) (hz : -(2 ^ 63) ≤ k) (hy : vs[(k + vs.length).toNat]? = some v) (h : Q v s)
    (hs : subscripted slice false (.ref l) (.int k u) = operate [.ref l, .int k u] (getItem (.ref l) (.int k u)) := by kernel_rfl) :
    wpAny (model prog w) A (subscriptTail value slice (.ref l) (.int k u)) Q E s := by
  obtain ⟨n, hv⟩ := S.isLV hl
  exact tail_any hv.isList.typeIs slot_list_getitem.lookup (wpAny_getItem_list_neg hv.isList h0 (by simpa using h1) hz (by simpa using hy) h) hs

theorem fm_some {α β : Type} (f : α → Option β) : ∀ (l : List α) (r : List β), l.map f = r.map some → l.filterMap f = r
  | [], [], _ => rfl
  | [], _ :: _, h => by simp at h
  | _ :: _, [], h => by simp at h
  | a :: l, c :: r, h => by
    simp only [List.map_cons, List.cons.injEq] at h
    rw [List.filterMap_cons, h.1, fm_some f l r h.2]
theorem rev_pick (items : Array Value) : slicePick items none none (some (-1)) = items.toList.reverse.toArray := by
  unfold slicePick sliceBounds sliceRange
  simp only [Option.getD_some, show ¬ ((-1 : Int) > 0) by decide, if_false]
  congr 1
  have hn : (if ((items.size : Int) - 1) > -1 then ((items.size : Int) - 1 - -1 - -1 - 1) / (- -1) else 0).toNat = items.size := by
    split
    · rw [show (- -1 : Int) = 1 by decide, Int.ediv_one]; omega
    · omega
  rw [hn]
  apply fm_some
  rw [List.map_map]
  apply List.ext_getElem?
  intro i
  simp only [List.getElem?_map]
  by_cases hi : i < items.size
  · rw [List.getElem?_range hi, List.getElem?_reverse (by simpa using hi)]
    simp only [Option.map_some, Function.comp, Array.length_toList]
    rw [show ((items.size : Int) - 1 + -1 * (i : Int)).toNat = items.size - 1 - i by omega, Array.getElem?_toList, Array.getElem?_eq_getElem (show items.size - 1 - i < items.size by omega)]
    rfl
  · rw [List.getElem?_eq_none (by simpa using hi), List.getElem?_eq_none (by simpa using hi)]
    rfl

/-- texts[::-1] -/
theorem r_rev {value : Expr} {st : Expr} {p pos : Pos}
    (h : wpAny (model prog w) A (eval value env) (fun o s₁ => ∃ l, o = .ref l ∧ wpAny (model prog w) A (eval st env) (fun v s₂ => ∃ t ys L G, v = .int (-1) t ∧ St b s₂ L G ∧ (l, lstS ys) ∈ L ∧ ys.length ≤ sizeLine ∧ ∀ a s', St b s' ((a, lstS ys.reverse) :: L) G → Q (.ref a) s') E s₁) E s)
    (ht : ∀ o r, letTemporaryGo value o r = pure () := by intro _ _; kernel_rfl) :
    wpAny (model prog w) A (eval (.Subscript value (.Slice none none (some st) p) pos) env) Q E s := by
  refine wpAny_Subscript_Slice_step (T := "list") list_getitem_lookup (wpAny_mono h (fun o s₁ h₁ => ?_) fun _ _ x => x) ht
  obtain ⟨l, rfl, h₁⟩ := h₁
  refine wpAny_Slice (wpAny_evalPart_none (wpAny_evalPart_none (wpAny_evalPart_some (wpAny_mono h₁ (fun v s₂ h₂ => ?_) fun _ _ x => x))))
  obtain ⟨t, ys, L, G, rfl, S, hl, hz, hQ⟩ := h₂
  obtain ⟨vs, n, hv, hs⟩ := S.isLS hl
  have S₁ := S.push { cls := .type "slice", data := .fields #[.none, .none, .int (-1) t] } s₂.toks
  refine ⟨(hv.isList.push _).typeIs, wpAny_getItem_list_slice (hv.isList.push _) (Heap.IsSliceOf.new ..) .none .none (.int _ _) (by decide) (hQ _ _ (S₁.alloc (P := lstS ys.reverse) ⟨_, 0, rfl, ?_⟩)) (by rw [size_of hs]; exact hz)⟩
  rw [rev_pick]
  exact strs_reverse hs

/-- a method of a list's without arguments -/
theorem r_meth0 {o : Expr} {name : Str} {apos pos : Pos} {id : String} (slot : Slot "list" name id) (hty : typeOf (.builtin id) = pure (.type "method_descriptor"))
    (h : wpAny (model prog w) A (eval o env) (fun ov s₁ => ∃ D ob, ov = .ref D ∧ s₁.heap.get? D = some ob ∧ ob.cls = .type "list" ∧ ob.dict = none ∧ wpAny (model prog w) A (callWith pos (.builtin id) [.ref D] [] []) Q E s₁) E s)
    (hbase : attributeBase o name env (eval o env) = eval o env := by kernel_rfl) (hline : (apos.endLine == pos.line) = true := by kernel_rfl) :
    wpAny (model prog w) A (eval (.Call (.Attribute o name apos) [] [] pos) env) Q E s := by
  refine wpAny_Call_method (T := "list") (id := id) hbase rfl hline F.plainAttrs_list slot hty (wpAny_mono h (fun ov s₁ h₁ => ?_) fun _ _ x => x)
  obtain ⟨D, ob, rfl, ho, hc, hd, h₂⟩ := h₁
  refine ⟨⟨ob, ho, hc⟩, fun a e => ?_, h₂⟩
  cases e
  exact ⟨ob, ho, hd⟩
theorem r_popV {o : Expr} {apos pos : Pos} 
    (h : wpAny (model prog w) A (eval o env) (fun ov s₁ => ∃ l vs v L L' G, ov = .ref l ∧ St b s₁ L G ∧ (l, lstV (vs ++ [v])) ∈ L ∧ Upd L l (lstV vs) L' ∧ vs.length < sizeLine ∧ ∀ s', St b s' L' G → Q v s') E s)
    (hbase : attributeBase o "pop" env (eval o env) = eval o env := by kernel_rfl) (hline : (apos.endLine == pos.line) = true := by kernel_rfl) :
    wpAny (model prog w) A (eval (.Call (.Attribute o "pop" apos) [] [] pos) env) Q E s := by
  refine r_meth0 F.slot_list_pop F.type_list_pop (wpAny_mono h (fun ov s₁ h₁ => ?_) fun _ _ x => x) hbase hline
  obtain ⟨l, vs, v, L, L', G, rfl, S, hl, hu, hz, hQ⟩ := h₁
  obtain ⟨n, hv⟩ := S.isLV hl
  refine ⟨_, _, rfl, hv, rfl, rfl, P.pop_list hv (y := v) (by simp) (hQ _ (S.set hu ⟨_, hl⟩ (Heap.SameBut.update ..).extBut (hv.update _) ?_)) (by simp; omega)⟩
  obtain ⟨n', e⟩ := lst_push (vs := (vs ++ [v]).toArray) (n := n) (fun xs => xs.eraseIdxIfInBounds ((vs ++ [v]).toArray.size - 1))
  refine ⟨n', e.trans ?_⟩
  have : (vs ++ [v]).toArray.eraseIdxIfInBounds ((vs ++ [v]).toArray.size - 1) = vs.toArray := by
    simp
    rw [List.eraseIdx_append_of_length_le (Nat.le_refl _)]
    simp
  rw [this]
theorem r_methV {o e : Expr} {name : Str} {apos pos : Pos} {id : String} {env : Env} (slot : Slot "list" name id) (hty : typeOf (.builtin id) = pure (.type "method_descriptor"))
    (h : wpAny (model prog w) A (eval o env) (fun ov s₁ => ∃ l ys L G, ov = .ref l ∧ St b s₁ L G ∧ (l, lstV ys) ∈ L ∧ wpAny (model prog w) A (callWith pos (.builtin id) [.ref l] [(false, eval e env)] []) Q E s₁) E s)
    (hbase : attributeBase o name env (eval o env) = eval o env := by kernel_rfl) (hline : (apos.endLine == pos.line) = true := by kernel_rfl) (htrees : backTo pos (starEach [e] env) = [(false, eval e env)] := by kernel_rfl) :
    wpAny (model prog w) A (eval (.Call (.Attribute o name apos) [e] [] pos) env) Q E s := by
  refine r_meth1 slot hty (wpAny_mono h (fun ov s₁ h₁ => ?_) fun _ _ x => x) hbase hline htrees
  obtain ⟨l, ys, L, G, rfl, S, hl, h₂⟩ := h₁
  obtain ⟨_, e, m, rfl⟩ := S.get hl
  exact ⟨_, _, rfl, e, rfl, rfl, h₂⟩

theorem strs_any {vs : List Value} {ys : List Str} (h : StrsAre vs ys) (x : Str) (e : Value → Bool) (he : ∀ y t, e (.str y t) = (y == x)) : vs.any e = ys.any (· == x) := by
  induction h with
  | nil => rfl
  | cons y t _ ih => simp only [List.any_cons, he, ih]
theorem strs_mem {vs : List Value} {ys : List Str} (h : StrsAre vs ys) : ∀ v ∈ vs, ∃ y t, v = .str y t := by
  induction h with
  | nil => intro v hv; cases hv
  | cons y t _ ih =>
    intro v hv
    rcases List.mem_cons.mp hv with rfl | hv
    · exact ⟨y, t, rfl⟩
    · exact ih v hv
theorem r_notInS {l : Addr} {ys : List Str} {x : Str} {t : Tok} (S : St b s L G) (hl : (l, lstS ys) ∈ L) (h : Q (.bool (!ys.any (· == x))) s) : wpAny (model prog w) A (compareOp .NotIn (.str x t) (.ref l)) Q E s := by
  obtain ⟨vs, n, hv, hs⟩ := S.isLS hl
  refine PySem.SeqAt.notIn_listAt (fun v => match v with | .str y _ => y == x | _ => false) hv.isList (fun y hy => ?_) ?_
  · obtain ⟨z, u, rfl⟩ := strs_mem hs y (by simpa using hy)
    exact EqAt.str_str _ _ _ _
  · rw [← Array.any_toList, strs_any hs x _ (fun _ _ => rfl)]
    exact h
end
theorem intTo_two {prog : Program} {w : World} {b : Shared} {t : Tok} : IntTo prog w b (.str "2" t) 2 := fun _ _ _ _ _ _ _ S h => KIN.call_text (by decide +kernel) (by decide +kernel) (h _ _ (S.toks _))
end Mine

-- part PL4
open PySem PySem.W PySem.W.X PyProof.Rows PySem.Calls PySem.Spec PySem.SeqAt
set_option Elab.async false
set_option maxRecDepth 100000
set_option maxHeartbeats 400000
set_option linter.all false
namespace Mine

theorem pick_to {α : Type} (l : List α) (c : Nat) : pick l none (some (c : Int)) = l.take c := by
  unfold pick kms_lo kms_hi
  simp only [show ¬ ((c : Int) < 0) by omega, if_false, Int.toNat_natCast, List.drop_zero, Nat.sub_zero]
  rw [List.take_eq_take_iff]; omega

abbrev spL (l : List Str) : List Str := l.map fun y : Str => ("  " : Str) ++ y
abbrev miL (l : List Str) : List Str := l.map fun y : Str => ("- " : Str) ++ y
abbrev plL (l : List Str) : List Str := l.map fun y : Str => ("+ " : Str) ++ y
theorem readS_sps (n : Int) (ys : List Str) : readS n (spL ys) = ys := by
  induction ys with
  | nil => rfl
  | cons y r ih => rw [spL, List.map_cons, ← List.singleton_append, readS_app, readS_sp]; rw [spL] at ih; rw [ih]; rfl
theorem readS_mis1 (ys : List Str) : readS 1 (miL ys) = ys := by
  induction ys with
  | nil => rfl
  | cons y r ih => rw [miL, List.map_cons, ← List.singleton_append, readS_app, readS_mi1]; rw [miL] at ih; rw [ih]; rfl
theorem readS_mis2 (ys : List Str) : readS 2 (miL ys) = [] := by
  induction ys with
  | nil => rfl
  | cons y r ih => rw [miL, List.map_cons, ← List.singleton_append, readS_app, readS_mi2]; rw [miL] at ih; rw [ih]; rfl
def junkL : List Str := ["? ^", "-", "+^", " ^", "x  "]
theorem junk_read : readS 1 junkL = [] ∧ readS 2 junkL = [] := by decide +kernel
theorem junk_good : ∀ y ∈ junkL, Good 3 y := by unfold Good; decide +kernel

/-- the delta of two texts with a common head of h rows and a common tail of t rows -/
def delta4 (old new : List Str) (h t : Nat) : List Str :=
  spL (old.take h) ++ miL ((old.drop h).take (old.length - t - h)) ++ junkL ++ plL ((new.drop h).take (new.length - t - h)) ++ spL (new.drop (new.length - t))
structure Common (old new : List Str) (h t : Nat) : Prop where
  ho : h + t ≤ old.length
  hn : h + t ≤ new.length
  head : old.take h = new.take h
  tail : old.drop (old.length - t) = new.drop (new.length - t)
theorem mid_whole {α : Type} (l : List α) {h t : Nat} (hh : h + t ≤ l.length) : l.take h ++ (l.drop h).take (l.length - t - h) ++ l.drop (l.length - t) = l := by
  rw [← List.take_add, show h + (l.length - t - h) = l.length - t by omega, List.take_append_drop]
theorem delta4_one {old new : List Str} {h t : Nat} (c : Common old new h t) : readS 1 (delta4 old new h t) = old := by
  unfold delta4
  rw [readS_app, readS_app, readS_app, readS_app, readS_sps, readS_mis1, junk_read.1, readS_pls1, readS_sps, List.append_nil, List.append_nil, ← c.tail]
  exact mid_whole old c.ho
theorem delta4_two {old new : List Str} {h t : Nat} (c : Common old new h t) : readS 2 (delta4 old new h t) = new := by
  unfold delta4
  rw [readS_app, readS_app, readS_app, readS_app, readS_sps, readS_mis2, junk_read.2, readS_pls2, readS_sps, List.append_nil, List.append_nil, c.head]
  exact mid_whole new c.hn
theorem delta4_len {old new : List Str} {h t : Nat} (c : Common old new h t) : (delta4 old new h t).length ≤ old.length + new.length + 5 := by
  have := c.ho
  have := c.hn
  unfold delta4
  simp only [List.length_append, List.length_map, List.length_take, List.length_drop, show junkL.length = 5 from rfl]
  omega
theorem delta4_good {old new : List Str} {h t k : Nat} (hk : 1 ≤ k) (ho : ∀ y ∈ old, Good k y) (hn : ∀ y ∈ new, Good k y) : ∀ y ∈ delta4 old new h t, Good (2 + k) y := by
  intro y hy
  unfold delta4 at hy
  simp only [List.mem_append, List.mem_map] at hy
  rcases hy with (((⟨z, hz, rfl⟩ | ⟨z, hz, rfl⟩) | hy) | ⟨z, hz, rfl⟩) | ⟨z, hz, rfl⟩
  · exact good_app good_sp (ho z (List.mem_of_mem_take hz))
  · exact good_app good_mi (ho z (List.mem_of_mem_drop (List.mem_of_mem_take hz)))
  · exact (junk_good y hy).mono (by omega)
  · exact good_app good_pl (hn z (List.mem_of_mem_drop (List.mem_of_mem_take hz)))
  · exact good_app good_sp (hn z (List.mem_of_mem_drop hz))

/-! the fold of two deltas -/
theorem good_qu : Good 2 "? " := by unfold Good; decide +kernel
theorem len_qu : ("? " : Str).cps.toList.length = 2 := by decide +kernel
theorem keep_qu (n : Int) (hn : n = 1 ∨ n = 2) (y : Str) : keepS (tagOf n) ("? " ++ y) = false := by
  unfold keepS tagOf; rw [head2 len_qu]
  rcases hn with rfl | rfl <;> decide +kernel
/-- the two first signs -/
abbrev hd2 (x : Str) : Str := Txt.slice x none (some 2)
theorem beqc (a c : Str) : (a == c) = (c == a) := Bool.eq_iff_iff.mpr ⟨fun h => by rw [beq_iff_eq] at h ⊢; exact h.symm, fun h => by rw [beq_iff_eq] at h ⊢; exact h.symm⟩
theorem keep_iff (n : Int) (x : Str) : keepS (tagOf n) x = (hd2 x == "  " || hd2 x == tagOf n) := by
  unfold keepS
  simp only [List.any_cons, List.any_nil, Bool.or_false]
  rw [beqc "  ", beqc (tagOf n)]
theorem tag1 : tagOf 1 = "- " := rfl
theorem tag2 : tagOf 2 = "+ " := by unfold tagOf; rfl
theorem ne_12 : (("+ " : Str) == "- ") = false := by decide +kernel
theorem ne_s1 : (("  " : Str) == "- ") = false := by decide +kernel
theorem ne_s2 : (("  " : Str) == "+ ") = false := by decide +kernel
theorem ne_1s : (("- " : Str) == "  ") = false := by decide +kernel
theorem ne_2s : (("+ " : Str) == "  ") = false := by decide +kernel
theorem ne_m2 : (("- " : Str) == "+ ") = false := by decide +kernel

def fFar (second : List Str) (k : Nat) : Nat := k + ((second.drop k).takeWhile fun x => !keepS (tagOf 1) x).length
/-- the row that the fold adds for row (of the first) and z (of the second) -/
def fRow (row z : Str) : Str := if hd2 row == "  " then z else if hd2 z == "  " then row else "? " ++ cutS row
def fStep (second : List Str) (st : List Str × Nat) (row : Str) : List Str × Nat :=
  if keepS (tagOf 2) row = false then (st.1 ++ [row], st.2)
  else (st.1 ++ (second.drop st.2).take (fFar second st.2 - st.2) ++ [fRow row (second.getD (fFar second st.2) "")], fFar second st.2 + 1)
def foldS (first second : List Str) : List Str := (first.foldl (fStep second) ([], 0)).1 ++ second.drop (first.foldl (fStep second) ([], 0)).2

theorem readS_none {n : Int} : ∀ {l : List Str}, (∀ x ∈ l, keepS (tagOf n) x = false) → readS n l = []
  | [], _ => rfl
  | x :: r, h => by
    rw [← List.singleton_append, readS_app, readS_drop (h x (.head _)), readS_none (fun y hy => h y (.tail _ hy))]; rfl
theorem readS_cons (n : Int) (x : Str) (l : List Str) : readS n (x :: l) = readS n [x] ++ readS n l := by rw [← readS_app]; rfl

structure FInv (pre second : List Str) (st : List Str × Nat) : Prop where
  le : st.2 ≤ second.length
  one : readS 1 st.1 = readS 1 pre
  two : readS 2 st.1 = readS 2 (second.take st.2)
  meet : readS 1 (second.take st.2) = readS 2 pre
  len : st.1.length ≤ pre.length + st.2
/-- the next kept row of the second is there -/
theorem fFar_lt {pre second : List Str} {st : List Str × Nat} {row : Str} {rest : List Str} (h : FInv pre second st) (hk : keepS (tagOf 2) row = true) (hm : readS 2 (pre ++ row :: rest) = readS 1 second) :
    fFar second st.2 < second.length ∧ ∃ z, second[fFar second st.2]? = some z ∧ keepS (tagOf 1) z = true ∧ cutS z = cutS row ∧ readS 1 ((second.drop st.2).take (fFar second st.2 - st.2)) = [] := by
  have hsk : (second.drop st.2).take (fFar second st.2 - st.2) = (second.drop st.2).takeWhile fun x => !keepS (tagOf 1) x := by
    unfold fFar
    rw [Nat.add_sub_cancel_left, takeWhile_take]
  have hnone : readS 1 ((second.drop st.2).take (fFar second st.2 - st.2)) = [] := readS_none fun x hx => by
    rw [hsk] at hx
    have := List.all_takeWhile (p := fun x => !keepS (tagOf 1) x) (l := second.drop st.2)
    rw [List.all_eq_true] at this
    simpa using this x hx
  have hdrop : readS 1 (second.drop st.2) = cutS row :: readS 2 rest := by
    have e : readS 1 second = readS 1 (second.take st.2) ++ readS 1 (second.drop st.2) := by rw [← readS_app, List.take_append_drop]
    rw [e, h.meet, readS_app, readS_cons 2 row rest, readS_keep hk rfl] at hm
    have := List.append_cancel_left hm
    rw [← this]; rfl
  have hlt : ((second.drop st.2).takeWhile fun x => !keepS (tagOf 1) x).length < (second.drop st.2).length := by
    apply Nat.lt_of_not_le
    intro hle
    have hall : (second.drop st.2).takeWhile (fun x => !keepS (tagOf 1) x) = second.drop st.2 := by
      rw [← takeWhile_take, List.take_of_length_le hle]
    rw [← hsk] at hall
    rw [hall, hdrop] at hnone
    cases hnone
  have hlt2 : fFar second st.2 < second.length := by unfold fFar; rw [List.length_drop] at hlt; omega
  obtain ⟨z, hz, hp⟩ := takeWhile_at (fun x => !keepS (tagOf 1) x) (second.drop st.2) hlt
  rw [List.getElem?_drop] at hz
  have hz' : second[fFar second st.2]? = some z := hz
  have hkz : keepS (tagOf 1) z = true := by simpa using hp
  refine ⟨hlt2, z, hz', hkz, ?_, hnone⟩
  have e2 : second.drop st.2 = (second.drop st.2).take (fFar second st.2 - st.2) ++ second.drop (fFar second st.2) := by
    have := List.take_append_drop (fFar second st.2 - st.2) (second.drop st.2)
    rw [List.drop_drop, show st.2 + (fFar second st.2 - st.2) = fFar second st.2 by unfold fFar; omega] at this
    exact this.symm
  have e3 : second.drop (fFar second st.2) = z :: second.drop (fFar second st.2 + 1) := by
    rw [List.drop_eq_getElem_cons hlt2]
    rw [List.getElem?_eq_getElem hlt2] at hz'
    injection hz' with hz'
    rw [hz']
  rw [e2, readS_app, hnone, e3, readS_cons, readS_keep hkz rfl] at hdrop
  simpa using (List.cons.inj hdrop).1
theorem FInv.step {pre second : List Str} {st : List Str × Nat} {row : Str} {rest : List Str} (h : FInv pre second st) (hm : readS 2 (pre ++ row :: rest) = readS 1 second) : FInv (pre ++ [row]) second (fStep second st row) := by
  unfold fStep
  by_cases hk : keepS (tagOf 2) row = true
  · rw [if_neg (by simp [hk])]
    obtain ⟨hlt, z, hz, hkz, hcut, hnone⟩ := fFar_lt h hk hm
    have hge : st.2 ≤ fFar second st.2 := Nat.le_add_right _ _
    have hzd : second.getD (fFar second st.2) "" = z := by rw [List.getD_eq_getElem?_getD, hz]; rfl
    rw [hzd]
    have htk : second.take (fFar second st.2 + 1) = second.take st.2 ++ (second.drop st.2).take (fFar second st.2 - st.2) ++ [z] := by
      rw [List.take_add_one, hz, ← List.take_add, show st.2 + (fFar second st.2 - st.2) = fFar second st.2 by omega]; rfl
    have hz1 : readS 1 [z] = [cutS row] := readS_keep hkz hcut
    have hr2 : readS 2 [row] = [cutS row] := readS_keep hk rfl
    have key : readS 1 [fRow row z] = readS 1 [row] ∧ readS 2 [fRow row z] = readS 2 [z] := by
      unfold fRow
      rw [keep_iff, tag2] at hk
      rw [keep_iff, tag1] at hkz
      by_cases h1 : hd2 row = "  "
      · rw [if_pos (by simp [h1])]
        refine ⟨?_, rfl⟩
        rw [hz1]
        exact (readS_keep (by rw [keep_iff, h1]; rfl) rfl).symm
      · rw [if_neg (by simpa using h1)]
        have h2 : hd2 row = "+ " := by
          rw [Bool.or_eq_true] at hk
          rcases hk with hk | hk
          · exact absurd (by simpa using hk) h1
          · simpa using hk
        have hr1 : readS 1 [row] = [] := readS_drop (by rw [keep_iff, h2, tag1, ne_2s, ne_12]; rfl)
        by_cases h3 : hd2 z = "  "
        · rw [if_pos (by simp [h3])]
          refine ⟨rfl, ?_⟩
          rw [hr2]
          exact (readS_keep (by rw [keep_iff, h3]; rfl) hcut).symm
        · rw [if_neg (by simpa using h3)]
          have h4 : hd2 z = "- " := by
            rw [Bool.or_eq_true] at hkz
            rcases hkz with hk | hk
            · exact absurd (by simpa using hk) h3
            · simpa using hk
          rw [hr1, readS_drop (keep_qu 1 (.inl rfl) _), readS_drop (keep_qu 2 (.inr rfl) _)]
          refine ⟨rfl, ?_⟩
          exact (readS_drop (by rw [keep_iff, h4, tag2, ne_1s, ne_m2]; rfl)).symm
    refine ⟨by show fFar second st.2 + 1 ≤ _; omega, ?_, ?_, ?_, ?_⟩
    · show readS 1 _ = _
      rw [readS_app, readS_app, h.one, hnone, key.1, List.append_nil, readS_app]
    · show readS 2 _ = readS 2 (second.take (fFar second st.2 + 1))
      rw [readS_app, readS_app, h.two, key.2, htk, readS_app, readS_app]
    · show readS 1 (second.take (fFar second st.2 + 1)) = _
      rw [htk, readS_app, readS_app, h.meet, hnone, hz1, List.append_nil, readS_app, hr2]
    · show (st.1 ++ _ ++ [_]).length ≤ (pre ++ [row]).length + (fFar second st.2 + 1)
      have := h.len
      simp only [List.length_append, List.length_take, List.length_drop, List.length_cons, List.length_nil]
      omega
  · have hk' : keepS (tagOf 2) row = false := by simpa using hk
    rw [if_pos hk']
    refine ⟨h.le, ?_, ?_, ?_, ?_⟩
    · show readS 1 _ = _
      rw [readS_app, h.one, readS_app]
    · show readS 2 _ = readS 2 (second.take st.2)
      rw [readS_app, readS_drop hk', List.append_nil, h.two]
    · show readS 1 (second.take st.2) = _
      rw [readS_app, readS_drop hk', List.append_nil, h.meet]
    · show (st.1 ++ [row]).length ≤ (pre ++ [row]).length + st.2
      have := h.len
      simp only [List.length_append, List.length_cons, List.length_nil]
      omega
theorem FInv.run {second : List Str} : ∀ (rest pre : List Str) (st : List Str × Nat), readS 2 (pre ++ rest) = readS 1 second → FInv pre second st → FInv (pre ++ rest) second (rest.foldl (fStep second) st)
  | [], pre, st, _, h => by simpa using h
  | y :: r, pre, st, hm, h => by
    have := FInv.run r (pre ++ [y]) (fStep second st y) (by simpa using hm) (h.step hm)
    simpa using this
theorem fInv0 (second : List Str) : FInv [] second ([], 0) := ⟨Nat.zero_le _, rfl, rfl, rfl, Nat.le_refl _⟩
theorem fInv {first second : List Str} (hm : readS 2 first = readS 1 second) : FInv first second (first.foldl (fStep second) ([], 0)) := FInv.run first [] ([], 0) hm (fInv0 second)
theorem FInv.run' {second : List Str} (ys rest : List Str) (hm : readS 2 (ys ++ rest) = readS 1 second) : FInv ys second (ys.foldl (fStep second) ([], 0)) := by
  have go : ∀ (zs pre rest : List Str) (st : List Str × Nat), readS 2 (pre ++ zs ++ rest) = readS 1 second → FInv pre second st → FInv (pre ++ zs) second (zs.foldl (fStep second) st) := by
    intro zs
    induction zs with
    | nil => intro pre rest st _ h; simpa using h
    | cons y r ih =>
      intro pre rest st hm h
      have := ih (pre ++ [y]) rest (fStep second st y) (by simpa using hm) (h.step (row := y) (rest := r ++ rest) (by simpa using hm))
      simpa using this
  exact go ys [] rest ([], 0) hm (fInv0 second)
theorem fold_one {first second : List Str} (hm : readS 2 first = readS 1 second) : readS 1 (foldS first second) = readS 1 first := by
  have h := fInv hm
  have e : readS 1 second = readS 1 (second.take (first.foldl (fStep second) ([], 0)).2) ++ readS 1 (second.drop (first.foldl (fStep second) ([], 0)).2) := by rw [← readS_app, List.take_append_drop]
  rw [h.meet, ← hm] at e
  have e2 : readS 1 (second.drop (first.foldl (fStep second) ([], 0)).2) = [] := List.self_eq_append_right.mp e
  unfold foldS
  rw [readS_app, h.one, e2, List.append_nil]
theorem fold_two {first second : List Str} (hm : readS 2 first = readS 1 second) : readS 2 (foldS first second) = readS 2 second := by
  have h := fInv hm
  unfold foldS
  rw [readS_app, h.two, ← readS_app, List.take_append_drop]
theorem fold_len {first second : List Str} (hm : readS 2 first = readS 1 second) : (foldS first second).length ≤ first.length + second.length := by
  have h := fInv hm
  have := h.len
  have := h.le
  unfold foldS
  rw [List.length_append, List.length_drop]
  omega
theorem cut_good {k : Nat} {x : Str} (h : Good k x) : Good (k - 2) (cutS x) := by
  have e : cutS x = ⟨(x.cps.toList.drop 2).toArray⟩ := slice_suf x
  refine ⟨?_, ?_⟩
  · rw [e, str_len]
    show ((x.cps.toList.drop 2).toArray).toList.length ≤ _
    have := h.1
    rw [str_len] at this
    simp only [List.length_drop]
    omega
  · rw [e]
    have h2 := h.2
    unfold PyData.strOk at h2 ⊢
    rw [← Array.all_toList] at h2 ⊢
    rw [List.all_eq_true] at h2 ⊢
    intro c hc
    exact h2 c (List.mem_of_mem_drop (by simpa using hc))
theorem fRow_good {k : Nat} (hk : 2 ≤ k) {row z : Str} (hr : Good k row) (hz : Good k z) : Good k (fRow row z) := by
  unfold fRow
  split
  · exact hz
  · split
    · exact hr
    · exact (good_app good_qu (cut_good hr)).mono (by omega)
theorem fStep_good {k : Nat} (hk : 2 ≤ k) {second : List Str} (hn : ∀ y ∈ second, Good k y) {st : List Str × Nat} {row : Str} (hr : Good k row) (hs : ∀ y ∈ st.1, Good k y) : ∀ y ∈ (fStep second st row).1, Good k y := by
  unfold fStep
  split
  · intro y hy
    simp only [List.mem_append, List.mem_singleton] at hy
    rcases hy with hy | rfl
    · exact hs y hy
    · exact hr
  · intro y hy
    simp only [List.mem_append, List.mem_singleton] at hy
    rcases hy with (hy | hy) | rfl
    · exact hs y hy
    · exact hn y (List.mem_of_mem_drop (List.mem_of_mem_take hy))
    · refine fRow_good hk hr ?_
      rw [List.getD_eq_getElem?_getD]
      cases hq : second[fFar second st.2]? with
      | none => exact ⟨by show (0 : Nat) ≤ k; omega, by decide +kernel⟩
      | some z => exact hn z (List.mem_of_getElem? hq)
theorem fRun_good {k : Nat} (hk : 2 ≤ k) {second : List Str} (hn : ∀ y ∈ second, Good k y) : ∀ (first : List Str) (st : List Str × Nat), (∀ y ∈ first, Good k y) → (∀ y ∈ st.1, Good k y) → ∀ y ∈ (first.foldl (fStep second) st).1, Good k y
  | [], st, _, hs => hs
  | z :: r, st, ho, hs => fRun_good hk hn r (fStep second st z) (fun y hy => ho y (.tail _ hy)) (fStep_good hk hn (ho z (.head _)) hs)
theorem fold_good {k : Nat} (hk : 2 ≤ k) {first second : List Str} (ho : ∀ y ∈ first, Good k y) (hn : ∀ y ∈ second, Good k y) : ∀ y ∈ foldS first second, Good k y := by
  intro y hy
  unfold foldS at hy
  rcases List.mem_append.mp hy with hy | hy
  · exact fRun_good hk hn first ([], 0) ho (fun y hy => nomatch hy) y hy
  · exact hn y (List.mem_of_mem_drop hy)
end Mine

-- part D4
open PySem PySem.W PySem.W.X PyProof.Rows PySem.Calls PySem.Spec PySem.SeqAt
set_option Elab.async false
set_option maxRecDepth 100000
set_option maxHeartbeats 400000
set_option linter.all false
namespace Mine

local macro_rules | `(tactic| walk_at "mem") => `(tactic| first | assumption | exact List.Mem.head _ | (refine List.Mem.tail _ ?_; walk_at "mem") | (refine List.mem_append_right _ ?_; walk_at "mem"))
local macro_rules | `(tactic| walk_at "mn") => `(tactic| first | with_reducible exact List.mem_cons_self | ((with_reducible refine List.mem_cons_of_mem _ ?_); walk_at "mn"))
local macro_rules | `(tactic| walk_at "upd") => `(tactic| first | exact Upd.head | ((with_reducible apply Upd.tail); walk_at "upd"))
local macro_rules | `(tactic| walk_at "set") => `(tactic| first | with_reducible exact SetN.nil | ((with_reducible refine SetN.hit ?_); kernel_rfl) | ((with_reducible apply SetN.skip); kernel_rfl; walk_at "set"))

def dDef : Stmt := match PySem.Challenge.pw_dm0050_04.main.body with | _ :: _ :: _ :: d :: _ => d | _ => .Pass default
def dBody : List Stmt := match dDef with | .FunctionDef _ _ b .. => b | _ => []
def dScope : Scope := match dDef with | .FunctionDef _ _ _ _ _ _ sc .. => sc | _ => default
def dParams : Arguments := match dDef with | .FunctionDef _ a .. => a | _ => default
abbrev dEnv (C f : Addr) (cd : Value) : Env := envOf "_law_delta" dScope C f cd
def dAt (k : Nat) : Stmt := (dBody[k]?).getD (.Pass default)
theorem dBody_eq : dBody = [dAt 0, dAt 1, dAt 2, dAt 3, dAt 4, dAt 5, dAt 6, dAt 7, dAt 8, dAt 9] := rfl

abbrev g1 (o n : Addr) (h : Int) : List (Str × VP) := [(("old" : Str), vE (.ref o)), (("new" : Str), vE (.ref n)), (("head" : Str), vI h)]
abbrev g2 (o n : Addr) (h t : Int) : List (Str × VP) := [(("old" : Str), vE (.ref o)), (("new" : Str), vE (.ref n)), (("head" : Str), vI h), (("tail" : Str), vI t)]
abbrev g3 (o n : Addr) (h t : Int) (rw : Addr) : List (Str × VP) := [(("old" : Str), vE (.ref o)), (("new" : Str), vE (.ref n)), (("head" : Str), vI h), (("tail" : Str), vI t), (("rows" : Str), vE (.ref rw))]

section
variable {prog : Program} {w : World} {A : Around} {E : Value → Shared → Prop} {b s : Shared} {X : Ledger} {G : GLedger} {mg mb : Str → Option Value} {names : List Str} {env : Env}

/-- y = [f(x) for x in texts] -/
theorem r_asgCompS {elt iter : Expr} {x y : Str} {px py pos spos : Pos} {scope : Scope} {Q : Flow → Shared → Prop} (fS : Str → Str) (hA : Ar A 0)
    (hiter : wpAny (model prog w) A (eval iter env) (fun v s₁ => ∃ l ys L' G', v = .ref l ∧ St b s₁ ((l, lstS ys) :: L') G' ∧ ys.length ≤ sizeLine ∧
      (∀ y ∈ ys, ∀ (C : Addr) (L : Ledger) (G : GLedger) (u : Value) (s : Shared) (R : Value → Shared → Prop), vS y u → St b s ((C, frC [(x, vE u)]) :: L) G → (∀ t s', St b s' ((C, frC [(x, vE u)]) :: L) G → R (.str (fS y) t) s') → wpAny (model prog w) A (eval elt (compEnvC scope [] C env)) R NoE s) ∧
      ∀ D C s', St b s' ((C, frC []) :: (D, lstS (ys.map fS)) :: L') G' → wpAny (model prog w) A (assign (.Name y py) env (.ref D)) (fun _ s'' => ∃ L G, St b s'' ((C, frC []) :: L) G ∧ ∀ s₃, St b s₃ L G → Q .next s₃) E s') NoE s)
    (hsw : swapsWith (.ListComp elt [⟨.Name x px, iter, [], 0⟩] scope pos) (some (.Name y py)) spos.line env = pure true := by kernel_rfl)
    (hclos : closureFor scope env = pure [] := by kernel_rfl) (hkind : scope.kind = .function := by kernel_rfl) (hnames : ∀ y ∈ scope.names, y.2 = .local → scope.names.lookup y.1 = some .local := by decide)
    (hcell : ∀ y ∈ scope.names, y.2 ≠ .cell := by decide) (hx : scope.names.lookup x = some .local := by kernel_rfl) (hs : ∀ v, foldedSetIterable iter env v = pure v := by intro _; kernel_rfl) :
    wpAny (model prog w) A (exec (.Assign [.Name y py] (.ListComp elt [⟨.Name x px, iter, [], 0⟩] scope pos) spos) env) Q E s := by
  refine r_asgComp (b := b) (cl := []) (wpAny_mono hiter (fun v s₁ h₁ => ?_) fun _ _ x => x) hsw hclos hkind hnames hcell hx hs
  obtain ⟨l, ys, L', G', rfl, S₁, hz, helt, hQ⟩ := h₁
  refine ⟨[(l, lstS ys)], 0, ys.map vS, [], [(l, lstS ys)], L', [], G', fun pre acc F => ∃ zs, pre = zs.map vS ∧ StrsAre acc (zs.map fS) ∧ F = [(l, lstS ys)], givesI_list (hasL_S (.head _)), hA, S₁, ⟨[], rfl, .nil, rfl⟩, ?_, ?_, by rw [List.length_map]; exact hz, ?_, ?_⟩
  · rintro _ _ _ ⟨_, _, _, rfl⟩ p hp
    rw [List.mem_singleton] at hp
    subst hp
    exact .head _
  · rintro _ _ _ ⟨zs, rfl, h, _⟩
    rw [strsAre_len h, List.length_map, List.length_map]
    exact Nat.le_refl _
  · rintro pre P r u acc F C D L₂ G₂ s e hu ⟨zs, rfl, hacc, rfl⟩ S
    refine wpAny_pure ?_
    rw [if_pos rfl]
    obtain ⟨y, rs, hy, hPy⟩ := next_vS e
    subst hPy
    refine helt y (by rw [hy]; simp) C _ _ u s _ hu S fun t s' S' => ?_
    exact ⟨_, ⟨zs ++ [y], by simp, by rw [List.map_append]; exact hacc.append' (.cons _ t .nil), rfl⟩, S'⟩
  · rintro acc F C D s' ⟨zs, e, hacc, rfl⟩ S
    obtain rfl := map_vS_inj e
    refine comp_endU (b := b) (hQ D C s' ?_)
    refine (S.less (P' := lstS (ys.map fS)) (.tail _ (.head _)) (.tail .head) ?_).sub ?_
    · rintro o ⟨n, rfl⟩
      exact ⟨_, n, rfl, by simpa using hacc⟩
    · exact .cons_cons _ (.cons_cons _ (List.sublist_cons_self _ _))

theorem min_nat {a c : Nat} : min (a : Int) (c : Int) = ((min a c : Nat) : Int) := by omega

theorem w_head {C f : Addr} {cd : Value} {o n : Addr} {old new : List Str} {Q : Flow → Shared → Prop} (B : Bs b mg mb names) (hlen : ("len" : Str) ∉ names) (hmin : ("min" : Str) ∉ names) (hh : A.handled = none)
    (ho : (o, lstS old) ∈ X) (hn : (n, lstS new) ∈ X) (hzo : old.length ≤ sizeLine) (hzn : new.length ≤ sizeLine)
    (S : St b s ((C, frC (g1 o n 0)) :: X) G)
    (h : ∀ (k : Nat) s', k ≤ old.length → k ≤ new.length → old.take k = new.take k → St b s' ((C, frC (g1 o n k)) :: X) G → Q .next s') :
    wpAny (model prog w) A (exec (dAt 1) (dEnv C f cd)) Q NoE s := by
  conv in dAt 1 => whnf
  have hb : sizeLine < 2 ^ 63 := by decide
  refine r_while (fun m s => ∃ k : Nat, m = old.length - k ∧ k ≤ old.length ∧ k ≤ new.length ∧ old.take k = new.take k ∧ St b s ((C, frC (g1 o n k)) :: X) G) _ ⟨0, rfl, Nat.zero_le _, Nat.zero_le _, rfl, S⟩ ?_
  rintro m s ⟨k, hm, h1, h2, heq, S⟩
  refine wpAny_isTrue_BoolOp ?_
  refine wpAny_allTrue_And_cons ?_
  refine wpAny_isTrue_Compare1 ?_ (by kernel_rfl)
  refine r_nameI S (by walk_at "mem") (by walk_at "mn") fun t₁ => ?_
  refine r_callB2 (id := "min") B S (by decide +kernel) ?_ (hfree := hmin)
  refine r_callB1 (id := "len") B S (by decide +kernel) ?_ (hfree := hlen)
  refine r_nameE S (by walk_at "mem") (by walk_at "mn") ?_
  refine r_lenS S (.tail _ ho) hzo fun t₂ s₁ S₁ => ?_
  refine r_callB1 (id := "len") B S₁ (by decide +kernel) ?_ (hfree := hlen)
  refine r_nameE S₁ (by walk_at "mem") (by walk_at "mn") ?_
  refine r_lenS S₁ (.tail _ hn) hzn fun t₃ s₂ S₂ => ?_
  refine r_min2 hh S₂ fun t₄ s₃ S₃ => ?_
  refine r_lt ?_
  refine wpAny_truthy_bool ?_
  rw [min_nat, lt_natB]
  by_cases hlt : k < min old.length new.length
  · rw [if_pos (by simpa using hlt)]
    obtain ⟨x, hx⟩ : ∃ x, old[k]? = some x := ⟨_, List.getElem?_eq_getElem (by omega)⟩
    obtain ⟨y, hy⟩ : ∃ y, new[k]? = some y := ⟨_, List.getElem?_eq_getElem (by omega)⟩
    refine wpAny_allTrue_And_cons ?_
    refine wpAny_isTrue_Compare1 ?_ (by kernel_rfl)
    refine Subscript_ ?_
    refine r_nameE S₃ (by walk_at "mem") (by walk_at "mn") ?_
    refine r_nameI S₃ (by walk_at "mem") (by walk_at "mn") fun t₅ => ?_
    refine r_itemS S₃ (.tail _ ho) (by omega) (by omega) (by simpa using hx) fun t₆ => ?_
    refine Subscript_ ?_
    refine r_nameE S₃ (by walk_at "mem") (by walk_at "mn") ?_
    refine r_nameI S₃ (by walk_at "mem") (by walk_at "mn") fun t₇ => ?_
    refine r_itemS S₃ (.tail _ hn) (by omega) (by omega) (by simpa using hy) fun t₈ => ?_
    refine r_eqS ?_
    refine wpAny_truthy_bool ?_
    by_cases hxy : x = y
    · rw [if_pos (by simpa using hxy)]
      refine wpAny_allTrue_And_nil ?_
      rw [if_pos rfl]
      refine r_seq ?_
      refine wpAny_AugAssign_Name ?_
      refine r_load S₃ (by walk_at "mem") (by walk_at "mn") fun v hv => ?_
      obtain ⟨t₉, rfl⟩ := hv
      refine r_int S₃ fun t₁₀ s₄ S₄ => ?_
      refine r_iadd S₄ fun t₁₁ s₅ S₅ => ?_
      refine r_store (P := vI ((k : Int) + 1)) S₅ (by walk_at "mem") ⟨_, rfl⟩ (by walk_at "set") (by walk_at "upd") fun s₆ S₆ => ?_
      refine then_next ?_
      refine wpAny_execs_nil ?_
      refine turn_next ?_
      refine ⟨_, by omega, k + 1, rfl, by omega, by omega, ?_, S₆⟩
      rw [List.take_add_one, List.take_add_one, heq, hx, hy, hxy]
    · rw [if_neg (by simpa using hxy)]
      exact h k _ h1 h2 heq S₃
  · rw [if_neg (by simpa using hlt)]
    exact h k _ h1 h2 heq S₃

theorem drop_back {l : List Str} {t : Nat} {x : Str} (h : t < l.length) (hx : l[l.length - 1 - t]? = some x) : l.drop (l.length - (t + 1)) = x :: l.drop (l.length - t) := by
  have e : l.length - (t + 1) = l.length - 1 - t := by omega
  rw [e, List.drop_eq_getElem_cons (by omega)]
  rw [List.getElem?_eq_getElem (by omega)] at hx
  injection hx with hx
  rw [hx, show l.length - 1 - t + 1 = l.length - t by omega]

theorem w_tail {C f : Addr} {cd : Value} {o n : Addr} {old new : List Str} {k : Nat} {Q : Flow → Shared → Prop} (B : Bs b mg mb names) (hlen : ("len" : Str) ∉ names) (hmin : ("min" : Str) ∉ names) (hh : A.handled = none)
    (ho : (o, lstS old) ∈ X) (hn : (n, lstS new) ∈ X) (hzo : old.length ≤ sizeLine) (hzn : new.length ≤ sizeLine) (hko : k ≤ old.length) (hkn : k ≤ new.length)
    (S : St b s ((C, frC (g2 o n k 0)) :: X) G)
    (h : ∀ (t : Nat) s', k + t ≤ old.length → k + t ≤ new.length → old.drop (old.length - t) = new.drop (new.length - t) → St b s' ((C, frC (g2 o n k t)) :: X) G → Q .next s') :
    wpAny (model prog w) A (exec (dAt 3) (dEnv C f cd)) Q NoE s := by
  conv in dAt 3 => whnf
  have hb : sizeLine < 2 ^ 63 := by decide
  refine r_while (fun m s => ∃ t : Nat, m = old.length - t ∧ k + t ≤ old.length ∧ k + t ≤ new.length ∧ old.drop (old.length - t) = new.drop (new.length - t) ∧ St b s ((C, frC (g2 o n k t)) :: X) G) _ ⟨0, rfl, hko, hkn, by simp, S⟩ ?_
  rintro m s ⟨t, hm, h1, h2, heq, S⟩
  refine wpAny_isTrue_BoolOp ?_
  refine wpAny_allTrue_And_cons ?_
  refine wpAny_isTrue_Compare1 ?_ (by kernel_rfl)
  refine r_nameI S (by walk_at "mem") (by walk_at "mn") fun t₁ => ?_
  refine wpAny_BinOp ?_
  refine r_callB2 (id := "min") B S (by decide +kernel) ?_ (hfree := hmin)
  refine r_callB1 (id := "len") B S (by decide +kernel) ?_ (hfree := hlen)
  refine r_nameE S (by walk_at "mem") (by walk_at "mn") ?_
  refine r_lenS S (.tail _ ho) hzo fun t₂ s₁ S₁ => ?_
  refine r_callB1 (id := "len") B S₁ (by decide +kernel) ?_ (hfree := hlen)
  refine r_nameE S₁ (by walk_at "mem") (by walk_at "mn") ?_
  refine r_lenS S₁ (.tail _ hn) hzn fun t₃ s₂ S₂ => ?_
  refine r_min2 hh S₂ fun t₄ s₃ S₃ => ?_
  refine r_nameI S₃ (by walk_at "mem") (by walk_at "mn") fun t₅ => ?_
  refine r_sub S₃ fun t₆ s₄ S₄ => ?_
  refine r_lt ?_
  refine wpAny_truthy_bool ?_
  by_cases hlt : (t : Int) < min (old.length : Int) (new.length : Int) - (k : Int)
  · rw [if_pos (by simpa using hlt)]
    have hlo : t < old.length := by omega
    have hln : t < new.length := by omega
    obtain ⟨x, hx⟩ : ∃ x, old[old.length - 1 - t]? = some x := ⟨_, List.getElem?_eq_getElem (by omega)⟩
    obtain ⟨y, hy⟩ : ∃ y, new[new.length - 1 - t]? = some y := ⟨_, List.getElem?_eq_getElem (by omega)⟩
    refine wpAny_allTrue_And_cons ?_
    refine wpAny_isTrue_Compare1 ?_ (by kernel_rfl)
    refine Subscript_ ?_
    refine r_nameE S₄ (by walk_at "mem") (by walk_at "mn") ?_
    refine wpAny_BinOp ?_
    refine wpAny_BinOp ?_
    refine r_callB1 (id := "len") B S₄ (by decide +kernel) ?_ (hfree := hlen)
    refine r_nameE S₄ (by walk_at "mem") (by walk_at "mn") ?_
    refine r_lenS S₄ (.tail _ ho) hzo fun t₇ s₅ S₅ => ?_
    refine r_int S₅ fun t₈ s₆ S₆ => ?_
    refine r_sub S₆ fun t₉ s₇ S₇ => ?_
    refine r_nameI S₇ (by walk_at "mem") (by walk_at "mn") fun t₁₀ => ?_
    refine r_sub S₇ fun t₁₁ s₈ S₈ => ?_
    refine r_itemS S₈ (.tail _ ho) (by omega) (by omega) (by rw [show ((old.length : Int) - 1 - (t : Int)).toNat = old.length - 1 - t by omega]; exact hx) fun t₁₂ => ?_
    refine Subscript_ ?_
    refine r_nameE S₈ (by walk_at "mem") (by walk_at "mn") ?_
    refine wpAny_BinOp ?_
    refine wpAny_BinOp ?_
    refine r_callB1 (id := "len") B S₈ (by decide +kernel) ?_ (hfree := hlen)
    refine r_nameE S₈ (by walk_at "mem") (by walk_at "mn") ?_
    refine r_lenS S₈ (.tail _ hn) hzn fun t₁₃ s₉ S₉ => ?_
    refine r_int S₉ fun t₁₄ s₁₀ S₁₀ => ?_
    refine r_sub S₁₀ fun t₁₅ s₁₁ S₁₁ => ?_
    refine r_nameI S₁₁ (by walk_at "mem") (by walk_at "mn") fun t₁₆ => ?_
    refine r_sub S₁₁ fun t₁₇ s₁₂ S₁₂ => ?_
    refine r_itemS S₁₂ (.tail _ hn) (by omega) (by omega) (by rw [show ((new.length : Int) - 1 - (t : Int)).toNat = new.length - 1 - t by omega]; exact hy) fun t₁₈ => ?_
    refine r_eqS ?_
    refine wpAny_truthy_bool ?_
    by_cases hxy : x = y
    · rw [if_pos (by simpa using hxy)]
      refine wpAny_allTrue_And_nil ?_
      rw [if_pos rfl]
      refine r_seq ?_
      refine wpAny_AugAssign_Name ?_
      refine r_load S₁₂ (by walk_at "mem") (by walk_at "mn") fun v hv => ?_
      obtain ⟨t₁₉, rfl⟩ := hv
      refine r_int S₁₂ fun t₂₀ s₁₃ S₁₃ => ?_
      refine r_iadd S₁₃ fun t₂₁ s₁₄ S₁₄ => ?_
      refine r_store (P := vI ((t : Int) + 1)) S₁₄ (by walk_at "mem") ⟨_, rfl⟩ (by walk_at "set") (by walk_at "upd") fun s₁₅ S₁₅ => ?_
      refine then_next ?_
      refine wpAny_execs_nil ?_
      refine turn_next ?_
      refine ⟨_, by omega, t + 1, rfl, by omega, by omega, ?_, S₁₅⟩
      rw [drop_back hlo hx, drop_back hln hy, heq, hxy]
    · rw [if_neg (by simpa using hxy)]
      exact h t _ h1 h2 heq S₁₂
  · rw [if_neg (by simpa using hlt)]
    exact h t _ h1 h2 heq S₄
end
end Mine

-- part D4b
open PySem PySem.W PySem.W.X PyProof.Rows PySem.Calls PySem.Spec PySem.SeqAt
set_option Elab.async false
set_option maxRecDepth 100000
set_option maxHeartbeats 400000
set_option linter.all false
namespace Mine

local macro_rules | `(tactic| walk_at "mem") => `(tactic| first | assumption | exact List.Mem.head _ | (refine List.Mem.tail _ ?_; walk_at "mem") | (refine List.mem_append_right _ ?_; walk_at "mem"))
local macro_rules | `(tactic| walk_at "mn") => `(tactic| first | with_reducible exact List.mem_cons_self | ((with_reducible refine List.mem_cons_of_mem _ ?_); walk_at "mn"))
local macro_rules | `(tactic| walk_at "upd") => `(tactic| first | exact Upd.head | ((with_reducible apply Upd.tail); walk_at "upd"))
local macro_rules | `(tactic| walk_at "set") => `(tactic| first | with_reducible exact SetN.nil | ((with_reducible refine SetN.hit ?_); kernel_rfl) | ((with_reducible apply SetN.skip); kernel_rfl; walk_at "set"))

section
variable {prog : Program} {w : World} {A : Around} {E : Value → Shared → Prop} {b s : Shared} {X : Ledger} {G : GLedger} {mg mb : Str → Option Value} {names : List Str} {env : Env}

theorem len2 : ("  " : Str).length = 2 ∧ ("- " : Str).length = 2 ∧ ("+ " : Str).length = 2 := by decide +kernel

theorem w_rows {C f : Addr} {cd : Value} {o n : Addr} {old new : List Str} {k t : Nat} {Q : Flow → Shared → Prop} (B : Bs b mg mb names) (hlen : ("len" : Str) ∉ names) (hA : Ar A 0)
    (ho : (o, lstS old) ∈ X) (hn : (n, lstS new) ∈ X) (hz : old.length + new.length + 5 ≤ sizeLine) (hzo : ∀ y ∈ old, y.length + 2 ≤ sizeLine) (hzn : ∀ y ∈ new, y.length + 2 ≤ sizeLine) (hco : k + t ≤ old.length) (hcn : k + t ≤ new.length)
    (S : St b s ((C, frC (g2 o n k t)) :: X) G)
    (h : ∀ a s', St b s' ((a, lstS (delta4 old new k t)) :: X) G → Q (.ret (.ref a)) s') :
    wpAny (model prog w) A (execs [dAt 4, dAt 5, dAt 6, dAt 7, dAt 8, dAt 9] (dEnv C f cd)) Q NoE s := by
  have hb : sizeLine < 2 ^ 63 := by decide
  obtain ⟨l1, l2, l3⟩ := len2
  refine r_seq ?_
  conv in dAt 4 => whnf
  refine r_asgCompS (b := b) (fun y => ("  " : Str) ++ y) hA ?_
  refine r_slcS (b := b) ?_
  refine r_nameE S (by walk_at "mem") (by walk_at "mn") ?_
  refine ⟨_, rfl, ?_⟩
  refine wpAny_evalPart_none ?_
  refine wpAny_evalPart_some ?_
  refine r_nameI S (by walk_at "mem") (by walk_at "mn") fun t₁ => ?_
  refine ⟨_, _, _, _, _, .none, .int _ _, S, .tail _ ho, by omega, fun a s₁ S₁ => ?_⟩
  rw [pick_to] at S₁
  refine ⟨_, _, _, _, rfl, S₁, by rw [List.length_take]; omega, fun y hy C L G u s R hu S hR => ?_, fun D C' s₂ S₂ => ?_⟩
  · have h1 := hzo y (List.mem_of_mem_take hy)
    exact w_headed (by omega) rfl (by kernel_rfl) (by kernel_rfl) hu S hR
  refine wpAny_assign_Name ?_
  refine r_store (P := vE (.ref D)) S₂ (by walk_at "mem") rfl (by walk_at "set") (by walk_at "upd") fun s₃ S₃ => ?_
  refine ⟨_, _, S₃, fun s₄ S₄ => ?_⟩
  refine then_next ?_
  -- the rows of old alone
  refine r_seq ?_
  conv in dAt 5 => whnf
  refine r_stmtE ?_
  refine r_methS (b := b) F.slot_list_extend F.type_list_extend ?_
  refine r_nameE S₄ (by walk_at "mem") (by walk_at "mn") ?_
  refine ⟨_, _, _, _, rfl, S₄, .head _, ?_⟩
  refine r_extS (b := b) (ys := spL (old.take k)) ?_
  refine r_compS (b := b) (fun y => ("- " : Str) ++ y) hA ?_
  refine r_slcS (b := b) ?_
  refine r_nameE S₄ (by walk_at "mem") (by walk_at "mn") ?_
  refine ⟨_, rfl, ?_⟩
  refine wpAny_evalPart_some ?_
  refine r_nameI S₄ (by walk_at "mem") (by walk_at "mn") fun t₂ => ?_
  refine wpAny_evalPart_some ?_
  refine wpAny_BinOp ?_
  refine r_callB1 (id := "len") B S₄ (by decide +kernel) ?_ (hfree := hlen)
  refine r_nameE S₄ (by walk_at "mem") (by walk_at "mn") ?_
  refine r_lenS S₄ (.tail _ (.tail _ ho)) (by omega) fun t₃ s₅ S₅ => ?_
  refine r_nameI S₅ (by walk_at "mem") (by walk_at "mn") fun t₄ => ?_
  refine r_sub S₅ fun t₅ s₆ S₆ => ?_
  rw [show (old.length : Int) - (t : Int) = ((old.length - t : Nat) : Int) by omega]
  refine ⟨_, _, _, _, _, .int _ _, .int _ _, S₆, .tail _ (.tail _ ho), by omega, fun a s₇ S₇ => ?_⟩
  rw [pick_nat] at S₇
  have e1 : ((old.drop k).take (old.length - t - k)).length = old.length - t - k := by rw [List.length_take, List.length_drop]; omega
  refine ⟨_, _, _, _, rfl, S₇, by omega, fun y hy C L G u s R hu S hR => ?_, fun D' s₈ S₈ => ?_⟩
  · have h1 := hzo y (List.mem_of_mem_drop (List.mem_of_mem_take hy))
    exact w_headed (by omega) rfl (by kernel_rfl) (by kernel_rfl) hu S hR
  refine ⟨D', _, _, _, _, rfl, S₈, by walk_at "mem", by walk_at "mem", by walk_at "upd", by rw [List.length_map, List.length_map, e1, List.length_take]; omega, fun s₉ S₉ => ⟨rfl, ?_⟩⟩
  replace S₉ := S₉.sub (List.sublist_cons_self _ _)
  refine then_next ?_
  -- odd rows
  refine r_seq ?_
  conv in dAt 6 => whnf
  refine r_stmtE ?_
  refine r_methS (b := b) F.slot_list_extend F.type_list_extend ?_
  refine r_nameE S₉ (by walk_at "mem") (by walk_at "mn") ?_
  refine ⟨_, _, _, _, rfl, S₉, .head _, ?_⟩
  refine r_extS (b := b) (ys := spL (old.take k) ++ miL ((old.drop k).take (old.length - t - k))) ?_
  refine r_listS junkL S₉ fun q s₁₀ S₁₀ => ?_
  have e0 : (spL (old.take k)).length = k := by rw [List.length_map, List.length_take]; omega
  have e2 : (miL ((old.drop k).take (old.length - t - k))).length = old.length - t - k := by rw [List.length_map, e1]
  refine ⟨q, _, _, _, _, rfl, S₁₀, by walk_at "mem", by walk_at "mem", by walk_at "upd", by rw [List.length_append, e0, e2]; show _ + 5 ≤ _; omega, fun s₁₁ S₁₁ => ⟨rfl, ?_⟩⟩
  replace S₁₁ := S₁₁.sub (List.sublist_cons_self _ _)
  refine then_next ?_
  -- the rows of new alone
  refine r_seq ?_
  conv in dAt 7 => whnf
  refine r_stmtE ?_
  refine r_methS (b := b) F.slot_list_extend F.type_list_extend ?_
  refine r_nameE S₁₁ (by walk_at "mem") (by walk_at "mn") ?_
  refine ⟨_, _, _, _, rfl, S₁₁, .head _, ?_⟩
  refine r_extS (b := b) (ys := spL (old.take k) ++ miL ((old.drop k).take (old.length - t - k)) ++ junkL) ?_
  refine r_compS (b := b) (fun y => ("+ " : Str) ++ y) hA ?_
  refine r_slcS (b := b) ?_
  refine r_nameE S₁₁ (by walk_at "mem") (by walk_at "mn") ?_
  refine ⟨_, rfl, ?_⟩
  refine wpAny_evalPart_some ?_
  refine r_nameI S₁₁ (by walk_at "mem") (by walk_at "mn") fun t₆ => ?_
  refine wpAny_evalPart_some ?_
  refine wpAny_BinOp ?_
  refine r_callB1 (id := "len") B S₁₁ (by decide +kernel) ?_ (hfree := hlen)
  refine r_nameE S₁₁ (by walk_at "mem") (by walk_at "mn") ?_
  refine r_lenS S₁₁ (.tail _ (.tail _ hn)) (by omega) fun t₇ s₁₂ S₁₂ => ?_
  refine r_nameI S₁₂ (by walk_at "mem") (by walk_at "mn") fun t₈ => ?_
  refine r_sub S₁₂ fun t₉ s₁₃ S₁₃ => ?_
  rw [show (new.length : Int) - (t : Int) = ((new.length - t : Nat) : Int) by omega]
  refine ⟨_, _, _, _, _, .int _ _, .int _ _, S₁₃, .tail _ (.tail _ hn), by omega, fun a s₁₄ S₁₄ => ?_⟩
  rw [pick_nat] at S₁₄
  have e3 : ((new.drop k).take (new.length - t - k)).length = new.length - t - k := by rw [List.length_take, List.length_drop]; omega
  refine ⟨_, _, _, _, rfl, S₁₄, by omega, fun y hy C L G u s R hu S hR => ?_, fun D' s₁₅ S₁₅ => ?_⟩
  · have h1 := hzn y (List.mem_of_mem_drop (List.mem_of_mem_take hy))
    exact w_headed (by omega) rfl (by kernel_rfl) (by kernel_rfl) hu S hR
  refine ⟨D', _, _, _, _, rfl, S₁₅, by walk_at "mem", by walk_at "mem", by walk_at "upd", by rw [List.length_append, List.length_append, e0, e2, List.length_map, e3]; show k + _ + 5 + _ ≤ _; omega, fun s₁₆ S₁₆ => ⟨rfl, ?_⟩⟩
  replace S₁₆ := S₁₆.sub (List.sublist_cons_self _ _)
  refine then_next ?_
  -- the common tail
  refine r_seq ?_
  conv in dAt 8 => whnf
  refine r_stmtE ?_
  refine r_methS (b := b) F.slot_list_extend F.type_list_extend ?_
  refine r_nameE S₁₆ (by walk_at "mem") (by walk_at "mn") ?_
  refine ⟨_, _, _, _, rfl, S₁₆, .head _, ?_⟩
  refine r_extS (b := b) (ys := spL (old.take k) ++ miL ((old.drop k).take (old.length - t - k)) ++ junkL ++ plL ((new.drop k).take (new.length - t - k))) ?_
  refine r_compS (b := b) (fun y => ("  " : Str) ++ y) hA ?_
  refine r_slcS (b := b) ?_
  refine r_nameE S₁₆ (by walk_at "mem") (by walk_at "mn") ?_
  refine ⟨_, rfl, ?_⟩
  refine wpAny_evalPart_some ?_
  refine wpAny_BinOp ?_
  refine r_callB1 (id := "len") B S₁₆ (by decide +kernel) ?_ (hfree := hlen)
  refine r_nameE S₁₆ (by walk_at "mem") (by walk_at "mn") ?_
  refine r_lenS S₁₆ (.tail _ (.tail _ hn)) (by omega) fun t₁₀ s₁₇ S₁₇ => ?_
  refine r_nameI S₁₇ (by walk_at "mem") (by walk_at "mn") fun t₁₁ => ?_
  refine r_sub S₁₇ fun t₁₂ s₁₈ S₁₈ => ?_
  rw [show (new.length : Int) - (t : Int) = ((new.length - t : Nat) : Int) by omega]
  refine wpAny_evalPart_none ?_
  refine ⟨_, _, _, _, _, .int _ _, .none, S₁₈, .tail _ (.tail _ hn), by omega, fun a s₁₉ S₁₉ => ?_⟩
  rw [pick_from] at S₁₉
  have e4 : (new.drop (new.length - t)).length = t := by rw [List.length_drop]; omega
  have e5 : (plL ((new.drop k).take (new.length - t - k))).length = new.length - t - k := by rw [List.length_map, e3]
  refine ⟨_, _, _, _, rfl, S₁₉, by omega, fun y hy C L G u s R hu S hR => ?_, fun D' s₂₀ S₂₀ => ?_⟩
  · have h1 := hzn y (List.mem_of_mem_drop hy)
    exact w_headed (by omega) rfl (by kernel_rfl) (by kernel_rfl) hu S hR
  refine ⟨D', _, _, _, _, rfl, S₂₀, by walk_at "mem", by walk_at "mem", by walk_at "upd", by rw [List.length_append, List.length_append, List.length_append, e0, e2, e5, List.length_map, e4]; show k + _ + 5 + _ + _ ≤ _; omega, fun s₂₁ S₂₁ => ⟨rfl, ?_⟩⟩
  replace S₂₁ := S₂₁.sub (List.sublist_cons_self _ _)
  refine then_next ?_
  refine r_seq ?_
  conv in dAt 9 => whnf
  refine wpAny_Return_some ?_
  refine r_nameE S₂₁ (by walk_at "mem") (by walk_at "mn") ?_
  refine then_ret ?_
  refine h D _ (S₂₁.sub ?_)
  exact .cons_cons _ (List.sublist_cons_self _ _)

/-- what a call of _law_delta gives -/
theorem r_delta {Q : Value → Shared → Prop} {f : Addr} {cd : Value} {o n : Addr} {old new : List Str} (B : Bs b mg mb names) (hlen : ("len" : Str) ∉ names) (hmin : ("min" : Str) ∉ names) (F : FnAt b mg f "_law_delta" dParams dBody dScope cd) (hA : Ar A 1)
    (ho : (o, lstS old) ∈ X) (hn : (n, lstS new) ∈ X) (hz : old.length + new.length + 5 ≤ sizeLine) (hzo : ∀ y ∈ old, y.length + 2 ≤ sizeLine) (hzn : ∀ y ∈ new, y.length + 2 ≤ sizeLine)
    (S : St b s X G) (h : ∀ a s' k t, Common old new k t → St b s' ((a, lstS (delta4 old new k t)) :: X) G → Q (.ref a) s') :
    wpAny (model prog w) A (call (.ref f) [.ref o, .ref n]) Q E s := by
  refine r_callDef [(("old" : Str), .ref o), (("new" : Str), .ref n)] B F S (by have := hA.2; omega) (fun pm doc => rfl) (locs rfl) (by intro p hp; simp only [List.mem_cons, List.not_mem_nil, or_false] at hp; rcases hp with rfl | rfl <;> rfl) (fun C s' S' => ?_) rfl rfl rfl (by decide)
  have hA' : Ar (A.deeper (dEnv C f cd)) 0 := hA.deeper
  show wpAny _ (A.deeper (dEnv C f cd)) (execs dBody (dEnv C f cd)) _ _ _
  generalize A.deeper (dEnv C f cd) = A' at hA' ⊢
  rw [dBody_eq]
  refine r_seq ?_
  conv in dAt 0 => whnf
  refine wpAny_Assign_Name ?_ (by kernel_rfl)
  refine r_int S' fun t s₅ S₅ => ?_
  refine r_store (fl := [(("old" : Str), vE (.ref o)), (("new" : Str), vE (.ref n))]) (P := vI 0) S₅ (.head _) ⟨t, rfl⟩ (by walk_at "set") (by walk_at "upd") fun s₆ S₆ => ?_
  refine then_next ?_
  refine r_seq ?_
  refine w_head B hlen hmin hA'.1 ho hn (by omega) (by omega) S₆ fun k s₇ h1 h2 heq S₇ => ?_
  refine then_next ?_
  refine r_seq ?_
  conv in dAt 2 => whnf
  refine wpAny_Assign_Name ?_ (by kernel_rfl)
  refine r_int S₇ fun t s₈ S₈ => ?_
  refine r_store (P := vI 0) S₈ (by walk_at "mem") ⟨t, rfl⟩ (by walk_at "set") (by walk_at "upd") fun s₉ S₉ => ?_
  refine then_next ?_
  refine r_seq ?_
  refine w_tail B hlen hmin hA'.1 ho hn (by omega) (by omega) h1 h2 S₉ fun t s₁₀ h3 h4 heq2 S₁₀ => ?_
  refine then_next ?_
  exact w_rows B hlen hA' ho hn hz hzo hzn h3 h4 S₁₀ fun a s'' S'' => h a s'' k t ⟨h3, h4, heq, heq2⟩ S''
end
end Mine

-- part F4
open PySem PySem.W PySem.W.X PyProof.Rows PySem.Calls PySem.Spec PySem.SeqAt
set_option Elab.async false
set_option maxRecDepth 100000
set_option maxHeartbeats 400000
set_option linter.all false
namespace Mine

local macro_rules | `(tactic| walk_at "mem") => `(tactic| first | assumption | exact List.Mem.head _ | (refine List.Mem.tail _ ?_; walk_at "mem") | (refine List.mem_append_right _ ?_; walk_at "mem"))
local macro_rules | `(tactic| walk_at "mn") => `(tactic| first | with_reducible exact List.mem_cons_self | ((with_reducible refine List.mem_cons_of_mem _ ?_); walk_at "mn"))
local macro_rules | `(tactic| walk_at "upd") => `(tactic| first | exact Upd.head | ((with_reducible apply Upd.tail); walk_at "upd"))
local macro_rules | `(tactic| walk_at "set") => `(tactic| first | with_reducible exact SetN.nil | ((with_reducible refine SetN.hit ?_); kernel_rfl) | ((with_reducible apply SetN.skip); kernel_rfl; walk_at "set"))

def fDef : Stmt := match PySem.Challenge.pw_dm0050_04.main.body with | _ :: _ :: _ :: _ :: d :: _ => d | _ => .Pass default
def fBody : List Stmt := match fDef with | .FunctionDef _ _ b .. => b | _ => []
def fScope : Scope := match fDef with | .FunctionDef _ _ _ _ _ _ sc .. => sc | _ => default
def fParams : Arguments := match fDef with | .FunctionDef _ a .. => a | _ => default
abbrev fEnv (C f : Addr) (cd : Value) : Env := envOf "_law_fold" fScope C f cd
def fAt (k : Nat) : Stmt := (fBody[k]?).getD (.Pass default)
theorem fBody_eq : fBody = [fAt 0, fAt 1, fAt 2, fAt 3, fAt 4] := rfl
def fLoop : List Stmt := match fAt 2 with | .For _ _ b _ _ => b | _ => []
def fInc : Stmt := match fAt 2 with | .For _ _ [.If _ _ [_, _, _, a] _] _ _ => a | _ => .Pass default
def fWhile : Stmt := match fAt 2 with | .For _ _ [.If _ _ (w :: _) _] _ _ => w | _ => .Pass default

abbrev h1 (p q rw : Addr) (k : Int) : List (Str × VP) := [(("first" : Str), vE (.ref p)), (("second" : Str), vE (.ref q)), (("rows" : Str), vE (.ref rw)), (("at" : Str), vI k)]
abbrev h2 (p q rw : Addr) (k : Int) (row : Str) : List (Str × VP) := [(("first" : Str), vE (.ref p)), (("second" : Str), vE (.ref q)), (("rows" : Str), vE (.ref rw)), (("at" : Str), vI k), (("row" : Str), vS row)]
theorem h1_sub {p q rw : Addr} {k : Int} {r : List (Str × VP)} {o : Obj} (h : frC (h1 p q rw k ++ r) o) : frC (h1 p q rw k) o := frC_sub (fun q hq => List.mem_append_left _ hq) h
theorem any_keep1 (x : Str) : (([("  " : Str), "- "] : List Str).any (· == Txt.slice x none (some 2))) = keepS (tagOf 1) x := rfl
theorem any_keep2 (x : Str) : (([("  " : Str), "+ "] : List Str).any (· == Txt.slice x none (some 2))) = keepS (tagOf 2) x := rfl
theorem fFar_ge (second : List Str) (k : Nat) : k ≤ fFar second k := Nat.le_add_right _ _
theorem fFar_in {second : List Str} {k j : Nat} (h1 : k ≤ j) (h2 : j < fFar second k) : ∃ y, second[j]? = some y ∧ keepS (tagOf 1) y = false := by
  obtain ⟨y, hy, hp⟩ := takeWhile_in (fun x => !keepS (tagOf 1) x) (second.drop k) (j - k) (by unfold fFar at h2; omega)
  rw [List.getElem?_drop, show k + (j - k) = j by omega] at hy
  exact ⟨y, hy, by simpa using hp⟩

section
variable {prog : Program} {w : World} {A : Around} {E : Value → Shared → Prop} {b s : Shared} {X : Ledger} {G : GLedger} {mg mb : Str → Option Value} {names : List Str} {env : Env}

theorem r_slT {value : Expr} {p pos : Pos} {upper : Expr} {Q : Value → Shared → Prop}
    (h : wpAny (model prog w) A (eval value env) (fun o s₁ => ∃ x t, o = .str x t ∧ x.length ≤ sizeLine ∧ wpAny (model prog w) A (eval upper env) (fun u s₂ => ∃ j tj, u = .int j tj ∧
      ∃ L G, St b s₂ L G ∧ ∀ s' t', St b s' L G → Q (.str (Txt.slice x none (some j)) t') s') E s₁) E s) :
    wpAny (model prog w) A (eval (.Subscript value (.Slice none (some upper) none p) pos) env) Q E s := by
  refine Subscript_ (wpAny_mono h (fun o s₁ h₁ => ?_) fun _ _ x => x)
  obtain ⟨x, t, rfl, hx, h₁⟩ := h₁
  refine wpAny_Slice (wpAny_evalPart_none (wpAny_evalPart_some (wpAny_mono h₁ (fun u s₂ h₂ => ?_) fun _ _ x => x)))
  obtain ⟨j, tj, rfl, L, G, S, hQ⟩ := h₂
  refine wpAny_evalPart_none ?_
  refine tail_any (ops := [_, _]) (typeIs_str _ _ _) F.slot_str_getitem.lookup (wpAny_getItem_str_slice (l := none) (u := some (j, tj)) (st := none) ⟨_, Heap.get?_push_size _ rfl, rfl, rfl⟩ rfl (post_val_or_str ⟨Nat.le_trans (Txt.slice_le x none (some j)) hx, fun t' k => hQ _ t' (S.push _ k)⟩)) rfl

theorem w_skip {C f : Addr} {cd : Value} {p q rw : Addr} {second rows : List Str} {k : Nat} {row : Str} {z : Str} {Q : Flow → Shared → Prop}
    (hq : (q, lstS second) ∈ X) (hlt : fFar second k < second.length) (hzz : second[fFar second k]? = some z) (hkz : keepS (tagOf 1) z = true) (hz : rows.length + second.length + 1 ≤ sizeLine) (hzn : ∀ y ∈ second, y.length + 2 ≤ sizeLine)
    (S : St b s ((C, frC (h2 p q rw k row)) :: (rw, lstS rows) :: X) G)
    (h : ∀ s', St b s' ((C, frC (h2 p q rw (fFar second k) row)) :: (rw, lstS (rows ++ (second.drop k).take (fFar second k - k))) :: X) G → Q .next s') :
    wpAny (model prog w) A (exec fWhile (fEnv C f cd)) Q NoE s := by
  conv in fWhile => whnf
  have hb : sizeLine < 2 ^ 63 := by decide
  refine r_while (fun m s => ∃ j : Nat, m = fFar second k - j ∧ k ≤ j ∧ j ≤ fFar second k ∧ St b s ((C, frC (h2 p q rw j row)) :: (rw, lstS (rows ++ (second.drop k).take (j - k))) :: X) G) _ ⟨k, rfl, Nat.le_refl _, fFar_ge .., by simpa using S⟩ ?_
  rintro m s ⟨j, hm, h1, h2, S⟩
  have hj : ∃ y, second[j]? = some y := ⟨_, List.getElem?_eq_getElem (by omega)⟩
  obtain ⟨y, hy⟩ := hj
  have hyl := hzn y (List.mem_of_getElem? hy)
  refine wpAny_isTrue_Compare1 ?_ (by kernel_rfl)
  refine r_slT (b := b) ?_
  refine Subscript_ ?_
  refine r_nameE S (by walk_at "mem") (by walk_at "mn") ?_
  refine r_nameI S (by walk_at "mem") (by walk_at "mn") fun t₁ => ?_
  refine r_itemS S (.tail _ (.tail _ hq)) (by omega) (by omega) (by simpa using hy) fun t₂ => ?_
  refine ⟨_, _, rfl, by omega, ?_⟩
  refine r_int S fun t₃ s₁ S₁ => ?_
  refine ⟨_, _, rfl, _, _, S₁, fun s₂ t₄ S₂ => ?_⟩
  refine r_listS ["  ", "- "] S₂ fun q' s₃ S₃ => ?_
  refine r_notInS S₃ (.head _) ?_
  refine wpAny_truthy_bool ?_
  rw [any_keep1]
  replace S₃ := S₃.sub (List.sublist_cons_self _ _)
  by_cases hj : j < fFar second k
  · obtain ⟨y', hy', hk⟩ := fFar_in h1 hj
    rw [hy] at hy'
    obtain rfl : y = y' := Option.some.inj hy'
    rw [if_pos (by rw [hk]; rfl)]
    have hlen : ((second.drop k).take (j - k)).length ≤ j - k := by rw [List.length_take]; omega
    refine r_seq ?_
    refine r_stmtE ?_
    refine r_methS (b := b) F.slot_list_append F.type_list_append ?_
    refine r_nameE S₃ (by walk_at "mem") (by walk_at "mn") ?_
    refine ⟨_, _, _, _, rfl, S₃, .tail _ (.head _), ?_⟩
    refine r_appS (b := b) (ys := rows ++ (second.drop k).take (j - k)) ?_
    refine Subscript_ ?_
    refine r_nameE S₃ (by walk_at "mem") (by walk_at "mn") ?_
    refine r_nameI S₃ (by walk_at "mem") (by walk_at "mn") fun t₅ => ?_
    refine r_itemS S₃ (.tail _ (.tail _ hq)) (by omega) (by omega) (by simpa using hy) fun t₆ => ?_
    refine ⟨_, _, _, _, _, rfl, S₃, .tail _ (.head _), .tail .head, by rw [List.length_append]; omega, fun s₄ S₄ => ⟨rfl, ?_⟩⟩
    refine then_next ?_
    refine r_seq ?_
    refine wpAny_AugAssign_Name ?_
    refine r_load S₄ (by walk_at "mem") (by walk_at "mn") fun v hv => ?_
    obtain ⟨t₇, rfl⟩ := hv
    refine r_int S₄ fun t₈ s₅ S₅ => ?_
    refine r_iadd S₅ fun t₉ s₆ S₆ => ?_
    refine r_store (P := vI ((j : Int) + 1)) S₆ (by walk_at "mem") ⟨_, rfl⟩ (by walk_at "set") (by walk_at "upd") fun s₇ S₇ => ?_
    refine then_next ?_
    refine wpAny_execs_nil ?_
    refine turn_next ?_
    refine ⟨_, by omega, j + 1, rfl, by omega, by omega, ?_⟩
    rw [show j + 1 - k = j - k + 1 by omega, List.take_add_one, List.getElem?_drop, show k + (j - k) = j by omega, hy, ← List.append_assoc]
    exact S₇
  · obtain rfl : j = fFar second k := by omega
    rw [hzz] at hy
    obtain rfl : z = y := Option.some.inj hy
    rw [if_neg (by rw [hkz]; decide)]
    exact h _ S₃

theorem w_foldRow {C f : Addr} {cd : Value} {p q rw : Addr} {second rows : List Str} {k : Nat} {row : Str} {Q : Flow → Shared → Prop}
    (hq : (q, lstS second) ∈ X) (hkz : keepS (tagOf 2) row = true → fFar second k < second.length ∧ ∃ z, second[fFar second k]? = some z ∧ keepS (tagOf 1) z = true)
    (hz : rows.length + second.length + 2 ≤ sizeLine) (hzr : row.length + 2 ≤ sizeLine) (hzn : ∀ y ∈ second, y.length + 2 ≤ sizeLine)
    (S : St b s ((C, frC (h2 p q rw k row)) :: (rw, lstS rows) :: X) G)
    (h : ∀ s', St b s' ((C, frC (h1 p q rw (fStep second (rows, k) row).2)) :: (rw, lstS (fStep second (rows, k) row).1) :: X) G → Q .next s') :
    wpAny (model prog w) A (execs fLoop (fEnv C f cd)) Q NoE s := by
  conv in fLoop => whnf
  have hb : sizeLine < 2 ^ 63 := by decide
  have l1 : ("? " : Str).length = 2 := by decide +kernel
  unfold fStep at h
  refine r_seq ?_
  refine wpAny_If ?_
  refine wpAny_isTrue_Compare1 ?_ (by kernel_rfl)
  refine r_slT (b := b) ?_
  refine r_nameS S (by walk_at "mem") (by walk_at "mn") fun t₁ => ?_
  refine ⟨_, _, rfl, by omega, ?_⟩
  refine r_int S fun t₃ s₁ S₁ => ?_
  refine ⟨_, _, rfl, _, _, S₁, fun s₂ t₄ S₂ => ?_⟩
  refine r_listS ["  ", "+ "] S₂ fun q' s₃ S₃ => ?_
  refine r_notInS S₃ (.head _) ?_
  refine wpAny_truthy_bool ?_
  rw [any_keep2]
  replace S₃ := S₃.sub (List.sublist_cons_self _ _)
  by_cases hk : keepS (tagOf 2) row = true
  · rw [if_neg (by rw [hk]; decide)]
    rw [if_neg (by rw [hk]; decide)] at h
    obtain ⟨hlt, z, hz1, hz2⟩ := hkz hk
    have hzd : second.getD (fFar second k) "" = z := by rw [List.getD_eq_getElem?_getD, hz1]; rfl
    rw [hzd] at h
    have hzl := hzn z (List.mem_of_getElem? hz1)
    have hge := fFar_ge second k
    have hlen : ((second.drop k).take (fFar second k - k)).length ≤ fFar second k - k := by rw [List.length_take]; omega
    refine r_seq ?_
    refine w_skip hq hlt hz1 hz2 (by omega) hzn S₃ fun s₄ S₄ => ?_
    refine then_next ?_
    refine r_seq ?_
    refine wpAny_Assign_Name ?_ (by kernel_rfl)
    refine wpAny_Compare1 ?_ (by kernel_rfl)
    refine r_slT (b := b) ?_
    refine Subscript_ ?_
    refine r_nameE S₄ (by walk_at "mem") (by walk_at "mn") ?_
    refine r_nameI S₄ (by walk_at "mem") (by walk_at "mn") fun t₁ => ?_
    refine r_itemS S₄ (.tail _ (.tail _ hq)) (by omega) (by omega) (by simpa using hz1) fun t₂ => ?_
    refine ⟨_, _, rfl, by omega, ?_⟩
    refine r_int S₄ fun t₃ s₅ S₅ => ?_
    refine ⟨_, _, rfl, _, _, S₅, fun s₆ t₄ S₆ => ?_⟩
    refine r_str S₆ fun t₅ s₇ S₇ => ?_
    refine r_eqS ?_
    refine r_store (P := vE (.bool (hd2 z == "  "))) S₇ (by walk_at "mem") rfl (by walk_at "set") (by walk_at "upd") fun s₈ S₈ => ?_
    refine then_next ?_
    refine r_seq ?_
    refine wpAny_If ?_
    refine wpAny_isTrue_Compare1 ?_ (by kernel_rfl)
    refine r_slT (b := b) ?_
    refine r_nameS S₈ (by walk_at "mem") (by walk_at "mn") fun t₆ => ?_
    refine ⟨_, _, rfl, by omega, ?_⟩
    refine r_int S₈ fun t₇ s₉ S₉ => ?_
    refine ⟨_, _, rfl, _, _, S₉, fun s₁₀ t₈ S₁₀ => ?_⟩
    refine r_str S₁₀ fun t₉ s₁₁ S₁₁ => ?_
    refine r_eqS ?_
    refine wpAny_truthy_bool ?_
    have fin : ∀ {s : Shared} {y : Str}, y = fRow row z → St b s ((C, frC (h2 p q rw (fFar second k) row ++ [(("stays" : Str), vE (.bool (hd2 z == "  ")))])) :: (rw, lstS (rows ++ (second.drop k).take (fFar second k - k) ++ [y])) :: X) G →
        wpAny (model prog w) A (execs [fInc] (fEnv C f cd)) (Then prog w A (fEnv C f cd) [] Q NoE) NoE s := by
      rintro s y rfl S
      conv in fInc => whnf
      simp only [List.cons_append, List.nil_append] at S
      refine r_seq ?_
      refine wpAny_AugAssign_Name ?_
      refine r_load S (by walk_at "mem") (by walk_at "mn") fun v hv => ?_
      obtain ⟨t₇, rfl⟩ := hv
      refine r_int S fun t₈ s₅ S₅ => ?_
      refine r_iadd S₅ fun t₉ s₆ S₆ => ?_
      refine r_store (P := vI ((fFar second k : Int) + 1)) S₆ (by walk_at "mem") ⟨_, rfl⟩ (by walk_at "set") (by walk_at "upd") fun s₇ S₇ => ?_
      refine then_next ?_
      refine wpAny_execs_nil ?_
      refine then_next ?_
      refine wpAny_execs_nil ?_
      exact h _ (S₇.less (.head _) .head fun o ho => h1_sub (r := [_, _]) ho)
    have app : ∀ {s : Shared} {x : Sem Value} {y : Str} {pos : Pos} {Q' : Value → Shared → Prop}, St b s ((C, frC (h2 p q rw (fFar second k) row ++ [(("stays" : Str), vE (.bool (hd2 z == "  ")))])) :: (rw, lstS (rows ++ (second.drop k).take (fFar second k - k))) :: X) G →
        wpAny (model prog w) A x (fun v s₁ => ∃ t, v = .str y t ∧ St b s₁ ((C, frC (h2 p q rw (fFar second k) row ++ [(("stays" : Str), vE (.bool (hd2 z == "  ")))])) :: (rw, lstS (rows ++ (second.drop k).take (fFar second k - k))) :: X) G) NoE s →
        (∀ s', St b s' ((C, frC (h2 p q rw (fFar second k) row ++ [(("stays" : Str), vE (.bool (hd2 z == "  ")))])) :: (rw, lstS (rows ++ (second.drop k).take (fFar second k - k) ++ [y])) :: X) G → Q' .none s') →
        wpAny (model prog w) A (callWith pos (.builtin "list.append") [.ref rw] [(false, x)] []) Q' NoE s := by
      intro s x y pos Q' S hx hQ
      refine r_appS (b := b) (ys := rows ++ (second.drop k).take (fFar second k - k)) (wpAny_mono hx (fun v s₁ h₁ => ?_) fun _ _ x => x)
      obtain ⟨t, rfl, S₁⟩ := h₁
      exact ⟨_, _, _, _, _, rfl, S₁, .tail _ (.head _), .tail .head, by rw [List.length_append]; omega, fun s' S' => hQ s' S'⟩
    by_cases hr : hd2 row = "  "
    · rw [if_pos (by simpa using hr)]
      refine r_seq ?_
      refine r_stmtE ?_
      refine r_methS (b := b) F.slot_list_append F.type_list_append ?_
      refine r_nameE S₁₁ (by walk_at "mem") (by walk_at "mn") ?_
      refine ⟨_, _, _, _, rfl, S₁₁, .tail _ (.head _), ?_⟩
      refine app (y := z) S₁₁ ?_ fun s₁₂ S₁₂ => ⟨rfl, ?_⟩
      · refine Subscript_ ?_
        refine r_nameE S₁₁ (by walk_at "mem") (by walk_at "mn") ?_
        refine r_nameI S₁₁ (by walk_at "mem") (by walk_at "mn") fun t₅ => ?_
        exact r_itemS S₁₁ (.tail _ (.tail _ hq)) (by omega) (by omega) (by simpa using hz1) fun t₆ => ⟨_, rfl, S₁₁⟩
      refine then_next ?_
      refine wpAny_execs_nil ?_
      refine then_next ?_
      exact fin (by unfold fRow; rw [if_pos (by simpa using hr)]) S₁₂
    · rw [if_neg (by simpa using hr)]
      refine r_seq ?_
      refine wpAny_If ?_
      refine wpAny_isTrue_value ?_ (by kernel_rfl)
      refine r_nameE S₁₁ (by walk_at "mem") (by walk_at "mn") ?_
      refine wpAny_truthy_bool ?_
      by_cases hzs : hd2 z = "  "
      · rw [if_pos (by simpa using hzs)]
        refine r_seq ?_
        refine r_stmtE ?_
        refine r_methS (b := b) F.slot_list_append F.type_list_append ?_
        refine r_nameE S₁₁ (by walk_at "mem") (by walk_at "mn") ?_
        refine ⟨_, _, _, _, rfl, S₁₁, .tail _ (.head _), ?_⟩
        refine app (y := row) S₁₁ ?_ fun s₁₂ S₁₂ => ⟨rfl, ?_⟩
        · exact r_nameS S₁₁ (by walk_at "mem") (by walk_at "mn") fun t₅ => ⟨_, rfl, S₁₁⟩
        refine then_next ?_
        refine wpAny_execs_nil ?_
        refine then_next ?_
        refine wpAny_execs_nil ?_
        refine then_next ?_
        exact fin (by unfold fRow; rw [if_neg (by simpa using hr), if_pos (by simpa using hzs)]) S₁₂
      · rw [if_neg (by simpa using hzs)]
        refine r_seq ?_
        refine r_stmtE ?_
        refine r_methS (b := b) F.slot_list_append F.type_list_append ?_
        refine r_nameE S₁₁ (by walk_at "mem") (by walk_at "mn") ?_
        refine ⟨_, _, _, _, rfl, S₁₁, .tail _ (.head _), ?_⟩
        refine app (y := "? " ++ cutS row) S₁₁ ?_ fun s₁₂ S₁₂ => ⟨rfl, ?_⟩
        · refine wpAny_BinOp ?_
          refine r_str S₁₁ fun t₅ s₁₃ S₁₃ => ?_
          refine r_slice_sn (b := b) ?_
          refine r_nameS S₁₃ (by walk_at "mem") (by walk_at "mn") fun t₆ => ?_
          refine ⟨_, _, rfl, by omega, ?_⟩
          refine r_int S₁₃ fun t₇ s₁₄ S₁₄ => ?_
          refine ⟨_, _, rfl, _, _, S₁₄, fun s₁₅ t₈ S₁₅ => ?_⟩
          refine r_addS S₁₅ (by
            have : (cutS row).length ≤ row.length := cut_len row
            show _ + (cutS row).length ≤ _
            omega) fun t₉ s₁₆ S₁₆ => ⟨_, rfl, S₁₆⟩
        refine then_next ?_
        refine wpAny_execs_nil ?_
        refine then_next ?_
        refine wpAny_execs_nil ?_
        refine then_next ?_
        exact fin (by unfold fRow; rw [if_neg (by simpa using hr), if_neg (by simpa using hzs)]) S₁₂
  · have hk' : keepS (tagOf 2) row = false := by simpa using hk
    rw [if_pos (by rw [hk']; rfl)]
    rw [if_pos hk'] at h
    refine r_seq ?_
    refine r_stmtE ?_
    refine r_methS (b := b) F.slot_list_append F.type_list_append ?_
    refine r_nameE S₃ (by walk_at "mem") (by walk_at "mn") ?_
    refine ⟨_, _, _, _, rfl, S₃, .tail _ (.head _), ?_⟩
    refine r_appS (b := b) (ys := rows) ?_
    refine r_nameS S₃ (by walk_at "mem") (by walk_at "mn") fun t₅ => ?_
    refine ⟨_, _, _, _, _, rfl, S₃, .tail _ (.head _), .tail .head, by omega, fun s₄ S₄ => ⟨rfl, ?_⟩⟩
    refine then_next ?_
    refine wpAny_execs_nil ?_
    refine then_next ?_
    refine wpAny_execs_nil ?_
    exact h _ (S₄.less (.head _) .head fun o ho => h1_sub (r := [_]) ho)
end
end Mine

-- part F4b
open PySem PySem.W PySem.W.X PyProof.Rows PySem.Calls PySem.Spec PySem.SeqAt
set_option Elab.async false
set_option maxRecDepth 100000
set_option maxHeartbeats 400000
set_option linter.all false
namespace Mine

local macro_rules | `(tactic| walk_at "mem") => `(tactic| first | assumption | exact List.Mem.head _ | (refine List.Mem.tail _ ?_; walk_at "mem") | (refine List.mem_append_right _ ?_; walk_at "mem"))
local macro_rules | `(tactic| walk_at "mn") => `(tactic| first | with_reducible exact List.mem_cons_self | ((with_reducible refine List.mem_cons_of_mem _ ?_); walk_at "mn"))
local macro_rules | `(tactic| walk_at "upd") => `(tactic| first | exact Upd.head | ((with_reducible apply Upd.tail); walk_at "upd"))
local macro_rules | `(tactic| walk_at "set") => `(tactic| first | with_reducible exact SetN.nil | ((with_reducible refine SetN.hit ?_); kernel_rfl) | ((with_reducible apply SetN.skip); kernel_rfl; walk_at "set"))

section
variable {prog : Program} {w : World} {A : Around} {E : Value → Shared → Prop} {b s : Shared} {X : Ledger} {G : GLedger} {mg mb : Str → Option Value} {names : List Str} {env : Env}

abbrev fRun (first second : List Str) : List Str × Nat := first.foldl (fStep second) ([], 0)
theorem fRun_app (ys : List Str) (row : Str) (second : List Str) : fRun (ys ++ [row]) second = fStep second (fRun ys second) row := by unfold fRun; rw [List.foldl_append]; rfl

theorem r_fold {Q : Value → Shared → Prop} {f : Addr} {cd : Value} {p q : Addr} {first second : List Str} (B : Bs b mg mb names) (Ff : FnAt b mg f "_law_fold" fParams fBody fScope cd) (hA : Ar A 1)
    (hp : (p, lstS first) ∈ X) (hq : (q, lstS second) ∈ X) (hm : readS 2 first = readS 1 second) (hz : first.length + 2 * second.length + 2 ≤ sizeLine) (hzo : ∀ y ∈ first, y.length + 2 ≤ sizeLine) (hzn : ∀ y ∈ second, y.length + 2 ≤ sizeLine)
    (S : St b s X G) (h : ∀ a s', St b s' ((a, lstS (foldS first second)) :: X) G → Q (.ref a) s') :
    wpAny (model prog w) A (call (.ref f) [.ref p, .ref q]) Q E s := by
  refine r_callDef [(("first" : Str), .ref p), (("second" : Str), .ref q)] B Ff S (by have := hA.2; omega) (fun pm doc => rfl) (locs rfl) (by intro p hp; simp only [List.mem_cons, List.not_mem_nil, or_false] at hp; rcases hp with rfl | rfl <;> rfl) (fun C s' S' => ?_) rfl rfl rfl (by decide)
  have hA' : Ar (A.deeper (fEnv C f cd)) 0 := hA.deeper
  show wpAny _ (A.deeper (fEnv C f cd)) (execs fBody (fEnv C f cd)) _ _ _
  generalize A.deeper (fEnv C f cd) = A' at hA' ⊢
  rw [fBody_eq]
  refine r_seq ?_
  conv in fAt 0 => whnf
  refine wpAny_Assign_Name ?_ (by kernel_rfl)
  refine r_listS [] S' fun rw s₁ S₁ => ?_
  refine r_store (fl := [(("first" : Str), vE (.ref p)), (("second" : Str), vE (.ref q))]) (P := vE (.ref rw)) S₁ (.tail _ (.head _)) rfl (by walk_at "set") (by walk_at "upd") fun s₂ S₂ => ?_
  refine then_next ?_
  refine r_seq ?_
  conv in fAt 1 => whnf
  refine wpAny_Assign_Name ?_ (by kernel_rfl)
  refine r_int S₂ fun t s₃ S₃ => ?_
  refine r_store (P := vI 0) S₃ (by walk_at "mem") ⟨t, rfl⟩ (by walk_at "set") (by walk_at "upd") fun s₄ S₄ => ?_
  refine then_next ?_
  replace S₄ := S₄.perm (.swap _ _ _)
  refine r_seq ?_
  conv in fAt 2 => whnf
  refine r_forj (b := b) ?_
  refine r_nameE S₄ (by walk_at "mem") (by walk_at "mn") ?_
  refine ⟨[(p, lstS first)], 0, first.map vS, [], [(C, frC (h1 p q rw 0)), (rw, lstS [])], X, [], G, fun pre F => ∃ ys, pre = ys.map vS ∧ F = [(C, frC (h1 p q rw (fRun ys second).2)), (rw, lstS (fRun ys second).1)],
    givesI_list (hasL_S (.head _)), hA', S₄, ⟨[], rfl, rfl⟩, ?_, ?_, ?_⟩
  · rintro _ _ ⟨_, _, rfl⟩ x hx
    rw [List.mem_singleton] at hx
    subst hx
    walk_at "mem"
  · rintro pre P r u F L₂ G₂ s e hu ⟨ys, rfl, rfl⟩ S
    obtain ⟨row, rs, ey, rfl⟩ := next_vS e
    obtain ⟨t, rfl⟩ := hu
    have hi : FInv ys second (fRun ys second) := FInv.run' ys (row :: rs) (by rw [← ey]; exact hm)
    have hrow : row ∈ first := by rw [ey]; simp
    have hol : ys.length + 1 ≤ first.length := by rw [ey]; simp
    have hl := hi.len
    have hle := hi.le
    simp only [List.cons_append, List.nil_append] at S
    refine wpAny_assign_Name (r_store (P := vS row) S (by walk_at "mem") ⟨t, rfl⟩ (by walk_at "set") (by walk_at "upd") fun s₁ S₁ => ?_)
    refine w_foldRow (X := L₂ ++ X) (List.mem_append_right _ hq) (fun hk => ?_) (by omega) (hzo _ hrow) hzn S₁ fun s₅ S₅ => ?_
    · obtain ⟨a1, z, a2, a3, _⟩ := fFar_lt (row := row) (rest := rs) hi hk (by rw [← ey]; exact hm)
      exact ⟨a1, z, a2, a3⟩
    refine turn_next ?_
    refine ⟨_, ⟨ys ++ [row], by simp, rfl⟩, ?_⟩
    rw [fRun_app]
    exact S₅
  · rintro F s₇ ⟨ys, e, rfl⟩ S₇
    obtain rfl := map_vS_inj e
    have hi : FInv first second (fRun first second) := fInv hm
    have hl := hi.len
    have hle := hi.le
    simp only [List.cons_append, List.nil_append] at S₇
    refine then_next ?_
    refine r_seq ?_
    conv in fAt 3 => whnf
    refine r_stmtE ?_
    refine r_methS (b := b) F.slot_list_extend F.type_list_extend ?_
    refine r_nameE S₇ (by walk_at "mem") (by walk_at "mn") ?_
    refine ⟨_, _, _, _, rfl, S₇, by walk_at "mem", ?_⟩
    refine r_extS (b := b) (ys := (fRun first second).1) ?_
    refine r_slcS (b := b) ?_
    refine r_nameE S₇ (by walk_at "mem") (by walk_at "mn") ?_
    refine ⟨_, rfl, ?_⟩
    refine wpAny_evalPart_some ?_
    refine r_nameI S₇ (by walk_at "mem") (by walk_at "mn") fun t₃ => ?_
    refine wpAny_evalPart_none ?_
    refine ⟨_, _, _, _, _, .int _ _, .none, S₇, by walk_at "mem", by omega, fun a s₂ S₂ => ?_⟩
    rw [pick_from] at S₂
    have hpl : (second.drop (fRun first second).2).length = second.length - (fRun first second).2 := by rw [List.length_drop]
    refine ⟨a, _, _, _, _, rfl, S₂, by walk_at "mem", by walk_at "mem", by walk_at "upd", by rw [hpl]; omega, fun s₄ S₄ => ⟨rfl, ?_⟩⟩
    refine then_next ?_
    refine r_seq ?_
    conv in fAt 4 => whnf
    refine wpAny_Return_some ?_
    refine r_nameE S₄ (by walk_at "mem") (by walk_at "mn") ?_
    refine then_ret ?_
    refine h rw _ (S₄.sub ?_)
    exact .cons _ (.cons _ (.cons_cons _ (.refl _)))
end
end Mine

-- part M4b
open PySem PySem.W PySem.W.X PyProof.Rows PySem.Calls PySem.Spec PySem.SeqAt
set_option Elab.async false
set_option maxRecDepth 100000
set_option maxHeartbeats 400000
set_option linter.all false
namespace Mine
section
variable {prog : Program} {w : World} {A : Around} {E : Value → Shared → Prop} {b s : Shared} {L L' X : Ledger} {G : GLedger} {env : Env} {mg mb : Str → Option Value} {names : List Str} {Q : Value → Shared → Prop}

theorem r_usub {x : Int} {t : Tok} (S : St b s L G) (h : ∀ t s', St b s' L G → Q (.int (-x) t) s') : wpAny (model prog w) A (unaryOp .USub (.int x t)) Q E s := PyProof.Rows.neg_int (h _ _ (S.toks _))
theorem r_isub {x y : Int} {t u : Tok} (S : St b s L G) (h : ∀ t s', St b s' L G → Q (.int (x - y) t) s') : wpAny (model prog w) A (inplaceOp .Sub (.int x t) (.int y u)) Q E s := PyProof.Rows.isub_int (h _ _ (S.toks _))
/-- len of a list of the call's -/
theorem r_lenB {l : Addr} {vs : List Value} (S : St b s L G) (hL : b.heap.IsList l vs.toArray) (hz : vs.length ≤ sizeLine) (h : ∀ t s', St b s' L G → Q (.int vs.length t) s') : wpAny (model prog w) A (call (.builtin "len") [.ref l]) Q E s := by
  have hv : s.heap.IsList l vs.toArray := hL.at fun o e => S.keep _ _ e
  refine call_len_list hv ?_ ?_
  · rw [List.size_toArray]; have : sizeLine < 2 ^ 63 := by decide
    omega
  · rw [List.size_toArray]; exact h _ _ (S.toks _)
/-- [text] -/
theorem r_list1S {e : Expr} {pos : Pos} (h : wpAny (model prog w) A (eval e env) (fun v s₁ => ∃ y t L G, v = .str y t ∧ St b s₁ L G ∧ ∀ a s', St b s' ((a, lstS [y]) :: L) G → Q (.ref a) s') E s)
    (ht : backTo pos (starEach [e] env) = [(false, eval e env)] := by kernel_rfl) : wpAny (model prog w) A (eval (.List [e] pos) env) Q E s := by
  refine wpAny_List ?_
  rw [ht]
  refine Calls.spliced_cons (wpAny_mono h (fun v s₁ h₁ => Calls.spliced_nil ?_) fun _ _ x => x)
  obtain ⟨y, t, L, G, rfl, S, hQ⟩ := h₁
  exact ⟨by show 1 ≤ sizeLine; decide, hQ _ _ (S.alloc (P := lstS [y]) (lstS_mk (.cons y t .nil)))⟩
/-- [a, b, c] -/
theorem r_list3V {e₁ e₂ e₃ : Expr} {pos : Pos} (h : wpAny (model prog w) A (eval e₁ env) (fun v₁ s₁ => wpAny (model prog w) A (eval e₂ env) (fun v₂ s₂ => wpAny (model prog w) A (eval e₃ env) (fun v₃ s₃ => ∃ L G, St b s₃ L G ∧ ∀ a s', St b s' ((a, lstV [v₁, v₂, v₃]) :: L) G → Q (.ref a) s') E s₂) E s₁) E s)
    (ht : backTo pos (starEach [e₁, e₂, e₃] env) = [(false, eval e₁ env), (false, eval e₂ env), (false, eval e₃ env)] := by kernel_rfl) : wpAny (model prog w) A (eval (.List [e₁, e₂, e₃] pos) env) Q E s := by
  refine wpAny_List ?_
  rw [ht]
  refine Calls.spliced_cons (wpAny_mono h (fun v₁ s₁ h₁ => Calls.spliced_cons (wpAny_mono h₁ (fun v₂ s₂ h₂ => Calls.spliced_cons (wpAny_mono h₂ (fun v₃ s₃ h₃ => Calls.spliced_nil ?_) fun _ _ x => x)) fun _ _ x => x)) fun _ _ x => x)
  obtain ⟨L, G, S, hQ⟩ := h₃
  exact ⟨by show 3 ≤ sizeLine; decide, hQ _ _ (S.alloc (P := lstV [v₁, v₂, v₃]) lstV_mk)⟩
/-- [i, j, k] of ints -/
theorem r_list3I {e₁ e₂ e₃ : Expr} {pos : Pos} {i j k : Int} (h : wpAny (model prog w) A (eval e₁ env) (fun v₁ s₁ => vI i v₁ ∧ wpAny (model prog w) A (eval e₂ env) (fun v₂ s₂ => vI j v₂ ∧ wpAny (model prog w) A (eval e₃ env) (fun v₃ s₃ => vI k v₃ ∧ ∃ L G, St b s₃ L G ∧ ∀ a s', St b s' ((a, lstI [i, j, k]) :: L) G → Q (.ref a) s') E s₂) E s₁) E s)
    (ht : backTo pos (starEach [e₁, e₂, e₃] env) = [(false, eval e₁ env), (false, eval e₂ env), (false, eval e₃ env)] := by kernel_rfl) : wpAny (model prog w) A (eval (.List [e₁, e₂, e₃] pos) env) Q E s := by
  refine r_list3V (b := b) (wpAny_mono h (fun v₁ s₁ h₁ => wpAny_mono h₁.2 (fun v₂ s₂ h₂ => wpAny_mono h₂.2 (fun v₃ s₃ h₃ => ?_) fun _ _ x => x) fun _ _ x => x) fun _ _ x => x) ht
  obtain ⟨⟨t₃, rfl⟩, L, G, S, hQ⟩ := h₃
  obtain ⟨⟨t₂, rfl⟩, _⟩ := h₂
  obtain ⟨⟨t₁, rfl⟩, _⟩ := h₁
  refine ⟨L, G, S, fun a s' S' => hQ a s' (S'.less (.head _) .head ?_)⟩
  rintro o ⟨n, rfl⟩
  exact ⟨_, n, rfl, .cons i t₁ (.cons j t₂ (.cons k t₃ .nil))⟩
/-- [x] of any value -/
theorem r_list1V {e : Expr} {pos : Pos} (h : wpAny (model prog w) A (eval e env) (fun v s₁ => ∃ L G, St b s₁ L G ∧ ∀ a s', St b s' ((a, lstV [v]) :: L) G → Q (.ref a) s') E s)
    (ht : backTo pos (starEach [e] env) = [(false, eval e env)] := by kernel_rfl) : wpAny (model prog w) A (eval (.List [e] pos) env) Q E s := by
  refine wpAny_List ?_
  rw [ht]
  refine Calls.spliced_cons (wpAny_mono h (fun v s₁ h₁ => Calls.spliced_nil ?_) fun _ _ x => x)
  obtain ⟨L, G, S, hQ⟩ := h₁
  exact ⟨by show 1 ≤ sizeLine; decide, hQ _ _ (S.alloc (P := lstV [v]) lstV_mk)⟩
theorem r_list0V {pos : Pos} (S : St b s L G) (h : ∀ a s', St b s' ((a, lstV []) :: L) G → Q (.ref a) s') : wpAny (model prog w) A (eval (.List [] pos) env) Q E s :=
  wpAny_List (Calls.spliced_nil ⟨by show 0 ≤ sizeLine; decide, h _ _ (S.alloc (P := lstV []) lstV_mk)⟩)
end
end Mine

-- part L4a
open PySem PySem.W PySem.W.X PyProof.Rows PySem.Calls PySem.Spec PySem.SeqAt
set_option Elab.async false
set_option maxRecDepth 100000
set_option maxHeartbeats 400000
set_option linter.all false
namespace Mine

local macro_rules | `(tactic| walk_at "mem") => `(tactic| first | assumption | exact List.Mem.head _ | (refine List.Mem.tail _ ?_; walk_at "mem") | (refine List.mem_append_right _ ?_; walk_at "mem"))
local macro_rules | `(tactic| walk_at "mn") => `(tactic| first | with_reducible exact List.mem_cons_self | ((with_reducible refine List.mem_cons_of_mem _ ?_); walk_at "mn"))
local macro_rules | `(tactic| walk_at "upd") => `(tactic| first | exact Upd.head | ((with_reducible apply Upd.tail); walk_at "upd"))
local macro_rules | `(tactic| walk_at "set") => `(tactic| first | with_reducible exact SetN.nil | ((with_reducible refine SetN.hit ?_); kernel_rfl) | ((with_reducible apply SetN.skip); kernel_rfl; walk_at "set"))

def lDef : Stmt := match PySem.Challenge.pw_dm0050_04.main.body with | _ :: _ :: _ :: _ :: _ :: d :: _ => d | _ => .Pass default
def lBody : List Stmt := match lDef with | .FunctionDef _ _ b .. => b | _ => []
def lScope : Scope := match lDef with | .FunctionDef _ _ _ _ _ _ sc .. => sc | _ => default
def lParams : Arguments := match lDef with | .FunctionDef _ a .. => a | _ => default
abbrev lEnv (C f : Addr) (cd : Value) : Env := envOf "law" lScope C f cd
def lAt (k : Nat) : Stmt := (lBody[k]?).getD (.Pass default)
theorem lBody_eq : lBody = [lAt 0, lAt 1, lAt 2, lAt 3, lAt 4] := rfl
def tBody : List Stmt := match lAt 3 with | .For _ _ b _ _ => b | _ => []
def tAt (k : Nat) : Stmt := (tBody[k]?).getD (.Pass default)
theorem tBody_eq : tBody = [tAt 0, tAt 1, tAt 2, tAt 3, tAt 4, tAt 5, tAt 6, tAt 7, tAt 8] := rfl
def wBody : List Stmt := match tAt 8 with | .While _ b _ _ => b | _ => []
def wAt (k : Nat) : Stmt := (wBody[k]?).getD (.Pass default)
theorem wBody_eq : wBody = [wAt 0, wAt 1, wAt 2, wAt 3, wAt 4, wAt 5, wAt 6] := rfl

def kinds4 : List Str := ["a", "- b", "+ b", "  ", "", "? c", " - "]
theorem kinds4_good : ∀ y ∈ kinds4, Good 3 y := by unfold Good; decide +kernel

abbrev fa (l kn T P : Addr) : List (Str × VP) := [(("script" : Str), vE (.ref l)), (("kinds" : Str), vE (.ref kn)), (("texts" : Str), vE (.ref T)), (("pile" : Str), vE (.ref P))]
abbrev fb (l kn T P : Addr) (x : Int) (o : Addr) (r k : Int) : List (Str × VP) := [(("script" : Str), vE (.ref l)), (("kinds" : Str), vE (.ref kn)), (("texts" : Str), vE (.ref T)), (("pile" : Str), vE (.ref P)), (("x" : Str), vI x), (("old" : Str), vE (.ref o)), (("rest" : Str), vI r), (("at" : Str), vI k)]
abbrev fc (l kn T P : Addr) (x : Int) (o : Addr) (r k : Int) (nw : Addr) : List (Str × VP) := [(("script" : Str), vE (.ref l)), (("kinds" : Str), vE (.ref kn)), (("texts" : Str), vE (.ref T)), (("pile" : Str), vE (.ref P)), (("x" : Str), vI x), (("old" : Str), vE (.ref o)), (("rest" : Str), vI r), (("at" : Str), vI k), (("new" : Str), vE (.ref nw))]

section
variable {prog : Program} {w : World} {A : Around} {E : Value → Shared → Prop} {b s : Shared} {Z : Ledger} {G : GLedger} {mg mb : Str → Option Value} {names : List Str} {Q : Flow → Shared → Prop} {C f : Addr} {cd : Value} {l kn T P : Addr}

theorem mod4_step {x : Int} : x.fmod 4 = 0 ∨ x.fmod 4 = 1 ∨ x.fmod 4 = 2 ∨ x.fmod 4 = 3 := by
  have := fmod_range x (m := 4) (by decide)
  omega

/-- the next text -/
theorem w_new {x r : Int} {o : Addr} {old : List Str} {k : Nat} (hk : k ≤ old.length) (hz : old.length + 2 ≤ sizeLine) (hgood : ∀ y ∈ old, Good 3 y)
    (ho : (o, lstS old) ∈ Z) (hkn : (kn, lstS kinds4) ∈ Z)
    (S : St b s ((C, frC (fb l kn T P x o r k)) :: Z) G)
    (h : ∀ nw new s', new.length ≤ old.length + 1 → (∀ y ∈ new, Good 3 y) → St b s' ((C, frC (fc l kn T P x o r k nw)) :: (nw, lstS new) :: Z) G → Q .next s') :
    wpAny (model prog w) A (exec (tAt 3) (lEnv C f cd)) Q NoE s := by
  conv in tAt 3 => whnf
  have hb : sizeLine < 2 ^ 63 := by decide
  have hr7 := fmod_range r (m := 7) (by decide)
  have stp : ∀ {s : Shared} {nw : Addr} {new : List Str} {L₁ : Ledger} {pos pos' : Pos} {e : Expr}, new.length ≤ old.length + 1 → (∀ y ∈ new, Good 3 y) → St b s ((nw, lstS new) :: (L₁ ++ ((C, frC (fb l kn T P x o r k)) :: Z))) G →
      wpAny (model prog w) A (storeName (lEnv C f cd) "new" (.ref nw)) (fun _ => Q .next) NoE s := by
    intro s nw new L₁ pos pos' e h1 h2 S
    refine r_store (P := vE (.ref nw)) S (.tail _ (List.mem_append_right _ (.head _))) rfl (by walk_at "set") (.tail (Upd.left .head L₁)) fun s' S' => ?_
    refine h nw new s' h1 h2 ((S'.sub ?_).perm (.swap _ _ _))
    exact .cons_cons _ (List.sublist_append_right _ _)
  refine wpAny_If ?_
  refine wpAny_isTrue_Compare1 ?_ (by kernel_rfl)
  refine wpAny_BinOp ?_
  refine r_nameI S (by walk_at "mem") (by walk_at "mn") fun t₁ => ?_
  refine r_int S fun t₂ s₁ S₁ => ?_
  refine r_mod S₁ (by decide) fun t₃ s₂ S₂ => ?_
  refine r_int S₂ fun t₄ s₃ S₃ => ?_
  refine r_eqI ?_
  refine wpAny_truthy_bool ?_
  split
  · obtain ⟨kd, hkd⟩ : ∃ z, kinds4[(r.fmod 7).toNat]? = some z := ⟨_, List.getElem?_eq_getElem (by show _ < 7; omega)⟩
    refine r_seq ?_
    refine wpAny_Assign_Name ?_ (by kernel_rfl)
    refine wpAny_BinOp ?_
    refine wpAny_BinOp ?_
    refine r_slcS (b := b) ?_
    refine r_nameE S₃ (by walk_at "mem") (by walk_at "mn") ?_
    refine ⟨_, rfl, ?_⟩
    refine wpAny_evalPart_none ?_
    refine wpAny_evalPart_some ?_
    refine r_nameI S₃ (by walk_at "mem") (by walk_at "mn") fun t₅ => ?_
    refine ⟨_, _, _, _, _, .none, .int _ _, S₃, .tail _ ho, by omega, fun a s₄ S₄ => ?_⟩
    rw [pick_to] at S₄
    refine r_list1S (b := b) ?_
    refine Subscript_ ?_
    refine r_nameE S₄ (by walk_at "mem") (by walk_at "mn") ?_
    refine wpAny_BinOp ?_
    refine r_nameI S₄ (by walk_at "mem") (by walk_at "mn") fun t₆ => ?_
    refine r_int S₄ fun t₇ s₅ S₅ => ?_
    refine r_mod S₅ (by decide) fun t₈ s₆ S₆ => ?_
    refine r_itemS S₆ (.tail _ (.tail _ hkn)) hr7.1 (by omega) hkd fun t₉ => ?_
    refine ⟨_, _, _, _, rfl, S₆, fun a2 s₇ S₇ => ?_⟩
    refine r_addLS S₇ (by walk_at "mem") (by walk_at "mem") (by rw [List.length_take]; show _ + 1 ≤ _; omega) fun a3 s₈ S₈ => ?_
    refine r_slcS (b := b) ?_
    refine r_nameE S₈ (by walk_at "mem") (by walk_at "mn") ?_
    refine ⟨_, rfl, ?_⟩
    refine wpAny_evalPart_some ?_
    refine r_nameI S₈ (by walk_at "mem") (by walk_at "mn") fun t₁₀ => ?_
    refine wpAny_evalPart_none ?_
    refine ⟨_, _, _, _, _, .int _ _, .none, S₈, .tail _ (.tail _ (.tail _ (.tail _ ho))), by omega, fun a4 s₉ S₉ => ?_⟩
    rw [pick_from] at S₉
    have e1 : (old.take k).length = k := by rw [List.length_take]; omega
    refine r_addLS S₉ (by walk_at "mem") (by walk_at "mem") (by rw [List.length_append, e1, List.length_drop]; show k + 1 + _ ≤ _; omega) fun a5 s₁₀ S₁₀ => ?_
    refine wpAny_mono (stp (L₁ := [_, _, _, _]) (pos := default) (pos' := default) (e := default) ?_ ?_ S₁₀) (fun _ s₁₁ hQ => then_next (wpAny_execs_nil hQ)) fun _ _ x => x
    · rw [List.length_append, List.length_append, e1, List.length_drop]; show k + 1 + _ ≤ _; omega
    · intro y hy
      simp only [List.mem_append, List.mem_singleton] at hy
      rcases hy with (hy | rfl) | hy
      · exact hgood y (List.mem_of_mem_take hy)
      · exact kinds4_good _ (List.mem_of_getElem? hkd)
      · exact hgood y (List.mem_of_mem_drop hy)
  · refine r_seq ?_
    refine wpAny_If ?_
    refine wpAny_isTrue_Compare1 ?_ (by kernel_rfl)
    refine wpAny_BinOp ?_
    refine r_nameI S₃ (by walk_at "mem") (by walk_at "mn") fun t₁ => ?_
    refine r_int S₃ fun t₂ s₁ S₁ => ?_
    refine r_mod S₁ (by decide) fun t₃ s₂ S₂ => ?_
    refine r_int S₂ fun t₄ s₃ S₃ => ?_
    refine r_eqI ?_
    refine wpAny_truthy_bool ?_
    split
    · refine r_seq ?_
      refine wpAny_Assign_Name ?_ (by kernel_rfl)
      refine wpAny_BinOp ?_
      refine r_slcS (b := b) ?_
      refine r_nameE S₃ (by walk_at "mem") (by walk_at "mn") ?_
      refine ⟨_, rfl, ?_⟩
      refine wpAny_evalPart_none ?_
      refine wpAny_evalPart_some ?_
      refine r_nameI S₃ (by walk_at "mem") (by walk_at "mn") fun t₅ => ?_
      refine ⟨_, _, _, _, _, .none, .int _ _, S₃, .tail _ ho, by omega, fun a s₄ S₄ => ?_⟩
      rw [pick_to] at S₄
      refine r_slcS (b := b) ?_
      refine r_nameE S₄ (by walk_at "mem") (by walk_at "mn") ?_
      refine ⟨_, rfl, ?_⟩
      refine wpAny_evalPart_some ?_
      refine wpAny_BinOp ?_
      refine r_nameI S₄ (by walk_at "mem") (by walk_at "mn") fun t₁₀ => ?_
      refine r_int S₄ fun t₇ s₅ S₅ => ?_
      refine r_add S₅ fun t₈ s₆ S₆ => ?_
      refine wpAny_evalPart_none ?_
      rw [show (k : Int) + 1 = ((k + 1 : Nat) : Int) by omega]
      refine ⟨_, _, _, _, _, .int _ _, .none, S₆, .tail _ (.tail _ ho), by omega, fun a4 s₉ S₉ => ?_⟩
      rw [pick_from] at S₉
      have e1 : (old.take k).length = k := by rw [List.length_take]; omega
      refine r_addLS S₉ (by walk_at "mem") (by walk_at "mem") (by rw [e1, List.length_drop]; omega) fun a5 s₁₀ S₁₀ => ?_
      refine wpAny_mono (stp (L₁ := [_, _]) (pos := default) (pos' := default) (e := default) ?_ ?_ S₁₀) (fun _ s₁₁ hQ => then_next (wpAny_execs_nil (then_next (wpAny_execs_nil hQ)))) fun _ _ x => x
      · rw [List.length_append, e1, List.length_drop]; omega
      · intro y hy
        rcases List.mem_append.mp hy with hy | hy
        · exact hgood y (List.mem_of_mem_take hy)
        · exact hgood y (List.mem_of_mem_drop hy)
    · refine r_seq ?_
      refine wpAny_If ?_
      refine wpAny_isTrue_Compare1 ?_ (by kernel_rfl)
      refine wpAny_BinOp ?_
      refine r_nameI S₃ (by walk_at "mem") (by walk_at "mn") fun t₁ => ?_
      refine r_int S₃ fun t₂ s₁ S₁ => ?_
      refine r_mod S₁ (by decide) fun t₃ s₂ S₂ => ?_
      refine r_int S₂ fun t₄ s₃ S₃ => ?_
      refine r_eqI ?_
      refine wpAny_truthy_bool ?_
      split
      · refine r_seq ?_
        refine wpAny_Assign_Name ?_ (by kernel_rfl)
        refine wpAny_BinOp ?_
        refine r_slcS (b := b) ?_
        refine r_nameE S₃ (by walk_at "mem") (by walk_at "mn") ?_
        refine ⟨_, rfl, ?_⟩
        refine wpAny_evalPart_some ?_
        refine r_nameI S₃ (by walk_at "mem") (by walk_at "mn") fun t₅ => ?_
        refine wpAny_evalPart_none ?_
        refine ⟨_, _, _, _, _, .int _ _, .none, S₃, .tail _ ho, by omega, fun a s₄ S₄ => ?_⟩
        rw [pick_from] at S₄
        refine r_slcS (b := b) ?_
        refine r_nameE S₄ (by walk_at "mem") (by walk_at "mn") ?_
        refine ⟨_, rfl, ?_⟩
        refine wpAny_evalPart_none ?_
        refine wpAny_evalPart_some ?_
        refine r_nameI S₄ (by walk_at "mem") (by walk_at "mn") fun t₁₀ => ?_
        refine ⟨_, _, _, _, _, .none, .int _ _, S₄, .tail _ (.tail _ ho), by omega, fun a4 s₉ S₉ => ?_⟩
        rw [pick_to] at S₉
        have e1 : (old.take k).length = k := by rw [List.length_take]; omega
        refine r_addLS S₉ (by walk_at "mem") (by walk_at "mem") (by rw [e1, List.length_drop]; omega) fun a5 s₁₀ S₁₀ => ?_
        refine wpAny_mono (stp (L₁ := [_, _]) (pos := default) (pos' := default) (e := default) ?_ ?_ S₁₀) (fun _ s₁₁ hQ => then_next (wpAny_execs_nil (then_next (wpAny_execs_nil (then_next (wpAny_execs_nil hQ)))))) fun _ _ x => x
        · rw [List.length_append, e1, List.length_drop]; omega
        · intro y hy
          rcases List.mem_append.mp hy with hy | hy
          · exact hgood y (List.mem_of_mem_drop hy)
          · exact hgood y (List.mem_of_mem_take hy)
      · refine r_seq ?_
        refine wpAny_Assign_Name ?_ (by kernel_rfl)
        refine r_rev (b := b) ?_
        refine r_nameE S₃ (by walk_at "mem") (by walk_at "mn") ?_
        refine ⟨_, rfl, ?_⟩
        refine wpAny_UnaryOp ?_
        refine r_int S₃ fun t₅ s₄ S₄ => ?_
        refine r_usub S₄ fun t₆ s₅ S₅ => ?_
        refine ⟨_, _, _, _, rfl, S₅, .tail _ ho, by omega, fun a s₆ S₆ => ?_⟩
        refine wpAny_mono (stp (L₁ := []) (pos := default) (pos' := default) (e := default) ?_ ?_ S₆) (fun _ s₁₁ hQ => then_next (wpAny_execs_nil (then_next (wpAny_execs_nil (then_next (wpAny_execs_nil hQ)))))) fun _ _ x => x
        · rw [List.length_reverse]; omega
        · intro y hy
          exact hgood y (List.mem_reverse.mp hy)
end
end Mine

-- part L4b
open PySem PySem.W PySem.W.X PyProof.Rows PySem.Calls PySem.Spec PySem.SeqAt
set_option Elab.async false
set_option maxRecDepth 100000
set_option maxHeartbeats 400000
set_option linter.all false
namespace Mine

local macro_rules | `(tactic| walk_at "mem") => `(tactic| first | assumption | exact List.Mem.head _ | (refine List.Mem.tail _ ?_; walk_at "mem") | (refine List.mem_append_right _ ?_; walk_at "mem"))
local macro_rules | `(tactic| walk_at "mn") => `(tactic| first | with_reducible exact List.mem_cons_self | ((with_reducible refine List.mem_cons_of_mem _ ?_); walk_at "mn"))
local macro_rules | `(tactic| walk_at "upd") => `(tactic| first | exact Upd.head | ((with_reducible apply Upd.tail); walk_at "upd"))
local macro_rules | `(tactic| walk_at "set") => `(tactic| first | with_reducible exact SetN.nil | ((with_reducible refine SetN.hit ?_); kernel_rfl) | ((with_reducible apply SetN.skip); kernel_rfl; walk_at "set"))

/-- an entry of the pile -/
structure Ent where
  p : Addr
  d : Addr
  i : Nat
  j : Nat
  ti : Tok
  tj : Tok
  rows : List Str
abbrev Ent.val (e : Ent) : List Value := [.int e.i e.ti, .int e.j e.tj, .ref e.d]
structure EntOk (tx : List (List Str)) (e : Ent) : Prop where
  one : tx[e.i]? = some (readS 1 e.rows)
  two : tx[e.j]? = some (readS 2 e.rows)
  good : ∀ z ∈ e.rows, Good 5 z
/-- the pile, its top first: each entry ends where the one above it begins -/
def Stack (tx : List (List Str)) : List Ent → Nat → Prop
  | [], _ => True
  | e :: r, j => e.j = j ∧ EntOk tx e ∧ Stack tx r e.i
def sumL (st : List Ent) : Nat := (st.map fun e => e.rows.length).sum
structure Zok (Z : Ledger) (kn : Addr) (as : List Addr) (tx : List (List Str)) (st : List Ent) : Prop where
  kn : (kn, lstS kinds4) ∈ Z
  tx : ∀ (i : Nat) (a : Addr) (y : List Str), as[i]? = some a → tx[i]? = some y → (a, lstS y) ∈ Z
  st : ∀ e ∈ st, (e.p, lstV e.val) ∈ Z ∧ (e.d, lstS e.rows) ∈ Z
theorem Zok.wide {Z : Ledger} {kn : Addr} {as : List Addr} {tx : List (List Str)} {st : List Ent} (h : Zok Z kn as tx st) (X : Ledger) : Zok (Z ++ X) kn as tx st :=
  ⟨List.mem_append_left _ h.kn, fun i a y h1 h2 => List.mem_append_left _ (h.tx i a y h1 h2), fun e he => ⟨List.mem_append_left _ (h.st e he).1, List.mem_append_left _ (h.st e he).2⟩⟩
def pileV (st : List Ent) : List Value := st.reverse.map fun e => .ref e.p
theorem pileV_cons (e : Ent) (r : List Ent) : pileV (e :: r) = pileV r ++ [.ref e.p] := by unfold pileV; simp
theorem pileV_len (st : List Ent) : (pileV st).length = st.length := by unfold pileV; simp

abbrev fw (l kn T P : Addr) (fo : Int) : List (Str × VP) := [(("script" : Str), vE (.ref l)), (("kinds" : Str), vE (.ref kn)), (("texts" : Str), vE (.ref T)), (("pile" : Str), vE (.ref P)), (("folds" : Str), vI fo)]
theorem fw_sub {l kn T P : Addr} {fo : Int} {r : List (Str × VP)} {o : Obj} (h : frC (fw l kn T P fo ++ r) o) : frC (fw l kn T P fo) o := frC_sub (fun q hq => List.mem_append_left _ hq) h

section
variable {prog : Program} {w : World} {A : Around} {E : Value → Shared → Prop} {b s : Shared} {Z X : Ledger} {G : GLedger} {mg mb : Str → Option Value} {names : List Str} {Q : Flow → Shared → Prop} {C f : Addr} {cd : Value} {l kn T P : Addr}

theorem front3 {α : Type} (a c d q : α) (Z : List α) : (c :: d :: a :: q :: Z).Perm (q :: c :: d :: a :: Z) := List.perm_middle (l₁ := [c, d, a])

theorem w_folds (B : Bs b mg mb names) (hln : ("len" : Str) ∉ names) (hls : ("list" : Str) ∉ names) (hint : ("int" : Str) ∉ names) {fr ff : Addr} {cr cf : Value} (Fr : FnAt b mg fr "restore" rParams rBody rScope cr) (Ff : FnAt b mg ff "_law_fold" fParams fBody fScope cf)
    (hA : Ar A 1) (hu : A.units + 64 < cLine) {as : List Addr} {tx : List (List Str)} {j : Nat} (hal : as.length = tx.length) (htx : ∀ y ∈ tx, y.length ≤ 100 ∧ ∀ z ∈ y, Good 3 z) (hxl : tx.length ≤ 100)
    {N M : Nat} (hN : N ≤ 100000) (hM : M ≤ 100) {st : List Ent} (hst : Stack tx st j) (hsum : sumL st ≤ N) (hsl : st.length ≤ M) (hZ : Zok Z kn as tx st) {fo : Int}
    (S : St b s ((C, frC (fw l kn T P fo)) :: (T, lstV (as.map .ref)) :: (P, lstV (pileV st)) :: (Z ++ X)) G)
    (h : ∀ st Z₁ s' fo, Stack tx st j → sumL st ≤ N → st.length ≤ M → Zok (Z₁ ++ Z) kn as tx st → St b s' ((C, frC (fw l kn T P fo)) :: (T, lstV (as.map .ref)) :: (P, lstV (pileV st)) :: (Z₁ ++ Z ++ X)) G → Q .next s') :
    wpAny (model prog w) A (exec (tAt 8) (lEnv C f cd)) Q NoE s := by
  conv in tAt 8 => whnf
  have h9 : sizeLine = 16777216 := by decide
  have hroom : A.depth < recursionLimit := by have := hA.2; omega
  refine r_while (fun n s => ∃ st Z₁ fo, st.length = n ∧ Stack tx st j ∧ sumL st ≤ N ∧ st.length ≤ M ∧ Zok (Z₁ ++ Z) kn as tx st ∧ St b s ((C, frC (fw l kn T P fo)) :: (T, lstV (as.map .ref)) :: (P, lstV (pileV st)) :: (Z₁ ++ Z ++ X)) G) _ ⟨st, [], fo, rfl, hst, hsum, hsl, hZ, S⟩ ?_
  rintro n s ⟨st, Z₁, fo, rfl, hst, hsum, hsl, hZ, S⟩
  have hZX := hZ.wide X
  refine wpAny_isTrue_BoolOp ?_
  refine wpAny_allTrue_And_cons ?_
  refine wpAny_isTrue_Compare1 ?_ (by kernel_rfl)
  refine r_nameI S (by walk_at "mem") (by walk_at "mn") fun t₁ => ?_
  refine r_int S fun t₂ s₁ S₁ => ?_
  refine r_gt ?_
  refine wpAny_truthy_bool ?_
  split
  case isFalse => exact h st Z₁ _ fo hst hsum hsl hZ S₁ 
  refine wpAny_allTrue_And_cons ?_
  refine wpAny_isTrue_Compare1 ?_ (by kernel_rfl)
  refine r_callB1 (id := "len") B S₁ (by decide +kernel) ?_ (hfree := hln)
  refine r_nameE S₁ (by walk_at "mem") (by walk_at "mn") ?_
  refine r_lenV S₁ (by walk_at "mem") (by rw [pileV_len]; omega) fun t₃ s₂ S₂ => ?_
  refine r_int S₂ fun t₄ s₃ S₃ => ?_
  refine r_gt ?_
  refine wpAny_truthy_bool ?_
  rw [pileV_len]
  by_cases h2 : 1 < st.length
  case neg =>
    rw [if_neg (by simp; omega)]
    exact h st Z₁ _ fo hst hsum hsl hZ S₃
  rw [if_pos (by simp; omega)]
  refine wpAny_allTrue_And_nil ?_
  rw [if_pos rfl]
  obtain ⟨late, early, rest, rfl⟩ : ∃ a c r, st = a :: c :: r := by
    match st, h2 with
    | a :: c :: r, _ => exact ⟨a, c, r, rfl⟩
  obtain ⟨hlj, hlok, hej, heok, hrest⟩ := hst
  obtain ⟨mlp, mld⟩ := hZX.st late (.head _)
  obtain ⟨mep, med⟩ := hZX.st early (.tail _ (.head _))
  have hmeet : readS 2 early.rows = readS 1 late.rows := by
    have e1 := heok.two
    rw [hej, hlok.one] at e1
    exact (Option.some.inj e1).symm
  have hsm : early.rows.length + late.rows.length + sumL rest ≤ N := by unfold sumL at hsum ⊢; simp only [List.map_cons, List.sum_cons] at hsum; omega
  show wpAny _ _ (execs wBody (lEnv C f cd)) _ _ _
  rw [wBody_eq]
  -- folds -= 1
  refine r_seq ?_
  conv in wAt 0 => whnf
  refine wpAny_AugAssign_Name ?_
  refine r_load S₃ (by walk_at "mem") (by walk_at "mn") fun v hv => ?_
  obtain ⟨t₅, rfl⟩ := hv
  refine r_int S₃ fun t₆ s₄ S₄ => ?_
  refine r_isub S₄ fun t₇ s₅ S₅ => ?_
  refine r_store (P := vI (fo - 1)) S₅ (by walk_at "mem") ⟨_, rfl⟩ (by walk_at "set") (by walk_at "upd") fun s₆ S₆ => ?_
  refine then_next ?_
  -- late = pile.pop()
  refine r_seq ?_
  conv in wAt 1 => whnf
  refine wpAny_Assign_Name ?_ (by kernel_rfl)
  refine r_popV (b := b) ?_
  refine r_nameE S₆ (by walk_at "mem") (by walk_at "mn") ?_
  rw [pileV_cons] at S₆
  refine ⟨_, _, _, _, _, _, rfl, S₆, .tail _ (.tail _ (.head _)), .tail (.tail .head), by rw [pileV_len]; simp only [List.length_cons] at hsl ⊢; omega, fun s₇ S₇ => ?_⟩
  refine r_store (P := vE (.ref late.p)) S₇ (by walk_at "mem") rfl (by walk_at "set") (by walk_at "upd") fun s₈ S₈ => ?_
  refine then_next ?_
  -- early = pile.pop()
  refine r_seq ?_
  conv in wAt 2 => whnf
  refine wpAny_Assign_Name ?_ (by kernel_rfl)
  refine r_popV (b := b) ?_
  refine r_nameE S₈ (by walk_at "mem") (by walk_at "mn") ?_
  rw [pileV_cons] at S₈
  refine ⟨_, _, _, _, _, _, rfl, S₈, .tail _ (.tail _ (.head _)), .tail (.tail .head), by rw [pileV_len]; simp only [List.length_cons] at hsl ⊢; omega, fun s₉ S₉ => ?_⟩
  refine r_store (P := vE (.ref early.p)) S₉ (by walk_at "mem") rfl (by walk_at "set") (by walk_at "upd") fun s₁₀ S₁₀ => ?_
  refine then_next ?_
  -- delta = _law_fold(early[2], late[2])
  refine r_seq ?_
  conv in wAt 3 => whnf
  refine wpAny_Assign_Name ?_ (by kernel_rfl)
  refine r_callD2 B Ff S₁₀ ?_
  refine Subscript_ ?_
  refine r_nameE S₁₀ (by walk_at "mem") (by walk_at "mn") ?_
  refine r_int S₁₀ fun t₈ s₁₁ S₁₁ => ?_
  refine r_itemV S₁₁ (.tail _ (.tail _ (.tail _ mep))) (by decide) (by decide) (v := .ref early.d) rfl ?_
  refine Subscript_ ?_
  refine r_nameE S₁₁ (by walk_at "mem") (by walk_at "mn") ?_
  refine r_int S₁₁ fun t₉ s₁₂ S₁₂ => ?_
  refine r_itemV S₁₂ (.tail _ (.tail _ (.tail _ mlp))) (by decide) (by decide) (v := .ref late.d) rfl ?_
  refine ⟨⟨_, _, S₁₂⟩, ?_⟩
  refine r_fold B Ff hA (.tail _ (.tail _ (.tail _ med))) (.tail _ (.tail _ (.tail _ mld))) hmeet (by omega) (fun z hz => by have := (heok.good z hz).1; omega) (fun z hz => by have := (hlok.good z hz).1; omega) S₁₂ fun dl s₁₃ S₁₃ => ?_
  replace S₁₃ := S₁₃.perm (front3 _ _ _ _ _)
  refine r_store (P := vE (.ref dl)) S₁₃ (by walk_at "mem") rfl (by walk_at "set") (by walk_at "upd") fun s₁₄ S₁₄ => ?_
  refine then_next ?_
  have hfg : ∀ z ∈ foldS early.rows late.rows, Good 5 z := fold_good (by omega) heok.good hlok.good
  have hfl : ∀ z ∈ foldS early.rows late.rows, z.length ≤ sizeLine := fun z hz => by have := (hfg z hz).1; omega
  have hone := fold_one hmeet
  have htwo := fold_two hmeet
  have hflen := fold_len hmeet
  obtain ⟨y1, hy1⟩ : ∃ y, y = readS 1 early.rows := ⟨_, rfl⟩
  obtain ⟨y2, hy2⟩ : ∃ y, y = readS 2 late.rows := ⟨_, rfl⟩
  have hx1 := heok.one
  have hx2 := hlok.two
  rw [← hy1] at hone hx1
  rw [← hy2] at htwo hx2
  have hty1 := htx y1 (List.mem_of_getElem? hx1)
  have hty2 := htx y2 (List.mem_of_getElem? hx2)
  have hi1 : early.i < as.length := by rw [hal]; exact (List.getElem?_eq_some_iff.mp hx1).1
  have hj2 : late.j < as.length := by rw [hal]; exact (List.getElem?_eq_some_iff.mp hx2).1
  obtain ⟨a1, ha1⟩ : ∃ a, as[early.i]? = some a := ⟨_, List.getElem?_eq_getElem hi1⟩
  obtain ⟨a2, ha2⟩ : ∃ a, as[late.j]? = some a := ⟨_, List.getElem?_eq_getElem hj2⟩
  have ma1 := hZX.tx _ _ _ ha1 hx1
  have ma2 := hZX.tx _ _ _ ha2 hx2
  -- the old text
  refine r_seq ?_
  conv in wAt 4 => whnf
  refine wpAny_If ?_
  refine wpAny_isTrue_Compare1 ?_ (by kernel_rfl)
  refine r_callT1 (T := "list") B S₁₄ (by decide +kernel) ?_ (hfree := hls)
  refine r_callD2 B Fr S₁₄ ?_
  refine r_nameE S₁₄ (by walk_at "mem") (by walk_at "mn") ?_
  refine r_int S₁₄ fun t₁₀ s₁₅ S₁₅ => ?_
  refine ⟨⟨_, _, S₁₅⟩, ?_⟩
  refine r_restore B Fr S₁₅ hroom fun ga C1 g1 s₁₆ S₁₆ => ?_
  have q1 := gives_fresh (prog := prog) (w := w) (Lr := [(dl, lstS (foldS early.rows late.rows))]) (d := 0) (a := ga) (C := C1) (f := fr) (cd := cr) (g := g1) B hint (.inl rfl) (intTo_int (t := t₁₀)) hfl (givesI_list (hasL_S (.head _)))
  rw [hone] at q1
  refine r_list_gives q1 hA ?_ S₁₆ (by omega) fun z s₁₇ S₁₇ => ?_
  · intro p hp
    rw [List.mem_singleton] at hp
    subst hp
    exact .tail _ (.tail _ (.tail _ (.head _)))
  refine Subscript_ ?_
  refine r_nameE S₁₇ (by walk_at "mem") (by walk_at "mn") ?_
  refine Subscript_ ?_
  refine r_nameE S₁₇ (by walk_at "mem") (by walk_at "mn") ?_
  refine r_int S₁₇ fun t₁₁ s₁₈ S₁₈ => ?_
  refine r_itemV S₁₈ (.tail _ (.tail _ (.tail _ (.tail _ (.tail _ mep))))) (by decide) (by decide) (v := .int early.i early.ti) rfl ?_
  refine r_itemV S₁₈ (.tail _ (.tail _ (.head _))) (by omega) (by omega) (v := .ref a1) (by rw [Int.toNat_natCast, List.getElem?_map, ha1]; rfl) ?_
  have hok1 : OkS y1 := fun z hz => (hty1.2 z hz).2
  have hok2 : OkS y2 := fun z hz => (hty2.2 z hz).2
  refine r_neLS S₁₈ (.head _) (.tail _ (.tail _ (.tail _ (.tail _ (.tail _ ma1))))) hok1 hok1 hu ?_
  refine wpAny_truthy_bool ?_
  rw [if_neg (by simp)]
  replace S₁₈ := S₁₈.sub (List.sublist_cons_self _ _)
  refine wpAny_execs_nil ?_
  refine then_next ?_
  -- the new text
  refine r_seq ?_
  conv in wAt 5 => whnf
  refine wpAny_If ?_
  refine wpAny_isTrue_Compare1 ?_ (by kernel_rfl)
  refine r_callT1 (T := "list") B S₁₈ (by decide +kernel) ?_ (hfree := hls)
  refine r_callD2 B Fr S₁₈ ?_
  refine r_nameE S₁₈ (by walk_at "mem") (by walk_at "mn") ?_
  refine r_str S₁₈ fun t₁₂ s₁₉ S₁₉ => ?_
  refine ⟨⟨_, _, S₁₉⟩, ?_⟩
  refine r_restore B Fr S₁₉ hroom fun gb C2 g2 s₂₀ S₂₀ => ?_
  have q2 := gives_fresh (prog := prog) (w := w) (Lr := [(dl, lstS (foldS early.rows late.rows))]) (d := 0) (a := gb) (C := C2) (f := fr) (cd := cr) (g := g2) B hint (.inr rfl) (intTo_two (t := t₁₂)) hfl (givesI_list (hasL_S (.head _)))
  rw [htwo] at q2
  refine r_list_gives q2 hA ?_ S₂₀ (by omega) fun z s₂₁ S₂₁ => ?_
  · intro p hp
    rw [List.mem_singleton] at hp
    subst hp
    exact .tail _ (.tail _ (.tail _ (.head _)))
  refine Subscript_ ?_
  refine r_nameE S₂₁ (by walk_at "mem") (by walk_at "mn") ?_
  refine Subscript_ ?_
  refine r_nameE S₂₁ (by walk_at "mem") (by walk_at "mn") ?_
  refine r_int S₂₁ fun t₁₃ s₂₂ S₂₂ => ?_
  refine r_itemV S₂₂ (.tail _ (.tail _ (.tail _ (.tail _ (.tail _ mlp))))) (by decide) (by decide) (v := .int late.j late.tj) rfl ?_
  refine r_itemV S₂₂ (.tail _ (.tail _ (.head _))) (by omega) (by omega) (v := .ref a2) (by rw [Int.toNat_natCast, List.getElem?_map, ha2]; rfl) ?_
  refine r_neLS S₂₂ (.head _) (.tail _ (.tail _ (.tail _ (.tail _ (.tail _ ma2))))) hok2 hok2 hu ?_
  refine wpAny_truthy_bool ?_
  rw [if_neg (by simp)]
  replace S₂₂ := S₂₂.sub (List.sublist_cons_self _ _)
  refine wpAny_execs_nil ?_
  refine then_next ?_
  -- back on the pile
  refine r_seq ?_
  conv in wAt 6 => whnf
  refine r_stmtE ?_
  refine r_methV (b := b) F.slot_list_append F.type_list_append ?_
  refine r_nameE S₂₂ (by walk_at "mem") (by walk_at "mn") ?_
  refine ⟨_, _, _, _, rfl, S₂₂, .tail _ (.tail _ (.head _)), ?_⟩
  refine r_appV (b := b) (vs := pileV rest) ?_
  refine r_list3V (b := b) ?_
  refine Subscript_ ?_
  refine r_nameE S₂₂ (by walk_at "mem") (by walk_at "mn") ?_
  refine r_int S₂₂ fun t₁₄ s₂₃ S₂₃ => ?_
  refine r_itemV S₂₃ (.tail _ (.tail _ (.tail _ (.tail _ mep)))) (by decide) (by decide) (v := .int early.i early.ti) rfl ?_
  refine Subscript_ ?_
  refine r_nameE S₂₃ (by walk_at "mem") (by walk_at "mn") ?_
  refine r_int S₂₃ fun t₁₅ s₂₄ S₂₄ => ?_
  refine r_itemV S₂₄ (.tail _ (.tail _ (.tail _ (.tail _ mlp)))) (by decide) (by decide) (v := .int late.j late.tj) rfl ?_
  refine r_nameE S₂₄ (by walk_at "mem") (by walk_at "mn") ?_
  refine ⟨_, _, S₂₄, fun pn s₂₅ S₂₅ => ?_⟩
  refine ⟨_, _, _, S₂₅, .tail _ (.tail _ (.tail _ (.head _))), .tail (.tail (.tail .head)), by rw [pileV_len]; simp only [List.length_cons] at hsl; omega, fun s₂₆ S₂₆ => ⟨rfl, ?_⟩⟩
  refine then_next ?_
  refine wpAny_execs_nil ?_
  refine turn_next ?_
  replace S₂₆ := S₂₆.perm (front3 _ _ _ _ _)
  have S₂₇ := S₂₆.less (.head _) .head fun o ho => fw_sub (r := [_, _, _]) ho
  refine ⟨_, ?_, ⟨pn, dl, early.i, late.j, early.ti, late.tj, foldS early.rows late.rows⟩ :: rest, (pn, _) :: (dl, _) :: Z₁, _, rfl, ⟨hlj, ⟨?_, ?_, hfg⟩, hrest⟩, ?_, ?_, ?_, by rw [pileV_cons]; exact S₂₇⟩
  · simp only [List.length_cons]; omega
  · rw [hone]; exact hx1
  · rw [htwo]; exact hx2
  · unfold sumL at hsm ⊢; simp only [List.map_cons, List.sum_cons]; omega
  · simp only [List.length_cons] at hsl ⊢; omega
  · refine ⟨.tail _ (.tail _ hZ.kn), fun i a y h1 h2 => .tail _ (.tail _ (hZ.tx i a y h1 h2)), fun e he => ?_⟩
    rcases List.mem_cons.mp he with rfl | he
    · exact ⟨.head _, .tail _ (.head _)⟩
    · obtain ⟨m1, m2⟩ := hZ.st e (.tail _ (.tail _ he))
      exact ⟨.tail _ (.tail _ m1), .tail _ (.tail _ m2)⟩
end
end Mine

-- part L4c
open PySem PySem.W PySem.W.X PyProof.Rows PySem.Calls PySem.Spec PySem.SeqAt
set_option Elab.async false
set_option maxRecDepth 100000
set_option maxHeartbeats 400000
set_option linter.all false
namespace Mine

local macro_rules | `(tactic| walk_at "mem") => `(tactic| first | assumption | exact List.Mem.head _ | (refine List.Mem.tail _ ?_; walk_at "mem") | (refine List.mem_append_right _ ?_; walk_at "mem"))
local macro_rules | `(tactic| walk_at "mn") => `(tactic| first | with_reducible exact List.mem_cons_self | ((with_reducible refine List.mem_cons_of_mem _ ?_); walk_at "mn"))
local macro_rules | `(tactic| walk_at "upd") => `(tactic| first | exact Upd.head | ((with_reducible apply Upd.tail); walk_at "upd"))
local macro_rules | `(tactic| walk_at "set") => `(tactic| first | with_reducible exact SetN.nil | ((with_reducible refine SetN.hit ?_); kernel_rfl) | ((with_reducible apply SetN.skip); kernel_rfl; walk_at "set"))

theorem EntOk.more {tx : List (List Str)} {e : Ent} (h : EntOk tx e) (y : List Str) : EntOk (tx ++ [y]) e :=
  ⟨by rw [List.getElem?_append_left (List.getElem?_eq_some_iff.mp h.one).1]; exact h.one, by rw [List.getElem?_append_left (List.getElem?_eq_some_iff.mp h.two).1]; exact h.two, h.good⟩
theorem Stack.more {tx : List (List Str)} (y : List Str) : ∀ {st : List Ent} {j : Nat}, Stack tx st j → Stack (tx ++ [y]) st j
  | [], _, _ => trivial
  | _ :: _, _, ⟨h1, h2, h3⟩ => ⟨h1, h2.more y, Stack.more y h3⟩

/-- what holds between two steps -/
structure Mid (n : Nat) (as : List Addr) (tx : List (List Str)) (st : List Ent) : Prop where
  al : as.length = n + 1
  tl : tx.length = n + 1
  txs : ∀ y ∈ tx, y.length ≤ 3 + n ∧ ∀ z ∈ y, Good 3 z
  stk : Stack tx st n
  sum : sumL st ≤ 200 * n
  sl : st.length ≤ n

section
variable {prog : Program} {w : World} {A : Around} {E : Value → Shared → Prop} {b s : Shared} {Z X : Ledger} {G : GLedger} {mg mb : Str → Option Value} {names : List Str} {Q : Flow → Shared → Prop} {C f : Addr} {cd : Value} {l kn T P : Addr}

theorem fa_sub {l kn T P : Addr} {r : List (Str × VP)} {o : Obj} (h : frC (fa l kn T P ++ r) o) : frC (fa l kn T P) o := frC_sub (fun q hq => List.mem_append_left _ hq) h

/-- one step of the script -/
theorem w_step (B : Bs b mg mb names) (hln : ("len" : Str) ∉ names) (hls : ("list" : Str) ∉ names) (hint : ("int" : Str) ∉ names) (hmin : ("min" : Str) ∉ names) {fr fd ff : Addr} {cr cdl cf : Value} (Fr : FnAt b mg fr "restore" rParams rBody rScope cr) (Fd : FnAt b mg fd "_law_delta" dParams dBody dScope cdl) (Ff : FnAt b mg ff "_law_fold" fParams fBody fScope cf)
    (hA : Ar A 1) (hu : A.units + 64 < cLine) (hp : ∀ s, (∀ a o, b.heap.get? a = some o → s.heap.get? a = some o) → PylongRoom (model prog w) A s)
    {vs : List Value} {ns : List Int} (hL : b.heap.IsList l vs.toArray) (hI : IntsAre vs ns) (hlen : ns.length ≤ 63)
    {n : Nat} (hn : n < 66) {as : List Addr} {tx : List (List Str)} {st : List Ent} (M : Mid n as tx st) (hZ : Zok Z kn as tx st) {x : Int}
    (S : St b s ((C, frC (fa l kn T P ++ [(("x" : Str), vI x)])) :: (T, lstV (as.map .ref)) :: (P, lstV (pileV st)) :: (Z ++ X)) G)
    (h : ∀ as tx st Z₁ s', Mid (n + 1) as tx st → Zok (Z₁ ++ Z) kn as tx st → St b s' ((C, frC (fa l kn T P)) :: (T, lstV (as.map .ref)) :: (P, lstV (pileV st)) :: (Z₁ ++ Z ++ X)) G → Q .next s') :
    wpAny (model prog w) A (execs tBody (lEnv C f cd)) Q NoE s := by
  rw [tBody_eq]
  have h9 : sizeLine = 16777216 := by decide
  simp only [List.cons_append, List.nil_append] at S
  obtain ⟨a0, ha0⟩ : ∃ a, as[n]? = some a := ⟨_, List.getElem?_eq_getElem (by rw [M.al]; omega)⟩
  obtain ⟨old, hold⟩ : ∃ y, tx[n]? = some y := ⟨_, List.getElem?_eq_getElem (by rw [M.tl]; omega)⟩
  have hZX := hZ.wide X
  have mo := hZX.tx _ _ _ ha0 hold
  obtain ⟨ho1, ho2⟩ := M.txs old (List.mem_of_getElem? hold)
  have al := M.al
  have tl := M.tl
  have sl := M.sl
  have sm := M.sum
  -- old = texts[-1]
  refine r_seq ?_
  conv in tAt 0 => whnf
  refine wpAny_Assign_Name ?_ (by kernel_rfl)
  refine Subscript_ ?_
  refine r_nameE S (by walk_at "mem") (by walk_at "mn") ?_
  refine wpAny_UnaryOp ?_
  refine r_int S fun t₁ s₁ S₁ => ?_
  refine r_usub S₁ fun t₂ s₂ S₂ => ?_
  refine r_itemVneg S₂ (by walk_at "mem") (by decide) (by rw [List.length_map, al]; omega) (by decide) (v := .ref a0) (by
    rw [List.length_map, al, show (-1 + ((n + 1 : Nat) : Int)).toNat = n by omega, List.getElem?_map, ha0]; rfl) ?_
  refine r_store (P := vE (.ref a0)) S₂ (by walk_at "mem") rfl (by walk_at "set") (by walk_at "upd") fun s₃ S₃ => ?_
  refine then_next ?_
  -- rest = x // 4
  refine r_seq ?_
  conv in tAt 1 => whnf
  refine wpAny_Assign_Name ?_ (by kernel_rfl)
  refine wpAny_BinOp ?_
  refine r_nameI S₃ (by walk_at "mem") (by walk_at "mn") fun t₃ => ?_
  refine r_int S₃ fun t₄ s₄ S₄ => ?_
  refine r_fdiv S₄ (by decide) (hp _ S₄.keep) fun t₅ s₅ S₅ => ?_
  refine r_store (P := vI (x.fdiv 4)) S₅ (by walk_at "mem") ⟨_, rfl⟩ (by walk_at "set") (by walk_at "upd") fun s₆ S₆ => ?_
  refine then_next ?_
  -- at = rest % (len(old) + 1)
  refine r_seq ?_
  conv in tAt 2 => whnf
  refine wpAny_Assign_Name ?_ (by kernel_rfl)
  refine wpAny_BinOp ?_
  refine r_nameI S₆ (by walk_at "mem") (by walk_at "mn") fun t₆ => ?_
  refine wpAny_BinOp ?_
  refine r_callB1 (id := "len") B S₆ (by decide +kernel) ?_ (hfree := hln)
  refine r_nameE S₆ (by walk_at "mem") (by walk_at "mn") ?_
  refine r_lenS S₆ (.tail _ (.tail _ (.tail _ mo))) (by omega) fun t₇ s₇ S₇ => ?_
  refine r_int S₇ fun t₈ s₈ S₈ => ?_
  refine r_add S₈ fun t₉ s₉ S₉ => ?_
  refine r_mod S₉ (by omega) fun t₁₀ s₁₀ S₁₀ => ?_
  obtain ⟨hk0, hk1⟩ := fmod_range (x.fdiv 4) (m := (old.length : Int) + 1) (by omega)
  obtain ⟨k, hk⟩ : ∃ k : Nat, (x.fdiv 4).fmod ((old.length : Int) + 1) = (k : Int) := ⟨_, (Int.toNat_of_nonneg hk0).symm⟩
  rw [hk] at hk1 ⊢
  refine r_store (P := vI (k : Int)) S₁₀ (by walk_at "mem") ⟨_, rfl⟩ (by walk_at "set") (by walk_at "upd") fun s₁₁ S₁₁ => ?_
  refine then_next ?_
  -- new
  refine r_seq ?_
  refine w_new (by omega) (by omega) ho2 (.tail _ (.tail _ mo)) (.tail _ (.tail _ hZX.kn)) S₁₁ fun nw new s₁₂ hnl hng S₁₂ => ?_
  refine then_next ?_
  replace S₁₂ := S₁₂.perm (.cons _ (List.perm_middle (l₁ := [(T, lstV (as.map .ref)), (P, lstV (pileV st))])))
  -- the pile
  refine r_seq ?_
  conv in tAt 4 => whnf
  refine r_stmtE ?_
  refine r_methV (b := b) F.slot_list_append F.type_list_append ?_
  refine r_nameE S₁₂ (by walk_at "mem") (by walk_at "mn") ?_
  refine ⟨_, _, _, _, rfl, S₁₂, .tail _ (.tail _ (.head _)), ?_⟩
  refine r_appV (b := b) (vs := pileV st) ?_
  refine r_list3V (b := b) ?_
  refine wpAny_BinOp ?_
  refine r_callB1 (id := "len") B S₁₂ (by decide +kernel) ?_ (hfree := hln)
  refine r_nameE S₁₂ (by walk_at "mem") (by walk_at "mn") ?_
  refine r_lenV S₁₂ (.tail _ (.head _)) (by rw [List.length_map]; omega) fun t₁₁ s₁₃ S₁₃ => ?_
  refine r_int S₁₃ fun t₁₂ s₁₄ S₁₄ => ?_
  refine r_sub S₁₄ fun t₁₃ s₁₅ S₁₅ => ?_
  refine r_callB1 (id := "len") B S₁₅ (by decide +kernel) ?_ (hfree := hln)
  refine r_nameE S₁₅ (by walk_at "mem") (by walk_at "mn") ?_
  refine r_lenV S₁₅ (.tail _ (.head _)) (by rw [List.length_map]; omega) fun t₁₄ s₁₆ S₁₆ => ?_
  refine r_callD2 B Fd S₁₆ ?_
  refine r_nameE S₁₆ (by walk_at "mem") (by walk_at "mn") ?_
  refine r_nameE S₁₆ (by walk_at "mem") (by walk_at "mn") ?_
  refine ⟨⟨_, _, S₁₆⟩, ?_⟩
  refine r_delta B hln hmin Fd hA (.tail _ (.tail _ (.tail _ (.tail _ mo)))) (.tail _ (.tail _ (.tail _ (.head _)))) (by omega) (fun z hz => by have := (ho2 z hz).1; omega) (fun z hz => by have := (hng z hz).1; omega) S₁₆ fun dl s₁₇ hh tt cm S₁₇ => ?_
  refine ⟨_, _, S₁₇, fun pn s₁₈ S₁₈ => ?_⟩
  refine ⟨_, _, _, S₁₈, .tail _ (.tail _ (.tail _ (.tail _ (.head _)))), .tail (.tail (.tail (.tail .head))), by rw [pileV_len]; omega, fun s₁₉ S₁₉ => ⟨rfl, ?_⟩⟩
  refine then_next ?_
  rw [List.length_map, al, show (((n + 1 : Nat) : Int) - 1) = (n : Int) by omega] at S₁₉
  have S₂₀ := S₁₉.perm (L' := (C, _) :: (T, _) :: (P, _) :: (pn, _) :: (dl, _) :: (nw, lstS new) :: (Z ++ X)) (by
    refine (front3 _ _ _ _ _).trans (.cons _ ?_)
    exact front3 _ _ _ _ _)
  -- texts
  refine r_seq ?_
  conv in tAt 5 => whnf
  refine r_stmtE ?_
  refine r_methV (b := b) F.slot_list_append F.type_list_append ?_
  refine r_nameE S₂₀ (by walk_at "mem") (by walk_at "mn") ?_
  refine ⟨_, _, _, _, rfl, S₂₀, .tail _ (.head _), ?_⟩
  refine r_appV (b := b) (vs := as.map .ref) ?_
  refine r_nameE S₂₀ (by walk_at "mem") (by walk_at "mn") ?_
  refine ⟨_, _, _, S₂₀, .tail _ (.head _), .tail .head, by rw [List.length_map]; omega, fun s₂₁ S₂₁ => ⟨rfl, ?_⟩⟩
  rw [show as.map Value.ref ++ [Value.ref nw] = (as ++ [nw]).map .ref by simp] at S₂₁
  refine then_next ?_
  -- folds = rest % 3
  refine r_seq ?_
  conv in tAt 6 => whnf
  refine wpAny_Assign_Name ?_ (by kernel_rfl)
  refine wpAny_BinOp ?_
  refine r_nameI S₂₁ (by walk_at "mem") (by walk_at "mn") fun t₁₅ => ?_
  refine r_int S₂₁ fun t₁₆ s₂₂ S₂₂ => ?_
  refine r_mod S₂₂ (by decide) fun t₁₇ s₂₃ S₂₃ => ?_
  refine r_store (P := vI ((x.fdiv 4).fmod 3)) S₂₃ (by walk_at "mem") ⟨_, rfl⟩ (by walk_at "set") (by walk_at "upd") fun s₂₄ S₂₄ => ?_
  refine then_next ?_
  -- the last step folds all
  have go : ∀ {s : Shared} {fo : Int}, St b s ((C, frC (fc l kn T P x a0 (x.fdiv 4) k nw ++ [(("folds" : Str), vI fo)])) :: (T, lstV ((as ++ [nw]).map .ref)) :: (P, lstV (pileV st ++ [.ref pn])) :: (pn, lstV [.int (n : Int) t₁₃, .int ((n + 1 : Nat) : Int) t₁₄, .ref dl]) :: (dl, lstS (delta4 old new hh tt)) :: (nw, lstS new) :: (Z ++ X)) G →
      wpAny (model prog w) A (execs [tAt 8] (lEnv C f cd)) Q NoE s := by
    intro s fo S
    have S' := S.less (P' := frC (fw l kn T P fo)) (.head _) .head fun o ho => frC_sub (fun q hq => by
      simp only [List.mem_cons, List.not_mem_nil, or_false] at hq
      rcases hq with rfl | rfl | rfl | rfl | rfl <;> simp) ho
    refine r_seq ?_
    have hdl := delta4_len cm
    refine w_folds (N := 200 * (n + 1)) (M := n + 1) (j := n + 1) (tx := tx ++ [new]) (as := as ++ [nw]) (st := ⟨pn, dl, n, n + 1, t₁₃, t₁₄, delta4 old new hh tt⟩ :: st) (Z := (pn, lstV [.int (n : Int) t₁₃, .int ((n + 1 : Nat) : Int) t₁₄, .ref dl]) :: (dl, lstS (delta4 old new hh tt)) :: (nw, lstS new) :: Z) (X := X)
      B hln hls hint Fr Ff hA hu (by simp [al, tl]) ?_ (by simp [tl]; omega) (by omega) (by omega) ⟨rfl, ⟨?_, ?_, delta4_good (by omega) ho2 hng⟩, M.stk.more new⟩ ?_ ?_ ?_ (by rw [pileV_cons]; exact S') fun st' Z₁ s' fo' h1 h2 h3 h4 S'' => ?_
    · intro y hy
      rcases List.mem_append.mp hy with hy | hy
      · have := M.txs y hy
        exact ⟨by omega, this.2⟩
      · rw [List.mem_singleton] at hy
        subst hy
        exact ⟨by omega, hng⟩
    · show (tx ++ [new])[n]? = _
      rw [List.getElem?_append_left (by omega), hold, delta4_one cm]
    · show (tx ++ [new])[n + 1]? = _
      rw [List.getElem?_append_right (by omega), tl, delta4_two cm]; simp
    · unfold sumL at sm ⊢
      simp only [List.map_cons, List.sum_cons]
      omega
    · simp only [List.length_cons]; omega
    · refine ⟨.tail _ (.tail _ (.tail _ hZ.kn)), fun i a y h1 h2 => ?_, fun e he => ?_⟩
      · by_cases hi : i < n + 1
        · rw [List.getElem?_append_left (by omega)] at h1 h2
          exact .tail _ (.tail _ (.tail _ (hZ.tx i a y h1 h2)))
        · rw [List.getElem?_append_right (by omega)] at h1 h2
          rw [al] at h1
          rw [tl] at h2
          have : i - (n + 1) = 0 := by
            cases hq : i - (n + 1) with
            | zero => rfl
            | succ m => rw [hq] at h1; simp at h1
          rw [this] at h1 h2
          simp only [List.getElem?_cons_zero, Option.some.injEq] at h1 h2
          subst h1 h2
          exact .tail _ (.tail _ (.head _))
      · rcases List.mem_cons.mp he with rfl | he
        · exact ⟨.head _, .tail _ (.head _)⟩
        · obtain ⟨m1, m2⟩ := hZ.st e he
          exact ⟨.tail _ (.tail _ (.tail _ m1)), .tail _ (.tail _ (.tail _ m2))⟩
    · refine then_next ?_
      refine wpAny_execs_nil ?_
      have S3 := S''.less (P' := frC (fa l kn T P)) (.head _) .head fun o ho => fa_sub (r := [_]) ho
      refine h (as ++ [nw]) (tx ++ [new]) st' (Z₁ ++ [(pn, lstV [.int (n : Int) t₁₃, .int ((n + 1 : Nat) : Int) t₁₄, .ref dl]), (dl, lstS (delta4 old new hh tt)), (nw, lstS new)]) s' ⟨by simp [al], by simp [tl], ?_, h1, h2, h3⟩ ?_ ?_
      · intro y hy
        rcases List.mem_append.mp hy with hy | hy
        · have := M.txs y hy
          exact ⟨by omega, this.2⟩
        · rw [List.mem_singleton] at hy
          subst hy
          exact ⟨by omega, hng⟩
      · simpa using h4
      · simpa using S3
  refine r_seq ?_
  conv in tAt 7 => whnf
  refine wpAny_If ?_
  refine wpAny_isTrue_Compare1 ?_ (by kernel_rfl)
  refine r_callB1 (id := "len") B S₂₄ (by decide +kernel) ?_ (hfree := hln)
  refine r_nameE S₂₄ (by walk_at "mem") (by walk_at "mn") ?_
  refine r_lenV S₂₄ (.tail _ (.head _)) (by rw [List.length_map, List.length_append]; show as.length + 1 ≤ _; omega) fun t₁₈ s₂₅ S₂₅ => ?_
  refine wpAny_BinOp ?_
  refine r_callB1 (id := "len") B S₂₅ (by decide +kernel) ?_ (hfree := hln)
  refine r_nameE S₂₅ (by walk_at "mem") (by walk_at "mn") ?_
  refine r_lenB S₂₅ hL (by rw [hI.length]; omega) fun t₁₉ s₂₆ S₂₆ => ?_
  refine r_int S₂₆ fun t₂₀ s₂₇ S₂₇ => ?_
  refine r_add S₂₇ fun t₂₁ s₂₈ S₂₈ => ?_
  refine r_eqI ?_
  refine wpAny_truthy_bool ?_
  split
  · refine r_seq ?_
    refine wpAny_Assign_Name ?_ (by kernel_rfl)
    refine r_callB1 (id := "len") B S₂₈ (by decide +kernel) ?_ (hfree := hln)
    refine r_nameE S₂₈ (by walk_at "mem") (by walk_at "mn") ?_
    refine r_lenV S₂₈ (.tail _ (.tail _ (.head _))) (by rw [List.length_append, pileV_len]; show _ + 1 ≤ _; omega) fun t₂₂ s₂₉ S₂₉ => ?_
    refine r_store (P := vI ((pileV st ++ [Value.ref pn]).length : Int)) S₂₉ (by walk_at "mem") ⟨_, rfl⟩ (by walk_at "set") (by walk_at "upd") fun s₃₀ S₃₀ => ?_
    refine then_next ?_
    refine wpAny_execs_nil ?_
    refine then_next ?_
    exact go S₃₀
  · refine wpAny_execs_nil ?_
    refine then_next ?_
    exact go S₂₈
end
end Mine

-- part HD04
open PySem PySem.W PyProof.Rows
set_option Elab.async false
namespace Mine
set_option maxRecDepth 100000
set_option maxHeartbeats 8000000
open_top hd for PySem.Challenge.rw_dm0050_04
end Mine

-- part L4d
open PySem PySem.W PySem.W.X PyProof.Rows PySem.Calls PySem.Spec PySem.SeqAt
set_option Elab.async false
set_option maxRecDepth 100000
set_option maxHeartbeats 4000000
set_option linter.all false
namespace Mine

local macro_rules | `(tactic| walk_at "mem") => `(tactic| first | assumption | exact List.Mem.head _ | (refine List.Mem.tail _ ?_; walk_at "mem") | (refine List.mem_append_right _ ?_; walk_at "mem"))
local macro_rules | `(tactic| walk_at "mn") => `(tactic| first | with_reducible exact List.mem_cons_self | ((with_reducible refine List.mem_cons_of_mem _ ?_); walk_at "mn"))
local macro_rules | `(tactic| walk_at "upd") => `(tactic| first | exact Upd.head | ((with_reducible apply Upd.tail); walk_at "upd"))
local macro_rules | `(tactic| walk_at "set") => `(tactic| first | with_reducible exact SetN.nil | ((with_reducible refine SetN.hit ?_); kernel_rfl) | ((with_reducible apply SetN.skip); kernel_rfl; walk_at "set"))

def text0 : List Str := ["a", "+ a", "- a"]
theorem text0_good : ∀ z ∈ text0, Good 3 z := by unfold Good; decide +kernel

theorem perm7 {α : Type} (c t p q r a k : α) : [c, t, p, q, r, a, k].Perm [q, r, p, t, a, k, c] :=
  (List.perm_append_comm (l₁ := [c]) (l₂ := [t, p, q, r, a, k])).trans ((perm_swap3 [t, p] [q, r] [a, k, c]).trans (.cons _ (.cons _ (.swap _ _ _))))

theorem law04 {w : World} {b : Shared} {mg mb : Str → Option Value} {names : List Str} {fr fd ff fl : Addr} {cr cdl cf cl : Value} {l : Addr} {vs : List Value} {ns : List Int} {Q E : Value → Shared → Prop} (B : Bs b mg mb names)
    (hn : ∀ x ∈ ([("len" : Str), "min", "list", "int"] : List Str), x ∉ names)
    (Fr : FnAt b mg fr "restore" rParams rBody rScope cr) (Fd : FnAt b mg fd "_law_delta" dParams dBody dScope cdl) (Ff : FnAt b mg ff "_law_fold" fParams fBody fScope cf) (Fl : FnAt b mg fl "law" lParams lBody lScope cl) (hN : b.heap.NoSeer)
    (hL : b.heap.IsList l vs.toArray) (hI : IntsAre vs ns) (hlen : ns.length ≤ 63) (S : St b b [] []) (h : ∀ s', St b s' [] [] → Q (.bool true) s') :
    wpAny (model PySem.Challenge.pw_dm0050_04 w) callerA (call (.ref fl) [.ref l]) Q E b := by
  have hln := hn "len" (.head _)
  have hmin := hn "min" (.tail _ (.head _))
  have hls := hn "list" (.tail _ (.tail _ (.head _)))
  have hin := hn "int" (.tail _ (.tail _ (.tail _ (.head _))))
  refine r_callDef [(("script" : Str), .ref l)] B Fl S (by decide +kernel) (fun pm doc => rfl) (locs rfl) (by intro p hp; rw [List.mem_singleton] at hp; subst hp; rfl) (fun C s₁ S₁ => ?_) rfl rfl rfl (by decide)
  have hA : Ar (callerA.deeper (lEnv C fl cl)) 1 := ⟨rfl, by show callerA.depth + 1 + 1 < recursionLimit; decide +kernel⟩
  have hp : ∀ s : Shared, (∀ a o, b.heap.get? a = some o → s.heap.get? a = some o) → PylongRoom (model PySem.Challenge.pw_dm0050_04 w) (callerA.deeper (lEnv C fl cl)) s := fun s hk =>
    PylongRoom.of (B.nolimit.keeps hk) (by show callerA.depth + 1 + Builtin.pylongFrames < recursionLimit; decide +kernel) (SeerAt.of (env := lEnv C fl cl) (l := []) (hN.keeps hk) rfl rfl rfl rfl rfl rfl)
  have hu : (callerA.deeper (lEnv C fl cl)).units + 64 < cLine := by show callerA.units + 3 + 64 < cLine; decide +kernel
  show wpAny _ (callerA.deeper (lEnv C fl cl)) (execs lBody (lEnv C fl cl)) _ _ _
  generalize callerA.deeper (lEnv C fl cl) = A at hA hp hu ⊢
  have h9 : sizeLine = 16777216 := by decide
  rw [lBody_eq]
  refine r_seq ?_
  conv in lAt 0 => whnf
  refine wpAny_Assign_Name ?_ (by kernel_rfl)
  refine r_listS kinds4 S₁ fun kn s₂ S₂ => ?_
  refine r_store (fl := [(("script" : Str), vE (.ref l))]) (P := vE (.ref kn)) S₂ (.tail _ (.head _)) rfl (by walk_at "set") (by walk_at "upd") fun s₃ S₃ => ?_
  refine then_next ?_
  refine r_seq ?_
  conv in lAt 1 => whnf
  refine wpAny_Assign_Name ?_ (by kernel_rfl)
  refine r_list1V (b := b) ?_
  refine r_listS text0 S₃ fun a0 s₄ S₄ => ?_
  refine ⟨_, _, S₄, fun T s₅ S₅ => ?_⟩
  refine r_store (P := vE (.ref T)) S₅ (by walk_at "mem") rfl (by walk_at "set") (by walk_at "upd") fun s₆ S₆ => ?_
  refine then_next ?_
  refine r_seq ?_
  conv in lAt 2 => whnf
  refine wpAny_Assign_Name ?_ (by kernel_rfl)
  refine r_list0V S₆ fun P s₇ S₇ => ?_
  refine r_store (P := vE (.ref P)) S₇ (by walk_at "mem") rfl (by walk_at "set") (by walk_at "upd") fun s₈ S₈ => ?_
  refine then_next ?_
  refine r_seq ?_
  conv in lAt 3 => whnf
  refine r_forj (b := b) ?_
  refine wpAny_BinOp ?_
  refine r_callT1 (T := "list") B S₈ (by decide +kernel) ?_ (hfree := hls)
  refine r_nameE S₈ (by walk_at "mem") (by walk_at "mn") ?_
  refine r_listI S₈ hL hI (by omega) fun q1 s₉ S₉ => ?_
  refine r_list3I (b := b) (i := 0) (j := 9) (k := 6) ?_
  refine r_int S₉ fun t₁ s₁₀ S₁₀ => ⟨⟨_, rfl⟩, ?_⟩
  refine r_int S₁₀ fun t₂ s₁₁ S₁₁ => ⟨⟨_, rfl⟩, ?_⟩
  refine r_int S₁₁ fun t₃ s₁₂ S₁₂ => ⟨⟨_, rfl⟩, ?_⟩
  refine ⟨_, _, S₁₂, fun q2 s₁₃ S₁₃ => ?_⟩
  refine r_addLI S₁₃ (by walk_at "mem") (by walk_at "mem") (by show _ + 3 ≤ _; omega) fun z s₁₄ S₁₄ => ?_
  have S₁₅ := S₁₄.perm (L' := (z, lstI (ns ++ [0, 9, 6])) :: (C, frC (fa l kn T P)) :: (T, lstV [.ref a0]) :: (P, lstV []) :: (q2, lstI [0, 9, 6]) :: (q1, lstI ns) :: (a0, lstS text0) :: [(kn, lstS kinds4)]) (by
    refine .cons _ ?_
    exact perm7 _ _ _ _ _ _ _)
  refine ⟨[(z, lstI (ns ++ [0, 9, 6]))], 0, (ns ++ [0, 9, 6]).map vI, [], (z, lstI (ns ++ [0, 9, 6])) :: (C, frC (fa l kn T P)) :: (T, lstV [.ref a0]) :: (P, lstV []) :: (q2, lstI [0, 9, 6]) :: (q1, lstI ns) :: (a0, lstS text0) :: [(kn, lstS kinds4)], [], [], [],
    fun pre F => ∃ as tx st Z, Mid pre.length as tx st ∧ Zok Z kn as tx st ∧ F = (z, lstI (ns ++ [0, 9, 6])) :: (C, frC (fa l kn T P)) :: (T, lstV (as.map .ref)) :: (P, lstV (pileV st)) :: Z,
    givesI_list (hasL_I (.head _)), hA.mono (by omega), S₁₅, ?_, ?_, ?_, ?_⟩
  · refine ⟨[a0], [text0], [], [(q2, lstI [0, 9, 6]), (q1, lstI ns), (a0, lstS text0), (kn, lstS kinds4)], ⟨rfl, rfl, ?_, trivial, Nat.le_refl _, Nat.le_refl _⟩, ⟨by walk_at "mem", fun i a y h1 h2 => ?_, fun e he => nomatch he⟩, rfl⟩
    · intro y hy
      rw [List.mem_singleton] at hy
      subst hy
      exact ⟨by decide, text0_good⟩
    · cases i with
      | zero =>
        simp only [List.getElem?_cons_zero, Option.some.injEq] at h1 h2
        subst h1 h2
        walk_at "mem"
      | succ i => simp at h1
  · rintro _ _ ⟨_, _, _, _, _, _, rfl⟩ p hp
    rw [List.mem_singleton] at hp
    subst hp
    exact .head _
  · rintro pre V r u F L₂ G₂ s e hu' ⟨as, tx, st, Z, M, hZ, rfl⟩ S
    obtain ⟨x, rfl⟩ : ∃ x, V = vI x := by
      have : V ∈ (ns ++ [0, 9, 6]).map vI := by rw [e]; simp
      obtain ⟨x, _, rfl⟩ := List.mem_map.mp this
      exact ⟨x, rfl⟩
    have hpl : pre.length < 66 := by
      have := congrArg List.length e
      simp only [List.length_map, List.length_append, List.length_cons, List.length_nil] at this
      omega
    simp only [List.cons_append] at S
    replace S := S.perm (front3 _ _ _ _ _)
    refine wpAny_assign_Name (r_store (P := vI x) S (by walk_at "mem") hu' (by walk_at "set") (by walk_at "upd") fun s₁ S₁ => ?_)
    have S₂ := S₁.perm (L' := (C, frC (fa l kn T P ++ [(("x" : Str), vI x)])) :: (T, lstV (as.map .ref)) :: (P, lstV (pileV st)) :: (Z ++ ((z, lstI (ns ++ [0, 9, 6])) :: (L₂ ++ [])))) (.cons _ (.cons _ (.cons _ List.perm_middle)))
    show wpAny _ _ (execs tBody (lEnv C fl cl)) _ _ _
    refine w_step B hln hls hin hmin Fr Fd Ff hA hu hp hL hI hlen hpl M hZ S₂ fun as' tx' st' Z₁ s' M' hZ' S' => ?_
    refine turn_next ?_
    refine ⟨_, ⟨as', tx', st', Z₁ ++ Z, by simpa using M', hZ', rfl⟩, S'.perm ?_⟩
    refine (front3 _ _ _ _ _).symm.trans (.cons _ (.cons _ (.cons _ ?_)))
    exact List.perm_middle.symm
  · rintro F s' ⟨_, _, _, _, _, _, rfl⟩ S'
    refine then_next ?_
    refine r_seq ?_
    conv in lAt 4 => whnf
    refine wpAny_Return_some ?_
    refine wpAny_Constant_bool ?_
    refine then_ret ?_
    exact h _ (S'.sub (List.nil_sublist _))

theorem holds : PySem.Challenge.rw_dm0050_04.Holds := hd (by
  k_fill
  intro w s₀ s₁ mg mb G Y fa o pm cd doc dV kV ho hd hcd hD hmg hg args vals as hpre hlay hrd hwl hlo
  refine Ground.open G ?_
  intro T B D TE TW
  wrow_args hpre hlay hrd hwl hlo
  rename_i hL _ _ _ hI _ hlen _
  obtain ⟨fr, cr, Fr⟩ := fnAt_of T (name := "restore") (params := rParams) (body := rBody) (scope := rScope) ⟨_, List.mem_of_getElem? (i := 0) rfl, rfl, rfl, rfl, rfl⟩
  obtain ⟨fd, cdl, Fd⟩ := fnAt_of T (name := "_law_delta") (params := dParams) (body := dBody) (scope := dScope) ⟨_, List.mem_of_getElem? (i := 1) rfl, rfl, rfl, rfl, rfl⟩
  obtain ⟨ff, cf, Ff⟩ := fnAt_of T (name := "_law_fold") (params := fParams) (body := fBody) (scope := fScope) ⟨_, List.mem_of_getElem? (i := 2) rfl, rfl, rfl, rfl, rfl⟩
  obtain ⟨fl, cl, Fl⟩ := fnAt_of T (name := "law") (params := lParams) (body := lBody) (scope := lScope) ⟨_, List.mem_of_getElem? (i := 3) rfl, rfl, rfl, rfl, rfl⟩
  obtain rfl : fl = fa := by
    have := Fl.at_.symm.trans hmg
    cases this; rfl
  refine law04 (bs_of T) (by decide +kernel) Fr Fd Ff Fl (T.seer (by decide +kernel)) hL hI (by omega) ?_ ?_
  · exact ⟨fun _ _ e => e, fun _ h => (nomatch h), List.Pairwise.nil, rfl, .of_eq hg, fun _ h => (nomatch h), List.Pairwise.nil⟩
  · intro s' S'
    exact ⟨.inl ⟨_, .bool true, [], rfl, fun _ => rfl, .bool true, by kernel_rfl, fun _ => ⟨List.Pairwise.nil, fun _ h => (nomatch h)⟩⟩, .of_keep S'.keep, S'.os, S'.bare⟩)
end Mine

open PySem PySem.W PyProof.Rows
theorem PySem.Challenge.cw_dm0050_04_holds : PySem.Challenge.rw_dm0050_04.Holds :=
  Mine.holds
