import PyProof.Rows.All
import Wide.All
import OpenK.AllK
import Wide.FinOn
import PySem.Challenge.RW_dm0050_03
-- part Lg
open PySem PySem.W PyProof.Rows PySem.Calls
set_option Elab.async false
namespace Mine

/-! the ledger: what the call has made, address by address, each with a word about the object there -/
abbrev Cell := Obj → Prop
abbrev Ledger := List (Addr × Cell)
abbrev GLedger := List (Nat × (GenState → Prop))

structure St (b s : Shared) (L : Ledger) (G : GLedger) : Prop where
  keep : ∀ a o, b.heap.get? a = some o → s.heap.get? a = some o
  own : ∀ p ∈ L, b.heap.get? p.1 = none ∧ ∃ o, s.heap.get? p.1 = some o ∧ p.2 o
  nodup : (L.map (·.1)).Nodup
  os : s.os = b.os
  bare : AllBare s.gens
  gens : ∀ p ∈ G, ∃ gs, s.gens[p.1]? = some gs ∧ p.2 gs
  gnodup : (G.map (·.1)).Nodup

inductive Upd {α β : Type} : List (α × β) → α → β → List (α × β) → Prop
  | head {a P P' r} : Upd ((a, P) :: r) a P' ((a, P') :: r)
  | tail {e a P' r r'} : Upd r a P' r' → Upd (e :: r) a P' (e :: r')

theorem Upd.keys {α β : Type} {L L' : List (α × β)} {a : α} {P' : β} (u : Upd L a P' L') : L'.map (·.1) = L.map (·.1) := by
  induction u with
  | head => rfl
  | tail _ ih => simp [ih]
theorem Upd.has {α β : Type} {L L' : List (α × β)} {a : α} {P' : β} (u : Upd L a P' L') : ∃ P, (a, P) ∈ L := by
  induction u with
  | head => exact ⟨_, .head _⟩
  | tail _ ih => exact let ⟨P, h⟩ := ih; ⟨P, .tail _ h⟩
theorem Upd.mem {α β : Type} {L L' : List (α × β)} {a : α} {P' : β} (u : Upd L a P' L') (hn : (L.map (·.1)).Nodup) : ∀ p ∈ L', p = (a, P') ∨ (p ∈ L ∧ p.1 ≠ a) := by
  induction u with
  | @head a P P' r =>
    intro p hp
    rcases List.mem_cons.mp hp with rfl | hp
    · exact .inl rfl
    · refine .inr ⟨.tail _ hp, fun e => ?_⟩
      have := (List.nodup_cons.mp hn).1
      exact this (List.mem_map.mpr ⟨p, hp, e⟩)
  | @tail e a P' r r' u ih =>
    intro p hp
    rcases List.mem_cons.mp hp with rfl | hp
    · by_cases h : p.1 = a
      · exfalso
        obtain ⟨P, hm⟩ := u.has
        exact (List.nodup_cons.mp hn).1 (List.mem_map.mpr ⟨_, hm, h.symm⟩)
      · exact .inr ⟨.head _, h⟩
    · rcases ih (List.nodup_cons.mp hn).2 p hp with h | ⟨h, h'⟩
      · exact .inl h
      · exact .inr ⟨.tail _ h, h'⟩

section
variable {b s s' : Shared} {L L' : Ledger} {G G' : GLedger}

theorem St.get (S : St b s L G) {a : Addr} {P : Cell} (h : (a, P) ∈ L) : ∃ o, s.heap.get? a = some o ∧ P o := (S.own _ h).2
theorem St.lt (S : St b s L G) {a : Addr} {P : Cell} (h : (a, P) ∈ L) : a < s.heap.objs.size := let ⟨_, e, _⟩ := S.get h; Heap.lt_size e

theorem St.keeps (S : St b s L G) (hk : ∀ a o, s.heap.get? a = some o → s'.heap.get? a = some o) (hg : s'.gens = s.gens := by rfl) (ho : s'.os = s.os := by rfl) : St b s' L G :=
  ⟨fun a o e => hk a o (S.keep a o e), fun p hp => ⟨(S.own p hp).1, let ⟨o, e, h⟩ := (S.own p hp).2; ⟨o, hk _ _ e, h⟩⟩, S.nodup, ho.trans S.os, hg ▸ S.bare, fun p hp => hg ▸ S.gens p hp, S.gnodup⟩

theorem St.new (S : St b s L G) {a : Addr} {o : Obj} {P : Cell} (hn : s.heap.get? a = none) (hk : ∀ a o, s.heap.get? a = some o → s'.heap.get? a = some o) (ha : s'.heap.get? a = some o) (hP : P o)
    (hg : s'.gens = s.gens := by rfl) (ho : s'.os = s.os := by rfl) : St b s' ((a, P) :: L) G := by
  have S' := S.keeps hk hg ho
  have hb : b.heap.get? a = none := by
    cases e : b.heap.get? a with
    | none => rfl
    | some o' => rw [S.keep _ _ e] at hn; cases hn
  refine ⟨S'.keep, fun p hp => ?_, ?_, S'.os, S'.bare, S'.gens, S'.gnodup⟩
  · rcases List.mem_cons.mp hp with rfl | hp
    · exact ⟨hb, o, ha, hP⟩
    · exact S'.own p hp
  · refine List.nodup_cons.mpr ⟨fun hm => ?_, S.nodup⟩
    obtain ⟨p, hp, rfl⟩ := List.mem_map.mp hm
    obtain ⟨_, o', e, _⟩ := S.own p hp
    rw [hn] at e; cases e

theorem heap_get_size (h : Heap) : h.get? h.objs.size = none := by
  cases e : h.get? h.objs.size with
  | none => rfl
  | some o => exact absurd (Heap.lt_size e) (Nat.lt_irrefl _)

theorem St.alloc (S : St b s L G) {o : Obj} {P : Cell} (hP : P o) (tk : Nat := s.toks) (hf : o.isFreed = false := by rfl) : St b { s with heap := s.heap.push o, toks := tk } ((s.heap.objs.size, P) :: L) G :=
  S.new (heap_get_size _) (fun _ _ e => Heap.get?_push_of_some _ e) (Heap.get?_push_size _ hf) hP

theorem St.sub (S : St b s L G) (h : L'.Sublist L) : St b s L' G :=
  ⟨S.keep, fun p hp => S.own p (h.subset hp), (h.map _).nodup S.nodup, S.os, S.bare, S.gens, S.gnodup⟩
theorem St.perm (S : St b s L G) (h : L'.Perm L) : St b s L' G :=
  ⟨S.keep, fun p hp => S.own p (h.subset hp), (h.map _).nodup_iff.mpr S.nodup, S.os, S.bare, S.gens, S.gnodup⟩
theorem St.gsub (S : St b s L G) (h : G'.Sublist G) : St b s L G' :=
  ⟨S.keep, S.own, S.nodup, S.os, S.bare, fun p hp => S.gens p (h.subset hp), (h.map _).nodup S.gnodup⟩

theorem St.set (S : St b s L G) {a : Addr} {P' : Cell} (u : Upd L a P' L') (ha : ∃ P, (a, P) ∈ L) {h' : Heap} (hs : Heap.ExtBut a s.heap h') {o : Obj} (hget : h'.get? a = some o) (hP : P' o) (tk : Nat := s.toks) :
    St b { s with heap := h', toks := tk } L' G := by
  obtain ⟨P, hm⟩ := ha
  have hb := (S.own _ hm).1
  refine ⟨fun c oc e => hs c oc (fun h => ?_) (S.keep c oc e), fun p hp => ?_, by rw [u.keys]; exact S.nodup, S.os, S.bare, S.gens, S.gnodup⟩
  · subst h; rw [hb] at e; cases e
  · rcases u.mem S.nodup p hp with rfl | ⟨h, hne⟩
    · exact ⟨hb, o, hget, hP⟩
    · obtain ⟨h1, op, e, hq⟩ := S.own p h
      exact ⟨h1, op, hs _ _ hne e, hq⟩


theorem St.weaken (S : St b s L G) {a : Addr} {P' : Cell} (u : Upd L a P' L') (hP : ∀ P o, (a, P) ∈ L → P o → P' o) : St b s L' G := by
  obtain ⟨P, hm⟩ := u.has
  obtain ⟨o, e, h⟩ := S.get hm
  exact S.set u ⟨P, hm⟩ (Heap.ExtBut.refl _ _) e (hP P o hm h)
end

/-! values, by what is known of them -/
abbrev VP := Value → Prop
def vE (v : Value) : VP := fun y => y = v
def vI (i : Int) : VP := fun y => ∃ t, y = .int i t
def vS (x : Str) : VP := fun y => ∃ t, y = .str x t

/-! a frame, by the names that are known in it -/
def frC (fl : List (Str × VP)) : Cell := fun o => ∃ es ep, o.data = .dict es ep ∧ StrKeys es ∧ ∀ p ∈ fl, ∃ v, nsFind es p.1 = some v ∧ p.2 v

theorem frC_ns {fl : List (Str × VP)} {h : Heap} {a : Addr} {o : Obj} (ho : h.get? a = some o) (hc : frC fl o) : ∃ m, h.Ns a m ∧ ∀ p ∈ fl, ∃ v, m p.1 = some v ∧ p.2 v :=
  let ⟨es, ep, hd, hk, hf⟩ := hc
  ⟨fun x => nsFind es x, ⟨o, es, ep, ho, hd, hk, fun _ => rfl⟩, hf⟩
theorem frC_of {fl : List (Str × VP)} {h : Heap} {a : Addr} {m : Str → Option Value} (hn : h.Ns a m) (hf : ∀ p ∈ fl, ∃ v, m p.1 = some v ∧ p.2 v) : ∃ o, h.get? a = some o ∧ frC fl o :=
  let ⟨o, es, ep, ho, hd, hk, hm⟩ := hn
  ⟨o, ho, es, ep, hd, hk, fun p hp => let ⟨v, e, hv⟩ := hf p hp; ⟨v, (hm _).trans e, hv⟩⟩

/-- a name stored -/
inductive SetN : List (Str × VP) → Str → VP → List (Str × VP) → Prop
  | nil {x P} : SetN [] x P [(x, P)]
  | hit {x P P' r} (h : (r.all fun p => !(p.1 == x)) = true) : SetN ((x, P) :: r) x P' ((x, P') :: r)
  | skip {y P x P' r r'} (h : (y == x) = false) : SetN r x P' r' → SetN ((y, P) :: r) x P' ((y, P) :: r')
theorem SetN.mem {fl fl' : List (Str × VP)} {x : Str} {P' : VP} (u : SetN fl x P' fl') : ∀ p ∈ fl', p = (x, P') ∨ (p ∈ fl ∧ p.1 ≠ x) := by
  induction u with
  | nil => intro p hp; exact .inl (List.mem_singleton.mp hp)
  | @hit x P P' r h =>
    intro p hp
    rcases List.mem_cons.mp hp with rfl | hp
    · exact .inl rfl
    · refine .inr ⟨.tail _ hp, fun e => ?_⟩
      have := List.all_eq_true.mp h p hp
      simp [e] at this
  | @skip y P₀ x P' r r' h u ih =>
    intro p hp
    rcases List.mem_cons.mp hp with rfl | hp
    · exact .inr ⟨.head _, by simpa using h⟩
    · rcases ih p hp with h | ⟨h, h'⟩
      · exact .inl h
      · exact .inr ⟨.tail _ h, h'⟩

section
variable {prog : Program} {w : World} {A : Around} {E : Value → Shared → Prop} {b s : Shared} {L L' : Ledger} {G : GLedger} {env : Env}

theorem r_load {x : Str} {fl : List (Str × VP)} {P : VP} {Q : Value → Shared → Prop} (S : St b s L G) (hf : (env.locals, frC fl) ∈ L) (hx : (x, P) ∈ fl) (h : ∀ v, P v → Q v s)
    (hk : env.scope.kind = .function := by kernel_rfl) (hl : env.kindOf x = some .local := by kernel_rfl) : wpAny (model prog w) A (loadName env x) Q E s := by
  obtain ⟨o, ho, hc⟩ := S.get hf
  obtain ⟨m, hn, hm⟩ := frC_ns ho hc
  obtain ⟨v, e, hv⟩ := hm _ hx
  exact wpAny_loadName_local hk hl hn e (h v hv)

theorem r_store {x : Str} {fl fl' : List (Str × VP)} {v : Value} {P : VP} {Q : Unit → Shared → Prop} (S : St b s L G) (hf : (env.locals, frC fl) ∈ L) (hv : P v) (hs : SetN fl x P fl') (hu : Upd L env.locals (frC fl') L')
    (h : ∀ s', St b s' L' G → Q () s') (hl : env.kindOf x = some .local := by kernel_rfl)
    (hp : (env.scope.kind == .class || (env.scope.kind == .module && env.locals != env.globals)) = false := by kernel_rfl) : wpAny (model prog w) A (storeName env x v) Q E s := by
  obtain ⟨o, ho, hc⟩ := S.get hf
  obtain ⟨m, hn, hm⟩ := frC_ns ho hc
  refine wpAny_storeName_local hl hn (fun h' hn' hsb => ?_) hp
  obtain ⟨o', ho', hc'⟩ := frC_of (fl := fl') hn' (fun p hp => by
    rcases hs.mem p hp with rfl | ⟨hp', hne⟩
    · exact ⟨v, by simp, hv⟩
    · obtain ⟨u, e, hu⟩ := hm p hp'
      exact ⟨u, by simp [hne, e], hu⟩)
  exact h _ (S.set hu ⟨_, hf⟩ hsb.extBut ho' hc' _)
end
end Mine

-- part Lg2
open PySem PySem.W PyProof.Rows PySem.Calls
set_option Elab.async false
set_option maxRecDepth 100000
namespace Mine

/-- what is known of the heap ahead of the call -/
structure Bs (b : Shared) (mg mb : Str → Option Value) (names : List Str) : Prop where
  g : b.heap.Ns mainGlobals mg
  bn : b.heap.Ns builtinsNs mb
  nolimit : b.heap.NoLimit
  builtins : ∀ x : Str, x ≠ "__name__" → mb x = bootBuiltins x
  free : ∀ x : Str, x ∉ names → mg x = none

/-- a def of the text's, at its place -/
structure FnAt (b : Shared) (mg : Str → Option Value) (f : Addr) (name : Str) (params : Arguments) (body : List Stmt) (scope : Scope) (cd : Value) : Prop where
  at_ : mg name = some (.ref f)
  obj : ∃ o pm doc, b.heap.get? f = some o ∧ o.data = .func (docDef name params body scope pm cd doc)
  code : b.heap.CodeRec cd name

abbrev lstObj (vs : Array Value) (n : Nat) : Obj := { cls := .type "list", data := .seq vs n }
abbrev tupObj (vs : Array Value) (n : Nat) : Obj := { cls := .type "tuple", data := .seq vs n }
def lstV (vs : List Value) : Cell := fun o => ∃ n, o = lstObj vs.toArray n
def tupV (vs : List Value) : Cell := fun o => ∃ n, o = tupObj vs.toArray n
def tupS (ys : List Str) : Cell := fun o => ∃ vs n, o = tupObj vs n ∧ StrsAre vs.toList ys
def lstS (ys : List Str) : Cell := fun o => ∃ vs n, o = lstObj vs n ∧ StrsAre vs.toList ys
theorem lst_push {vs : Array Value} {n : Nat} (f : Array Value → Array Value) : ∃ n', (lstObj vs n).mapSeq f = lstObj (f vs) n' := ⟨_, rfl⟩

section
variable {prog : Program} {w : World} {A : Around} {E : Value → Shared → Prop} {b s : Shared} {L L' : Ledger} {G : GLedger} {env : Env} {mg mb : Str → Option Value} {names : List Str}

theorem St.push (S : St b s L G) (o : Obj) (tk : Nat) : St b { s with heap := s.heap.push o, toks := tk } L G := S.keeps fun _ _ e => Heap.get?_push_of_some _ e
theorem St.toks (S : St b s L G) (tk : Nat) : St b { s with toks := tk } L G := S.keeps fun _ _ e => e
theorem St.tup (S : St b s L G) {a : Addr} {ys : List Str} (h : (a, tupS ys) ∈ L) : ∃ vs, IsTup s.heap a vs ∧ StrsAre vs.toList ys :=
  let ⟨_, e, vs, n, ho, hs⟩ := S.get h; ⟨vs, ⟨_, ho ▸ e, rfl, n, rfl⟩, hs⟩
theorem St.lst (S : St b s L G) {a : Addr} {ys : List Str} (h : (a, lstS ys) ∈ L) : ∃ vs, s.heap.IsList a vs ∧ StrsAre vs.toList ys :=
  let ⟨_, e, vs, n, ho, hs⟩ := S.get h; ⟨vs, ⟨_, ho ▸ e, rfl, n, rfl⟩, hs⟩
theorem St.lstv (S : St b s L G) {a : Addr} {vs : List Value} (h : (a, lstV vs) ∈ L) : s.heap.IsList a vs.toArray :=
  let ⟨_, e, n, ho⟩ := S.get h; ⟨_, ho ▸ e, rfl, n, rfl⟩

theorem r_name {x : Str} {pos : Pos} {fl : List (Str × VP)} {P : VP} {Q : Value → Shared → Prop} (S : St b s L G) (hf : (env.locals, frC fl) ∈ L) (hx : (x, P) ∈ fl) (h : ∀ v, P v → Q v s)
    (hk : env.scope.kind = .function := by kernel_rfl) (hl : env.kindOf x = some .local := by kernel_rfl) (hd : (x == ("__debug__" : Str)) = false := by decide) :
    wpAny (model prog w) A (eval (.Name x pos) env) Q E s := wpAny_Name (r_load S hf hx h hk hl) hd
theorem r_bname {x : Str} {pos : Pos} {v : Value} {Q : Value → Shared → Prop} (B : Bs b mg mb names) (S : St b s L G) (hv : bootBuiltins x = some v) (h : Q v s)
    (hfree : x ∉ names := by decide) (hn : x ≠ "__name__" := by decide) (hg : env.globals = mainGlobals := by kernel_rfl) (hb : env.builtins = builtinsNs := by kernel_rfl)
    (hk : env.scope.kind = .function := by kernel_rfl) (hx : env.kindOf x = some .globalImplicit := by kernel_rfl) (hd : (x == ("__debug__" : Str)) = false := by decide) :
    wpAny (model prog w) A (eval (.Name x pos) env) Q E s :=
  Name_function_global hk hx (loadGlobal_builtin (hg ▸ B.g.keeps S.keep) (B.free x hfree) (hb ▸ B.bn.keeps S.keep) ((B.builtins x hn).trans hv) h) hd
theorem r_gname {x : Str} {pos : Pos} {v : Value} {Q : Value → Shared → Prop} (B : Bs b mg mb names) (S : St b s L G) (hv : mg x = some v) (h : Q v s)
    (hg : env.globals = mainGlobals := by kernel_rfl) (hk : env.scope.kind = .function := by kernel_rfl) (hx : env.kindOf x = some .globalImplicit := by kernel_rfl) (hd : (x == ("__debug__" : Str)) = false := by decide) :
    wpAny (model prog w) A (eval (.Name x pos) env) Q E s :=
  Name_function_global hk hx (loadGlobal_global (hg ▸ B.g.keeps S.keep) hv h) hd

theorem r_int {i : Int} {k : Nat} {pos : Pos} {Q : Value → Shared → Prop} (S : St b s L G) (h : ∀ t s', St b s' L G → Q (.int i t) s') : wpAny (model prog w) A (eval (.Constant (.int i) k pos) env) Q E s :=
  wpAny_Constant_int (h _ _ (S.toks _))
theorem r_str {x : Str} {k : Nat} {pos : Pos} {Q : Value → Shared → Prop} (S : St b s L G) (h : ∀ t s', St b s' L G → Q (.str x t) s') : wpAny (model prog w) A (eval (.Constant (.str x) k pos) env) Q E s :=
  Constant_str (h _ _ (S.toks _))

theorem r_newList {vs : List Value} {P : Cell} {Q : Value → Shared → Prop} (S : St b s L G) (hP : P (lstObj vs.toArray 0)) (h : ∀ a s', St b s' ((a, P) :: L) G → Q (.ref a) s') (hz : vs.length ≤ sizeLine := by first | decide | size_fits) :
    wpAny (model prog w) A (newList vs) Q E s :=
  wpAny_newObj_type (h _ _ (S.alloc hP)) (by show vs.toArray.size ≤ sizeLine; rw [List.size_toArray]; exact hz)
theorem r_newTuple {vs : List Value} {P : Cell} {Q : Value → Shared → Prop} (S : St b s L G) (hP : P (tupObj vs.toArray 0)) (h : ∀ a s', St b s' ((a, P) :: L) G → Q (.ref a) s') (hz : vs.length ≤ sizeLine := by first | decide | size_fits) :
    wpAny (model prog w) A (newTuple vs) Q E s :=
  wpAny_newObj_type (h _ _ (S.alloc hP)) (by show vs.toArray.size ≤ sizeLine; rw [List.size_toArray]; exact hz)
theorem lstV_mk {vs : List Value} : lstV vs (lstObj vs.toArray 0) := ⟨0, rfl⟩
theorem lstS_mk {vs : List Value} {ys : List Str} (hs : StrsAre vs ys) : lstS ys (lstObj vs.toArray 0) := ⟨_, 0, rfl, by simpa using hs⟩
theorem tupS_mk {vs : List Value} {ys : List Str} (hs : StrsAre vs ys) : tupS ys (tupObj vs.toArray 0) := ⟨_, 0, rfl, by simpa using hs⟩
theorem tupV_mk {vs : List Value} : tupV vs (tupObj vs.toArray 0) := ⟨0, rfl⟩

theorem r_slice_ns {value : Expr} {p pos : Pos} {upper : Expr} {Q : Value → Shared → Prop}
    (h : wpAny (model prog w) A (eval value env) (fun o s₁ => ∃ x t, o = .str x t ∧ x.length ≤ sizeLine ∧ wpAny (model prog w) A (eval upper env) (fun u s₂ => ∃ j tj, u = .int j tj ∧
      ∃ L G, St b s₂ L G ∧ ∀ s' t', St b s' L G → Q (.str (Txt.slice x none (some j)) t') s') E s₁) E s)
    (ht : ∀ o r, letTemporaryGo value o r = pure () := by intro _ _; rfl) :
    wpAny (model prog w) A (eval (.Subscript value (.Slice none (some upper) none p) pos) env) Q E s := by
  refine wpAny_Subscript_str_slice (wpAny_mono h (fun o s₁ h₁ => ?_) fun _ _ x => x) ht
  obtain ⟨x, t, rfl, hx, h₁⟩ := h₁
  refine wpAny_evalPart_none (wpAny_evalPart_some (wpAny_mono h₁ (fun u s₂ h₂ => ?_) fun _ _ x => x))
  obtain ⟨j, tj, rfl, L, G, S, hQ⟩ := h₂
  refine ⟨x, t, none, some (j, tj), rfl, rfl, rfl, ?_⟩
  exact post_val_or_str ⟨Nat.le_trans (Txt.slice_le x none (some j)) hx, fun t' k => hQ _ t' (S.push _ k)⟩
theorem r_slice_sn {value : Expr} {p pos : Pos} {lower : Expr} {Q : Value → Shared → Prop}
    (h : wpAny (model prog w) A (eval value env) (fun o s₁ => ∃ x t, o = .str x t ∧ x.length ≤ sizeLine ∧ wpAny (model prog w) A (eval lower env) (fun u s₂ => ∃ j tj, u = .int j tj ∧
      ∃ L G, St b s₂ L G ∧ ∀ s' t', St b s' L G → Q (.str (Txt.slice x (some j) none) t') s') E s₁) E s)
    (ht : ∀ o r, letTemporaryGo value o r = pure () := by intro _ _; rfl) :
    wpAny (model prog w) A (eval (.Subscript value (.Slice (some lower) none none p) pos) env) Q E s := by
  refine wpAny_Subscript_str_slice (wpAny_mono h (fun o s₁ h₁ => ?_) fun _ _ x => x) ht
  obtain ⟨x, t, rfl, hx, h₁⟩ := h₁
  refine wpAny_evalPart_some (wpAny_mono h₁ (fun u s₂ h₂ => ?_) fun _ _ x => x)
  obtain ⟨j, tj, rfl, L, G, S, hQ⟩ := h₂
  refine wpAny_evalPart_none ?_
  refine ⟨x, t, some (j, tj), none, rfl, rfl, rfl, ?_⟩
  exact post_val_or_str ⟨Nat.le_trans (Txt.slice_le x (some j) none) hx, fun t' k => hQ _ t' (S.push _ k)⟩
end
end Mine

-- part RG
open PySem PySem.W PySem.W.X PyProof.Rows PySem.Calls
set_option Elab.async false
set_option maxRecDepth 100000
namespace Mine

/-! the text's own parts, by their places -/
def rDef : Stmt := match PySem.Challenge.pw_dm0050_03.main.body with | _ :: d :: _ => d | _ => .Pass default
def rBody : List Stmt := match rDef with | .FunctionDef _ _ b .. => b | _ => []
def rScope : Scope := match rDef with | .FunctionDef _ _ _ _ _ _ sc .. => sc | _ => default
def rParams : Arguments := match rDef with | .FunctionDef _ a .. => a | _ => default
def rForS : Stmt := match rBody with | [_, _, f] => f | _ => .Pass default
def rTarget : Expr := match rForS with | .For t .. => t | _ => default
def rLoop : List Stmt := match rForS with | .For _ _ b .. => b | _ => []
def rTest : Expr := match rLoop with | [.If t ..] => t | _ => default
def rYield : Expr := match rLoop with | [.If _ [.Expr (.Yield (some e) _) _] ..] => e | _ => default

abbrev rEnv (C f : Addr) (cd : Value) : Env := envOf "restore" rScope C f cd
abbrev FL (it : Value) (env : Env) : Code := .forLoop rTarget it rLoop [] env

section
variable {prog : Program} {w : World} {A : Around} {s : Shared} {P : End → Shared → Prop} {c : Code} {fs : List Frame}

theorem sx_wrap {α : Type} {m : Sem α} {K : α → Sem Fin} {H : Value → Sem Fin} {gd lv}
    (h : wpAny (model prog w) (A.over c fs) m (fun a s' => SegX (model prog w) A c (K a) fs s' P) (fun x s' => SegX (model prog w) A c (H x) fs s' P) s) :
    SegX (model prog w) A c (m.wrap K H gd lv) fs s P := by
  rintro Γ p rfl hΓ
  obtain ⟨e, s', hr, hq⟩ := runs_wrap_of_wp (Φ := fun e s' => e.quiet = true ∧ P e s') K H gd lv m (h (Γ.over fs) p (hΓ.over fs)) (fun a p' s' h' => h' Γ p' rfl hΓ) (fun x p' s' h' => h' Γ p' rfl hΓ)
  exact ⟨e, s', hr, hq⟩
theorem sx_at {q : Pos} {k : Unit → Sem Fin} (h : SegX (model prog w) A c (k ()) fs s P) : SegX (model prog w) A c (.at q k) fs s P :=
  s_skim prog w A c fs P s (.at q k) 1 h
theorem sx_point {l : List Value} {k : Unit → Sem Fin} (h : SegX (model prog w) A c (k ()) fs s P) : SegX (model prog w) A c (.point l k) fs s P :=
  s_skim prog w A c fs P s (.point l k) 1 h
theorem bind_wrap {α β γ : Type} (m : Sem α) (f : α → Sem β) (K : β → Sem γ) (H : Value → Sem γ) (gd lv) : (m >>= f).wrap K H gd lv = m.wrap (fun a => (f a).wrap K H gd lv) H gd lv := by
  rw [Sem.bind_eq_wrap', Sem.wrap_wrap]; rfl
end

/-- the frame of the def under its loop -/
def fsR (env : Env) (p : Pos) : List Frame :=
  [.ret (fun r => ((match r with | .ok f => (.pure f : Sem Flow) | .error e => .raise e).onRaise fun (x : Value) => do
        if (← field x 1) == Value.none then unsupported "frame.own-activation:exception-without-traceback"
        setFlight x env.frame).wrap (fun (f : Flow) => match f with | .next => (execs [] env).wrap (fun (f : Flow) => .pure (.done (.ret (match f with | .ret v => v | _ => .none)))) (fun e => (leaving env e).wrap (fun _ => .raise e) .raise id id) id id | f => .pure (.done (.ret (match f with | .ret v => v | _ => .none))))
          (fun e => (leaving env e).wrap (fun _ => .raise e) .raise id id) id id) none false [] (.func rBody env) p []]

def AtLoop (it : Value) (env : Env) (gs : GenState) : Prop :=
  ∃ k l p p', gs = .suspended k l (FL it env) p (fsR env p') false ∧ k (.send .none) = .pure (.again (FL it env))

section
variable {prog : Program} {w : World} {A : Around} {s : Shared} {P : End → Shared → Prop} {env : Env}

theorem sx_done {c : Code} {p : Pos} (h : P (.ret (.ok (.ret .none))) s) : SegX (model prog w) A c (leafOf (.ok .next)) (fsR env p) s P := by
  refine s_pop _ _ _ _ _ _ s (.ok .next) _ rfl _ _ _ _ _ _ _ ?_
  exact s_end _ _ _ _ _ s (.ok (.ret .none)) _ rfl h

def rRaise (env : Env) (x : Value) : Sem Fin := (do noteFrame x env; theTreesLotGoes x : Sem Unit).bind fun _ => .raise x

theorem rLoop_eq : ∃ a b c, rLoop = [.If rTest [.Expr (.Yield (some rYield) a) b] [] c] := ⟨_, _, _, rfl⟩

/-- one turn of the loop -/
theorem sx_turn {it : Value} {p : Pos}
    (h : wpAny (model prog w) (A.over (FL it env) (fsR env p)) (pyNext it) (fun r s₁ => match r with
      | none => P (.ret (.ok (.ret .none))) s₁
      | some v => wpAny (model prog w) (A.over (FL it env) (fsR env p)) (assign rTarget env v) (fun _ s₂ =>
          wpAny (model prog w) (A.over (FL it env) (fsR env p)) (isTrue rTest env (eval rTest env)) (fun b s₃ =>
            if b = true then wpAny (model prog w) (A.over (FL it env) (fsR env p)) (eval rYield env) (fun y s₄ =>
                ∀ e : End, AtLoop it env e.genState → e.genState.bare = true → e.result = .yielded y → P e s₄)
                (fun x s₄ => SegX (model prog w) A (FL it env) (rRaise env x) (fsR env p) s₄ P) s₃
            else SegX (model prog w) A (FL it env) (.pure (.again (FL it env))) (fsR env p) s₃ P)
            (fun x s₃ => SegX (model prog w) A (FL it env) (rRaise env x) (fsR env p) s₃ P) s₂)
            (fun x s₂ => SegX (model prog w) A (FL it env) (rRaise env x) (fsR env p) s₂ P) s₁)
      (fun x s₁ => SegX (model prog w) A (FL it env) (rRaise env x) (fsR env p) s₁ P) s)
    (hco : env.scope.isCoroutine = false := by rfl) (hi : interactive env = false := by rfl) :
    SegX (model prog w) A (FL it env) (denote table (FL it env)) (fsR env p) s P := by
  show SegX _ A _ ((forTurn rTarget it rLoop [] env).onRaise (fun x => do noteFrame x env; theTreesLotGoes x)) _ s P
  unfold forTurn
  rw [Sem.onRaise_eq_wrap, bind_wrap]
  refine sx_wrap (wpAny_standAt ?_)
  rw [bind_wrap]
  refine sx_wrap (wpAny_onRaise (wpAny_mono h (fun r s₁ h₁ => ?_) fun x s₁ hx => wpAny_standAt hx))
  cases r with
  | none =>
    refine s_again _ _ _ _ _ _ s₁ _ rfl ?_
    exact sx_done h₁
  | some v =>
    show SegX _ A _ (Sem.wrap _ _ _ _ (letOwnedTupleGo rTarget it v >>= fun _ => (assign rTarget env v >>= fun _ => execs rLoop env >>= _))) _ _ _
    rw [bind_wrap]
    refine sx_wrap (wpAny_of_eq (a := ()) rfl ?_)
    rw [bind_wrap]
    refine sx_wrap (wpAny_mono h₁ (fun _ s₂ h₂ => ?_) fun _ _ x => x)
    rw [bind_wrap]
    obtain ⟨ya, yb, yc, hloop⟩ := rLoop_eq
    have hx : execs rLoop env = execs [.If rTest [.Expr (.Yield (some rYield) ya) yb] [] yc] env := by rw [hloop]
    rw [hx, execs_cons_wrap]
    show SegX _ A _ (Sem.wrap _ _ _ _ (standAt yc >>= fun _ => (isTrue rTest env (eval rTest env) >>= fun b => if b = true then execs [.Expr (.Yield (some rYield) ya) yb] env else execs [] env))) _ _ _
    rw [bind_wrap]
    refine sx_wrap (wpAny_standAt ?_)
    rw [bind_wrap]
    refine sx_wrap (wpAny_mono h₂ (fun bb s₃ h₃ => ?_) fun _ _ x => x)
    cases bb with
    | false => rw [if_neg Bool.false_ne_true] at h₃; exact h₃
    | true =>
      rw [if_pos rfl] at h₃
      rw [if_pos rfl, execs_cons_wrap, exec_Expr env _ yb hi rfl]
      show SegX _ A _ (.at yb fun _ => ((eval rYield env >>= fun v => (standAt ya >>= fun _ => yieldOut env v)) >>= fun x => dropValue (.Yield (some rYield) ya) yb x).wrap _ _ _ _) _ _ _
      have hy : ∀ v, yieldOut env v = yieldValue v := fun v => by simp only [yieldOut, hco, Bool.false_eq_true, if_false]
      simp only [hy]
      refine sx_at ?_
      rw [bind_wrap, bind_wrap]
      refine sx_wrap (wpAny_mono h₃ (fun y s₄ h₄ => ?_) fun _ _ x => x)
      refine sx_at (s_yield _ _ _ _ _ _ _ _ _ _ rfl rfl fun q => h₄ _ ?_ rfl rfl)
      refine ⟨_, _, _, p, rfl, ?_⟩
      rfl
end
end Mine

-- part RG2
open PySem PySem.W PySem.W.X PyProof.Rows PySem.Calls
set_option Elab.async false
set_option maxRecDepth 100000
namespace Mine

section
variable {prog : Program} {w : World} {A : Around} {E : Value → Shared → Prop} {b s : Shared} {L L' : Ledger} {G : GLedger} {env : Env}

theorem rg_test {C f tp : Addr} {cd : Value} {fl : List (Str × VP)} {x tag : Str} {Q : Bool → Shared → Prop} {whole : Sem Value} (S : St b s L G) (hf : (C, frC fl) ∈ L) (hl : (("line" : Str), vS x) ∈ fl) (hp : (("prefixes" : Str), vE (.ref tp)) ∈ fl)
    (ht : (tp, tupS ["  ", tag]) ∈ L) (hx : x.length ≤ sizeLine)
    (h : ∀ s', St b s' L G → Q (([("  " : Str), tag] : List Str).any (· == Txt.slice x none (some 2))) s') : wpAny (model prog w) A (isTrue rTest (rEnv C f cd) whole) Q E s := by
  refine wpAny_isTrue_Compare1 (r_slice_ns (b := b) (r_name S hf hl fun v hv => ?_))
  obtain ⟨t, rfl⟩ := hv
  refine ⟨x, t, rfl, hx, wpAny_Constant_int ⟨2, _, rfl, L, G, S.toks _, fun s₁ t' S₁ => ?_⟩⟩
  refine r_name S₁ hf hp fun v hv => ?_
  cases hv
  obtain ⟨vs, htup, hs⟩ := S₁.tup ht
  exact in_tuple_strs htup hs (wpAny_truthy_bool (h _ S₁))

theorem rg_yield {C f : Addr} {cd : Value} {fl : List (Str × VP)} {x : Str} {Q : Value → Shared → Prop} (S : St b s L G) (hf : (C, frC fl) ∈ L) (hl : (("line" : Str), vS x) ∈ fl) (hx : x.length ≤ sizeLine)
    (h : ∀ s' t', St b s' L G → Q (.str (Txt.slice x (some 2) none) t') s') : wpAny (model prog w) A (eval rYield (rEnv C f cd)) Q E s := by
  refine r_slice_sn (b := b) (r_name S hf hl fun v hv => ?_)
  obtain ⟨t, rfl⟩ := hv
  exact ⟨x, t, rfl, hx, wpAny_Constant_int ⟨2, _, rfl, L, G, S.toks _, fun s₁ t' S₁ => h s₁ t' S₁⟩⟩
end
end Mine

-- part RG3
open PySem PySem.W PySem.W.X PyProof.Rows PySem.Calls
set_option Elab.async false
set_option maxRecDepth 100000
namespace Mine

def WakeOf (gs : GenState) (c : Code) (t : Sem Fin) (fs : List Frame) : Prop :=
  (gs = .fresh c ∧ t = denote table c ∧ fs = []) ∨ (∃ k l p cl, gs = .suspended k l c p fs cl ∧ t = k (.send .none))

section
variable {prog : Program} {w : World} {A : Around} {E : Value → Shared → Prop} {s : Shared}

theorem WakeOf.not {gs : GenState} {c : Code} {t : Sem Fin} {fs : List Frame} (h : WakeOf gs c t fs) : gs.status = .fresh ∨ gs.status = .suspended := by
  rcases h with ⟨rfl, _⟩ | ⟨_, _, _, _, rfl, _⟩
  · exact .inl rfl
  · exact .inr rfl

/-- a generator woken -/
theorem g_wake {a : Addr} {g : Nat} {gs : GenState} {Q : Fin → Shared → Prop} {c₀ : Code} {t₀ : Sem Fin} {fs₀ : List Frame} (hl : s.heap.NoLimit) (hroom : A.depth < recursionLimit) (hg : s.heap.IsGen a g) (hgs : s.gens[g]? = some gs)
    (hw : WakeOf gs c₀ t₀ fs₀)
    (hgo : SegX (model prog w) A c₀ t₀ fs₀ (s.setGen g .running) (fun e s₁ => match e.result with
      | .yielded v => Q (.done (.ret v)) (s₁.setGen g e.genState)
      | .returned v => v = .none ∧ wpAny (model prog w) A (newExc (.type "StopIteration") [] >>= fun x => (raiseNew x : Sem Unit)) (fun _ _ => False) E (s₁.setGen g e.genState)
      | .raised x => wpAny (model prog w) A (Builtin.Generator.genLeft (.ref a) x) Q E (s₁.setGen g e.genState)
      | _ => False)) :
    wpAny (model prog w) A (Builtin.Generator.genWake (.ref a) (.send .none)) Q E s := by
  unfold Builtin.Generator.genWake
  refine wpAny_bind (wpAny_holding (wpAny_genNumber hg (wpAny_bind (wpAny_genState hgs ?_))))
  have key : wpAny (model prog w) A (resume g (.send .none) >>= fun x => match x with
      | .yielded v => ret v
      | .returned v => do
        if v == .none then raiseNew (← newExc (.type "StopIteration") [])
        rule "generator.return-value"; throw (← newExc (.type "StopIteration") [v])
      | .raised e => Builtin.Generator.genLeft (.ref a) e
      | .running => do rule "generator.already-executing"; raiseError "ValueError" "generator already executing"
      | .justStarted => do rule "generator.send-to-fresh"; raiseError "TypeError" "can't send non-None value to a just-started generator"
      | .finished => do raiseNew (← newExc (.type "StopIteration") [])) Q E s := by
    show wpAny (model prog w) A (.resume g (.send .none) [] _) Q E s
    have hgs' : (gs = .fresh c₀ ∧ (Resume.send .none) = .send .none ∧ t₀ = denote table c₀ ∧ fs₀ = []) ∨ (∃ k₀ l₀ p₀ cl, gs = .suspended k₀ l₀ c₀ p₀ fs₀ cl ∧ t₀ = k₀ (.send .none)) := by
      rcases hw with ⟨h1, h2, h3⟩ | h
      · exact .inl ⟨h1, rfl, h2, h3⟩
      · exact .inr h
    refine fun Γ p hΓ => wake_any Fin prog w hgs hgs' (fun Γ => Γ.In A) (fun _ h => h) (hgo.mono fun e s₁ h Γ p hC => ?_) Γ p hΓ
    revert h
    cases e.result with
    | yielded v => intro h; exact h
    | returned v =>
      rintro ⟨rfl, h⟩
      have h := h Γ p hC
      show Sem.wp (model prog w) Γ (newExc (.type "StopIteration") [] >>= fun x => raiseNew x >>= fun _ => _) _ _ p _
      rw [Sem.wp_bind'] at h ⊢
      refine Sem.wp_mono _ Γ _ (fun x p' s' h' => ?_) (fun _ _ _ h' => h') _ _ h
      rw [Sem.wp_bind']
      exact Sem.wp_mono _ Γ _ (fun _ _ _ h'' => h''.elim) (fun _ _ _ h' => h') _ _ h'
    | raised x => intro h; exact h Γ p hC
    | running => intro h; exact h.elim
    | justStarted => intro h; exact h.elim
    | finished => intro h; exact h.elim
  rcases hw.not with e | e
  · rw [e]
    exact wpAny_bind (wpAny_roomToWake hl hroom key)
  · rw [e]
    exact wpAny_bind (wpAny_roomToWake hl hroom key)
end
end Mine

-- part RG4
open PySem PySem.W PySem.W.X PyProof.Rows PySem.Calls
set_option Elab.async false
set_option maxRecDepth 100000
namespace Mine

/-- is the row of this side -/
def keepS (tag x : Str) : Bool := ([("  " : Str), tag] : List Str).any (· == Txt.slice x none (some 2))
/-- the row without its two first signs -/
def cutS (x : Str) : Str := Txt.slice x (some 2) none
def genC (g : Nat) : Cell := fun o => ∃ nm qn, o.cls = .type "generator" ∧ o.data = .fields #[.int g 0, nm, qn] ∧ o.slots = #[]

theorem SetN.here {fl fl' : List (Str × VP)} {x : Str} {P : VP} (u : SetN fl x P fl') : (x, P) ∈ fl' := by
  induction u with
  | nil => exact .head _
  | hit => exact .head _
  | skip _ _ ih => exact .tail _ ih
theorem Upd.here {α β : Type} {L L' : List (α × β)} {a : α} {P' : β} (u : Upd L a P' L') : (a, P') ∈ L' := by
  induction u with
  | head => exact .head _
  | tail _ ih => exact .tail _ ih

section
variable {b s : Shared} {L L' : Ledger} {G G' : GLedger}
theorem St.isGen (S : St b s L G) {a : Addr} {g : Nat} (h : (a, genC g) ∈ L) : s.heap.IsGen a g :=
  let ⟨o, e, nm, qn, h1, h2, h3⟩ := S.get h; ⟨o, nm, qn, e, h1, h2, h3⟩
theorem St.setGen (S : St b s L G) {g : Nat} {P' : GenState → Prop} {gs : GenState} (u : Upd G g P' G') (hP : P' gs) (hb : gs.bare = true) : St b (s.setGen g gs) L G' := by
  obtain ⟨P, hm⟩ := u.has
  obtain ⟨gs₀, hg, _⟩ := S.gens _ hm
  refine ⟨S.keep, S.own, S.nodup, S.os, ?_, fun p hp => ?_, by rw [u.keys]; exact S.gnodup⟩
  · intro x hx
    have hx' : x ∈ s.gens.setIfInBounds g gs := hx
    rcases Array.mem_or_eq_of_mem_setIfInBounds hx' with h | h
    · exact S.bare _ h
    · rw [h]; exact hb
  · rcases u.mem S.gnodup p hp with rfl | ⟨h, hne⟩
    · refine ⟨gs, ?_, hP⟩
      have hlt : g < s.gens.size := (Array.getElem?_eq_some_iff.mp hg).1
      simp [Shared.setGen, Array.getElem?_setIfInBounds, hlt]
    · obtain ⟨gs', e, hq⟩ := S.gens p h
      exact ⟨gs', by simp [Shared.setGen, Array.getElem?_setIfInBounds, Ne.symm hne, e], hq⟩
end

section
variable {prog : Program} {w : World} {A : Around} {b s : Shared}

/-- the reader's loop, over whatever source -/
theorem rg_loop {it : Value} {C f tp : Addr} {cd : Value} {p : Pos} {tag : Str} (J : Nat → Shared → Prop) {Pend : Shared → Prop} {Py : Value → Shared → Prop}
    (hnx : ∀ n s, J n s → wpAny (model prog w) (A.over (FL it (rEnv C f cd)) (fsR (rEnv C f cd) p)) (pyNext it) (fun r s₁ => match r with
      | none => Pend s₁
      | some v => ∃ x, vS x v ∧ x.length ≤ sizeLine ∧ ∃ L G fl fl' L', St b s₁ L G ∧ (C, frC fl) ∈ L ∧ SetN fl ("line" : Str) (vS x) fl' ∧ Upd L C (frC fl') L' ∧ (("prefixes" : Str), vE (.ref tp)) ∈ fl' ∧ (tp, tupS ["  ", tag]) ∈ L' ∧
          ∀ s₂, St b s₂ L' G → if keepS tag x = true then ∀ t' s₃, St b s₃ L' G → Py (.str (cutS x) t') s₃ else ∃ m, m < n ∧ J m s₂) (fun _ _ => False) s) :
    ∀ n s, J n s → SegX (model prog w) A (FL it (rEnv C f cd)) (denote table (FL it (rEnv C f cd))) (fsR (rEnv C f cd) p) s (fun e s₁ => match e.result with
      | .yielded v => AtLoop it (rEnv C f cd) e.genState ∧ e.genState.bare = true ∧ Py v s₁
      | .returned v => v = .none ∧ e.genState = .finished ∧ Pend s₁
      | _ => False) := by
  intro n
  induction n using Nat.strongRecOn with
  | ind n ih =>
    intro s hj
    refine sx_turn (wpAny_mono (hnx n s hj) (fun r s₁ h₁ => ?_) fun _ _ x => x.elim)
    cases r with
    | none => exact ⟨rfl, rfl, h₁⟩
    | some v =>
      obtain ⟨x, hv, hx, L, G, fl, fl', L', S, hC, hs, hu, hp, ht, h₂⟩ := h₁
      refine wpAny_assign_Name (r_store S hC hv hs hu fun s₂ S₂ => ?_)
      refine rg_test S₂ hu.here hs.here hp ht hx fun s₃ S₃ => ?_
      have h₃ := h₂ s₃ S₃
      cases hk : keepS tag x with
      | true =>
        rw [hk, if_pos rfl] at h₃
        rw [if_pos (show ([("  " : Str), tag] : List Str).any (· == Txt.slice x none (some 2)) = true from hk)]
        refine rg_yield S₃ hu.here hs.here hx fun s₄ t' S₄ e ha hb hr => ?_
        rw [hr]
        exact ⟨ha, hb, h₃ t' s₄ S₄⟩
      | false =>
        rw [hk, if_neg Bool.false_ne_true] at h₃
        rw [if_neg (by rw [show ([("  " : Str), tag] : List Str).any (· == Txt.slice x none (some 2)) = false from hk]; exact Bool.false_ne_true)]
        obtain ⟨m, hm, hj'⟩ := h₃
        exact s_again _ _ _ _ _ _ _ _ rfl (ih m hm s₃ hj')
end
end Mine

-- part RG5
open PySem PySem.W PySem.W.X PyProof.Rows PySem.Calls
set_option Elab.async false
set_option maxRecDepth 100000
namespace Mine

section
variable {prog : Program} {w : World} {A : Around} {E : Value → Shared → Prop} {s : Shared}

/-- a new StopIteration, raised where nothing is handled -/
theorem w_stop {α : Type} {Q : α → Shared → Prop} (hh : A.handled = none)
    (h : ∀ e h', ({ s with heap := h' } : Shared).TypeIs (.ref e) "StopIteration" → (∀ b o, s.heap.get? b = some o → h'.get? b = some o) → E (.ref e) { s with heap := h' }) :
    wpAny (model prog w) A (newExc (.type "StopIteration") [] >>= fun x => (raiseNew x : Sem α)) Q E s := by
  refine wpAny_bind ?_
  simp only [newExc, newTuple]
  refine wpAny_bind (wpAny_newObj_type ?_ (by size_fits))
  refine wpAny_bind (m := firstArgMember _ _) (wpAny_of_eq (a := Value.none) (by first | rfl | (simp only [firstArgMember]; rfl)) ?_)
  refine wpAny_newObj_type ?_ (by size_fits)
  simp only [raiseNew]
  refine wpAny_bind (wpAny_handled ?_)
  rw [hh]
  refine wpAny_bind (wpAny_pure (wpAny_throw ?_))
  exact h _ _ ⟨_, Heap.get?_push_size _ rfl, rfl⟩ fun b o hb => Heap.get?_push_of_some _ (Heap.get?_push_of_some _ hb)

/-- the next item of a generator -/
theorem r_pyNext_gen {a : Addr} {g : Nat} {gs : GenState} {Q : Option Value → Shared → Prop} {c₀ : Code} {t₀ : Sem Fin} {fs₀ : List Frame} (hh : A.handled = none) (hl : s.heap.NoLimit) (hroom : A.depth < recursionLimit)
    (hg : s.heap.IsGen a g) (hgs : s.gens[g]? = some gs) (hw : WakeOf gs c₀ t₀ fs₀)
    (hgo : SegX (model prog w) A.in1 c₀ t₀ fs₀ (s.setGen g .running) (fun e s₁ => match e.result with
      | .yielded v => Q (some v) (s₁.setGen g e.genState)
      | .returned v => v = .none ∧ ∀ h', (∀ b o, s₁.heap.get? b = some o → h'.get? b = some o) → Q none { s₁.setGen g e.genState with heap := h' }
      | .raised x => ∃ T : String, s₁.TypeIs x T ∧ isSubtype (.type T) (.type "StopIteration") = pure false ∧ s₁.heap.IsGen a g ∧ E x (s₁.setGen g e.genState)
      | _ => False)) :
    wpAny (model prog w) A (pyNext (.ref a)) Q E s := by
  unfold pyNext
  refine wpAny_bind (wpAny_attempt (wpAny_callSpecial?_slot (name := Str.ofString "__next__") hg.typeIs slot_gen_next
    (wpAny_call_entry slot_gen_next hg.typeIs entry_gen_next ?_ (args_gen_next _))))
  show wpAny _ A.in1 (Builtin.Generator.genWake (.ref a) (.send .none)) _ _ s
  refine g_wake hl hroom hg hgs hw (hgo.mono fun e s₁ h => ?_)
  revert h
  cases e.result with
  | yielded v => intro h; exact ⟨_, rfl, wpAny_pure h⟩
  | returned v =>
    rintro ⟨rfl, h⟩
    refine ⟨rfl, w_stop hh fun x h' hT hk => ?_⟩
    refine wpAny_bind (wpAny_isInstance (T := "StopIteration") (b := true) hT isSubtype_stop ?_)
    exact wpAny_pure (h h' hk)
  | raised x =>
    rintro ⟨T, hT, hs, hg', h⟩
    obtain ⟨o, nm, qn, ho, hc, hd, hsl⟩ := hg'
    show wpAny _ A.in1 (Builtin.Generator.genLeft (.ref a) x) _ _ _
    unfold Builtin.Generator.genLeft Builtin.Generator.madeByALambda
    refine wpAny_bind (wpAny_bind (wpAny_load (o := o) ho ?_))
    rw [hc, hd]
    have hT' : (s₁.setGen g e.genState).TypeIs x T := hT
    refine wpAny_pure (wpAny_bind (wpAny_isInstance (T := T) (b := false) hT' hs ?_))
    rw [if_neg (by rw [Bool.and_false]; exact Bool.false_ne_true)]
    show wpAny _ A.in1 (Builtin.Generator.genEscaped x) _ _ _
    unfold Builtin.Generator.genEscaped
    refine wpAny_bind (wpAny_isInstance (T := T) (b := false) hT' hs ?_)
    refine wpAny_throw ?_
    refine wpAny_bind (wpAny_isInstance (T := T) (b := false) hT' hs ?_)
    exact wpAny_throw h
  | running => intro h; exact h.elim
  | justStarted => intro h; exact h.elim
  | finished => intro h; exact h.elim

/-- a generator that has ended has no next item -/
theorem r_pyNext_fin {a : Addr} {g : Nat} {Q : Option Value → Shared → Prop} (hh : A.handled = none) (hg : s.heap.IsGen a g) (hgs : s.gens[g]? = some .finished)
    (h : ∀ h', (∀ b o, s.heap.get? b = some o → h'.get? b = some o) → Q none { s with heap := h' }) :
    wpAny (model prog w) A (pyNext (.ref a)) Q E s := by
  unfold pyNext
  refine wpAny_bind (wpAny_attempt (wpAny_callSpecial?_slot (name := Str.ofString "__next__") hg.typeIs slot_gen_next
    (wpAny_call_entry slot_gen_next hg.typeIs entry_gen_next ?_ (args_gen_next _))))
  show wpAny _ A.in1 (Builtin.Generator.genWake (.ref a) (.send .none)) _ _ s
  unfold Builtin.Generator.genWake
  refine wpAny_bind (wpAny_holding (wpAny_genNumber hg (wpAny_bind (wpAny_genState hgs ?_))))
  show wpAny _ A.in1 (resume g (.send .none) >>= _) _ _ s
  refine wpAny_bind ?_
  intro Γ p hΓ
  show Sem.wp _ Γ (.resume g (.send .none) [] .pure) _ _ p s
  rw [Sem.wp_resume]
  refine ⟨.finished, s, by unfold Wakes; rw [hgs]; exact ⟨rfl, rfl⟩, ?_⟩
  show wpAny (model prog w) A.in1 (newExc (.type "StopIteration") [] >>= fun x => (raiseNew x)) _ _ s
  refine w_stop hh fun x h' hT hk => ?_
  refine wpAny_bind (wpAny_isInstance (T := "StopIteration") (b := true) hT isSubtype_stop ?_)
  exact wpAny_pure (h h' hk)
end
end Mine

-- part RG6
open PySem PySem.W PySem.W.X PyProof.Rows PySem.Calls
set_option Elab.async false
set_option maxRecDepth 100000
namespace Mine

def IsFresh (env : Env) (gs : GenState) : Prop := gs = .fresh (.func rBody env)

section
variable {b s : Shared} {L L' : Ledger} {G G' : GLedger}
theorem St.newGen (S : St b s L G) {gs : GenState} {P : GenState → Prop} (hP : P gs) (hb : gs.bare = true) : St b { s with gens := s.gens.push gs } L ((s.gens.size, P) :: G) := by
  refine ⟨S.keep, S.own, S.nodup, S.os, ?_, fun p hp => ?_, ?_⟩
  · intro x hx
    rcases Array.mem_push.mp hx with h | rfl
    · exact S.bare _ h
    · exact hb
  · rcases List.mem_cons.mp hp with rfl | hp
    · exact ⟨gs, by simp, hP⟩
    · obtain ⟨g', e, h⟩ := S.gens p hp
      have : p.1 < s.gens.size := (Array.getElem?_eq_some_iff.mp e).1
      exact ⟨g', by show (s.gens.push gs)[p.1]? = _; rw [Array.getElem?_push]; simp [Nat.ne_of_lt this, e], h⟩
  · refine List.nodup_cons.mpr ⟨fun hm => ?_, S.gnodup⟩
    obtain ⟨p, hp, e⟩ := List.mem_map.mp hm
    obtain ⟨g', e', _⟩ := S.gens p hp
    have : p.1 < s.gens.size := (Array.getElem?_eq_some_iff.mp e').1
    rw [e] at this
    exact Nat.lt_irrefl _ this
end

section
variable {prog : Program} {w : World} {A : Around} {E : Value → Shared → Prop} {b s : Shared} {L L' : Ledger} {G : GLedger} {mg mb : Str → Option Value} {names : List Str}

theorem r_restore {f : Addr} {cd v1 v2 : Value} {Q : Value → Shared → Prop} (B : Bs b mg mb names) (F : FnAt b mg f "restore" rParams rBody rScope cd) (S : St b s L G) (hroom : A.depth < recursionLimit)
    (h : ∀ a C g s', St b s' ((a, genC g) :: (C, frC [(("delta" : Str), vE v1), (("which" : Str), vE v2)]) :: L) ((g, IsFresh (rEnv C f cd)) :: G) → Q (.ref a) s') :
    wpAny (model prog w) A (call (.ref f) [v1, v2]) Q E s := by
  obtain ⟨o, pm, doc, ho, hd⟩ := F.obj
  refine wpAny_call (codeAny_call_generator hroom (S.keep _ _ ho) hd rfl rfl rfl (F.code.keeps S.keep) ?_)
  refine wpAny_of_eq (a := [(("delta" : Str), v1), (("which" : Str), v2)]) rfl ?_
  refine wpAny_newFunctionEnv (scope := rScope) (binds := [(("delta" : Str), v1), (("which" : Str), v2)]) (by decide) (locs rfl) (fun h' hn hsb => ?_) rfl
  have hlim : h'.NoLimit := (B.nolimit.keeps S.keep).fresh _ hsb
  refine ⟨hlim, ?_⟩
  have hk : ∀ a o, s.heap.get? a = some o → h'.get? a = some o := fun a o e => hsb.extBut a o (Nat.ne_of_lt (Heap.lt_size e)) (Heap.get?_push_of_some _ e)
  obtain ⟨oC, hoC, hcC⟩ := frC_of (fl := [(("delta" : Str), vE v1), (("which" : Str), vE v2)]) hn (fun p hp => by
    rcases List.mem_cons.mp hp with rfl | hp
    · exact ⟨v1, rfl, rfl⟩
    · cases List.mem_singleton.mp hp
      exact ⟨v2, rfl, rfl⟩)
  have S1 : St b { s with heap := h', toks := s.toks + 2 } ((s.heap.objs.size, frC [(("delta" : Str), vE v1), (("which" : Str), vE v2)]) :: L) G := S.new (heap_get_size _) hk hoC hcC
  have S2 := S1.newGen (gs := .fresh (.func rBody (rEnv s.heap.objs.size f cd))) (P := IsFresh (rEnv s.heap.objs.size f cd)) rfl rfl
  have S3 := S2.alloc (o := { cls := .type "generator", data := .fields #[.int s.gens.size 0, .str "restore" (s.toks + 2), .str "restore" (s.toks + 2 + 1)] }) (P := genC s.gens.size) ⟨_, _, rfl, rfl, rfl⟩ (s.toks + 2 + 1 + 1)
  exact h _ _ _ _ S3
end
end Mine

-- part RG7
open PySem PySem.W PySem.W.X PyProof.Rows PySem.Calls
set_option Elab.async false
set_option maxRecDepth 100000
namespace Mine

def rTry : Stmt := match rBody with | t :: _ => t | _ => .Pass default
def rAsg : Stmt := match rBody with | _ :: t :: _ => t | _ => .Pass default
def rIter : Expr := match rForS with | .For _ i .. => i | _ => default
theorem rBody_eq : rBody = [rTry, rAsg, rForS] := rfl
theorem rForS_eq : ∃ p, rForS = .For rTarget rIter rLoop [] p := ⟨_, rfl⟩

def rLeave (env : Env) (x : Value) : Sem Fin := (leaving env x).wrap (fun _ => .raise x) .raise id id

section
variable {prog : Program} {w : World} {A : Around} {s : Shared} {P : End → Shared → Prop} {env : Env}

theorem sx_func {body : List Stmt}
    (h : SegX (model prog w) A (.func body env) ((execs body env).wrap (fun f => .pure (.done (.ret (match f with | .ret v => v | _ => .none)))) (fun e => rLeave env e) id id) [] s P) :
    SegX (model prog w) A (.func body env) (denote table (.func body env)) [] s P := by
  show SegX _ A _ (.point [] fun _ => ((execs body env).onRaise (leaving env)) >>= _) [] s P
  refine sx_point ?_
  rw [Sem.onRaise_eq_wrap, Sem.bind_eq_wrap', Sem.wrap_wrap]
  rw [Sem.wrap_congr (execs body env) _ _ (K' := fun f => .pure (.done (.ret (match f with | .ret v => v | _ => .none))))
    (H' := fun e => (leaving env e).wrap (fun _ => .raise e) .raise id id) (fun f => by cases f <;> rfl)
    (fun e => by rw [Sem.bind_eq_wrap, Sem.wrap_wrap]; rfl)]
  exact h

/-- the reader's first turn -/
theorem sx_start
    (h : wpAny (model prog w) (A.over (.func rBody env) []) (exec rTry env) (fun f s₁ => f = .next ∧
        wpAny (model prog w) (A.over (.func rBody env) []) (exec rAsg env) (fun f s₂ => f = .next ∧
          wpAny (model prog w) (A.over (.func rBody env) []) (eval rIter env) (fun x s₃ =>
            wpAny (model prog w) (A.over (.func rBody env) []) (pyIter x) (fun it' s₄ => ∀ p, SegX (model prog w) A (FL it' env) (denote table (FL it' env)) (fsR env p) s₄ P)
              (fun _ _ => False) s₃) (fun _ _ => False) s₂) (fun _ _ => False) s₁)
        (fun x s₁ => SegX (model prog w) A (.func rBody env) (rLeave env x) [] s₁ P) s)
    (hs : ∀ x, foldedSetIterable rIter env x = pure x := by intro _; rfl) :
    SegX (model prog w) A (.func rBody env) (denote table (.func rBody env)) [] s P := by
  refine sx_func ?_
  have hb : execs rBody env = execs [rTry, rAsg, rForS] env := congrArg (fun l => execs l env) rBody_eq
  rw [hb]
  have e1 : ∀ rest (K : Flow → Sem Fin) (H : Value → Sem Fin) gd lv, (execs (rTry :: rest) env).wrap K H gd lv = (exec rTry env).wrap (fun f => match f with | .next => (execs rest env).wrap K H gd lv | f => K f) H gd lv := fun rest K H gd lv => execs_cons_wrap rTry rest
  have e2 : ∀ rest (K : Flow → Sem Fin) (H : Value → Sem Fin) gd lv, (execs (rAsg :: rest) env).wrap K H gd lv = (exec rAsg env).wrap (fun f => match f with | .next => (execs rest env).wrap K H gd lv | f => K f) H gd lv := fun rest K H gd lv => execs_cons_wrap rAsg rest
  rw [e1]
  clear e1
  generalize exec rTry env = T1 at h ⊢
  generalize exec rAsg env = T2 at h e2
  refine sx_wrap (wpAny_mono h (fun f s₁ h₁ => ?_) fun _ _ x => x)
  obtain ⟨rfl, h₁⟩ := h₁
  show SegX _ A _ (Sem.wrap _ _ _ _ (execs [rAsg, rForS] env)) _ _ _
  rw [e2]
  refine sx_wrap (wpAny_mono h₁ (fun f s₂ h₂ => ?_) fun _ _ x => x.elim)
  obtain ⟨rfl, h₂⟩ := h₂
  show SegX _ A _ (Sem.wrap _ _ _ _ (execs [rForS] env)) _ _ _
  rw [execs_cons_wrap]
  obtain ⟨fp, hF⟩ := rForS_eq
  have hx : exec rForS env = (do
    standAt fp
    let x ← foldedSetIterable rIter env (← eval rIter env)
    standAt rIter.pos
    runOwn (.forLoop rTarget (← holding [x] (pyIter x)) rLoop [] env) env) := by rw [hF]; exact exec_For ..
  rw [hx, bind_wrap]
  refine sx_wrap (wpAny_standAt ?_)
  rw [bind_wrap]
  refine sx_wrap (wpAny_mono h₂ (fun x s₃ h₃ => ?_) fun _ _ x => x.elim)
  rw [bind_wrap]
  refine sx_wrap (wpAny_of_eq (hs x) ?_)
  rw [bind_wrap]
  refine sx_wrap (wpAny_standAt ?_)
  rw [bind_wrap]
  refine sx_wrap (wpAny_holding (wpAny_mono h₃ (fun it' s₄ h₄ => ?_) fun _ _ x => x.elim))
  exact s_call _ _ _ _ _ _ _ _ _ _ _ _ h₄
end
end Mine

-- part RG8
open PySem PySem.W PySem.W.X PyProof.Rows PySem.Calls
set_option Elab.async false
set_option maxRecDepth 100000
set_option maxHeartbeats 200000
namespace Mine

/-- int(v) is n, and nothing else happens -/
def IntTo (prog : Program) (w : World) (b : Shared) (v : Value) (n : Int) : Prop :=
  ∀ (A : Around) (E : Value → Shared → Prop) (s : Shared) (L : Ledger) (G : GLedger) (Q : Value → Shared → Prop), A.handled = none → St b s L G → (∀ t s', St b s' L G → Q (.int n t) s') → wpAny (model prog w) A (call (.type "int") [v]) Q E s

theorem intTo_int {prog : Program} {w : World} {b : Shared} {n : Int} {t : Tok} : IntTo prog w b (.int n t) n := fun _ _ _ _ _ _ _ S h => call_int_int (h _ _ S)

def tagOf (n : Int) : Str := if n = 1 then "- " else "+ "

theorem rTry_eq : ∃ p1 p2 p3 p4 p5 p6 p7 p8 p9 p10 p11 p12 h, rTry = .Try [.Assign [.Name "tag" p1] (.Subscript (.Dict [some (.Constant (.int 1) 0 p2), some (.Constant (.int 2) 0 p3)] [.Constant (.str "- ") 0 p4, .Constant (.str "+ ") 0 p5] p6) (.Call (.Name "int" p7) [.Name "which" p8] [] p9) p10) p11] [h] [] [] p12 :=
  ⟨_, _, _, _, _, _, _, _, _, _, _, _, _, rfl⟩
theorem boot_int : bootBuiltins "int" = some (.type "int") := by decide +kernel

section
variable {prog : Program} {w : World} {A : Around} {E : Value → Shared → Prop} {b s : Shared} {L L' : Ledger} {G : GLedger} {mg mb : Str → Option Value} {names : List Str}

theorem rg_dict {env : Env} {Q : Value → Shared → Prop} {k1 k2 k3 k4 : Nat} {p1 p2 p3 p4 p : Pos} (B : Bs b mg mb names) (S : St b s L G)
    (h : ∀ d s', St b s' ((d, fun o => ∃ t1 t2 : Tok, ∀ h : Heap, h.get? d = some o → h.DictOf (intKind prog w) d [(1, .str "- " t1), (2, .str "+ " t2)]) :: L) G → (d == sysModules) = false → Q (.ref d) s') :
    wpAny (model prog w) A (eval (.Dict [some (.Constant (.int 1) k1 p1), some (.Constant (.int 2) k2 p2)] [.Constant (.str "- ") k3 p3, .Constant (.str "+ ") k4 p4] p) env) Q E s := by
  refine wpAny_Dict_walk (knd := intKind prog w) rfl rfl (by simp) (Nat.le_of_ble_eq_true rfl) ?_
  with_reducible refine pairTrees_cons_walk ?_
  with_reducible refine wpAny_Constant_int ?_
  with_reducible refine Constant_str ?_
  with_reducible refine pairTrees_cons_walk ?_
  with_reducible refine wpAny_Constant_int ?_
  with_reducible refine Constant_str ?_
  with_reducible refine pairTrees_nil_walk ?_
  refine display_done_int rfl (by simp [intKeyPairs]) (Heap.DictOf.new _) fun h' hd hs => ?_
  obtain ⟨o, es, ep, ho, hr⟩ := id hd
  refine h _ _ (S.new (heap_get_size _) (fun a o e => ?_) ho ⟨_, _, fun h₂ e => ⟨o, es, ep, e, hr⟩⟩) ?_
  · exact hs.extBut a o (Nat.ne_of_lt (Heap.lt_size e)) (Heap.get?_push_of_some _ e)
  · have hlt : cStatics < s.heap.objs.size := let ⟨_, hn, _⟩ := B.nolimit.keeps S.keep; hn.lt
    have : s.heap.objs.size ≠ 1 := by
      have : (2 : Nat) < s.heap.objs.size := hlt
      omega
    exact beq_eq_false_iff_ne.mpr this

theorem rg_try {C f : Addr} {cd v2 : Value} {n : Int} {fl fl' : List (Str × VP)} {Q : Flow → Shared → Prop} (B : Bs b mg mb names) (hn : n = 1 ∨ n = 2) (hI : IntTo prog w b v2 n) (hh : A.handled = none)
    (S : St b s L G) (hC : (C, frC fl) ∈ L) (hw : (("which" : Str), vE v2) ∈ fl) (hs : SetN fl ("tag" : Str) (vS (tagOf n)) fl') (hu : Upd L C (frC fl') L') (h : ∀ s', St b s' L' G → Q .next s')
    (hfree : ("int" : Str) ∉ names) :
    wpAny (model prog w) A (exec rTry (rEnv C f cd)) Q E s := by
  obtain ⟨p1, p2, p3, p4, p5, p6, p7, p8, p9, p10, p11, p12, hdl, e⟩ := rTry_eq
  rw [e]
  refine wpAny_Try_except ?_
  refine wpAny_execs_cons ?_
  refine wpAny_Assign_Name ?_
  refine Subscript_ ?_
  with_reducible refine rg_dict B S ?_
  intro d s₁ S₁ hds
  refine Call_ (r_bname B S₁ boot_int ?_ hfree)
  refine callWith_type1 (args_cons (r_name S₁ (.tail _ hC) hw fun v hv => args_nil ?_))
  cases hv
  refine hI A _ _ _ G _ hh S₁ fun t s₂ S₂ => ?_
  obtain ⟨o, ho, t1, t2, hd⟩ := S₂.get (.head _)
  have hm := (hd _ ho).mapOf
  have hv : valueAt [((1 : Int), Value.str "- " t1), (2, Value.str "+ " t2)] n = some (.str (tagOf n) (if n = 1 then t1 else t2)) := by
    rcases hn with rfl | rfl <;> rfl
  refine tail_any hm.typeIs slot_dict_getitem.lookup (wpAny_getItem_of (by simp [intKind, Value.isInt]) hm hv ?_) rfl
  refine r_store (S₂.toks _) (.tail _ hC) ⟨_, rfl⟩ hs (.tail hu) fun s₃ S₃ => ?_
  exact wpAny_execs_nil (wpAny_execs_nil (h _ (S₃.sub (.cons _ (.refl _)))))
end
end Mine

-- part RG9
open PySem PySem.W PySem.W.X PyProof.Rows PySem.Calls
set_option Elab.async false
set_option maxRecDepth 100000
set_option maxHeartbeats 1000000
namespace Mine

theorem rAsg_eq : ∃ p1 p2 p3 p4 p5, rAsg = .Assign [.Name "prefixes" p1] (.Tuple [.Constant (.str "  ") 0 p2, .Name "tag" p3] 0 p4) p5 := ⟨_, _, _, _, _, rfl⟩
theorem rIter_eq : ∃ p, rIter = .Name "delta" p := ⟨_, rfl⟩

abbrev fl0 (v1 v2 : Value) : List (Str × VP) := [(("delta" : Str), vE v1), (("which" : Str), vE v2)]
abbrev fl1 (v1 v2 : Value) (n : Int) : List (Str × VP) := [(("delta" : Str), vE v1), (("which" : Str), vE v2), (("tag" : Str), vS (tagOf n))]
abbrev fl2 (v1 v2 : Value) (n : Int) (tp : Addr) : List (Str × VP) := [(("delta" : Str), vE v1), (("which" : Str), vE v2), (("tag" : Str), vS (tagOf n)), (("prefixes" : Str), vE (.ref tp))]

/-- a cell of the ledger set, whatever the others are -/
def setL {α β : Type} [DecidableEq α] (a : α) (P : β) : List (α × β) → List (α × β)
  | [] => []
  | e :: r => if e.1 = a then (a, P) :: r else e :: setL a P r
theorem setL_upd {α β : Type} [DecidableEq α] {a : α} {P : β} : ∀ {L : List (α × β)}, (∃ P₀, (a, P₀) ∈ L) → Upd L a P (setL a P L)
  | [], ⟨_, h⟩ => nomatch h
  | (c, P₁) :: r, ⟨P₀, h⟩ => by
    unfold setL
    by_cases e : c = a
    · subst e
      rw [if_pos rfl]
      exact .head
    · rw [if_neg e]
      refine .tail (setL_upd ⟨P₀, ?_⟩)
      rcases List.mem_cons.mp h with h | h
      · cases h; exact absurd rfl e
      · exact h
theorem setL_setL {α β : Type} [DecidableEq α] {a : α} {P P' : β} : ∀ {L : List (α × β)}, setL a P' (setL a P L) = setL a P' L
  | [] => rfl
  | (c, P₁) :: r => by
    by_cases e : c = a
    · simp [setL, e]
    · simp [setL, e, setL_setL]

section
variable {prog : Program} {w : World} {A : Around} {E : Value → Shared → Prop} {b s : Shared} {L L' : Ledger} {G : GLedger} {mg mb : Str → Option Value} {names : List Str}

theorem rg_asg {C f : Addr} {cd v1 v2 : Value} {n : Int} {Q : Flow → Shared → Prop} (S : St b s L G) (hC : (C, frC (fl1 v1 v2 n)) ∈ L)
    (h : ∀ tp s', St b s' ((tp, tupS ["  ", tagOf n]) :: setL C (frC (fl2 v1 v2 n tp)) L) G → Q .next s') : wpAny (model prog w) A (exec rAsg (rEnv C f cd)) Q E s := by
  obtain ⟨p1, p2, p3, p4, p5, e⟩ := rAsg_eq
  rw [e]
  refine wpAny_Assign_Name ?_
  with_reducible refine Tuple_ ?_
  refine args_cons ?_
  refine r_str S fun t1 s₁ S₁ => ?_
  refine args_cons ?_
  refine r_name S₁ hC (.tail _ (.tail _ (.head _))) fun v hv => ?_
  obtain ⟨t2, rfl⟩ := hv
  refine args_nil ?_
  refine r_newTuple S₁ (P := tupS ["  ", tagOf n]) (tupS_mk (.cons _ _ (.cons _ _ .nil))) (fun tp s₂ S₂ => ?_)
  refine r_store (P := vE (.ref tp)) (fl' := fl2 v1 v2 n tp) S₂ (.tail _ hC) rfl (.skip (by kernel_rfl) (.skip (by kernel_rfl) (.skip (by kernel_rfl) .nil))) (.tail (setL_upd ⟨_, hC⟩)) fun s₃ S₃ => h tp s₃ S₃

/-- the reader's first turn, up to its source -/
theorem rg_begin {C f : Addr} {cd v1 v2 : Value} {n : Int} {P : End → Shared → Prop} (B : Bs b mg mb names) (hfree : ("int" : Str) ∉ names) (hn : n = 1 ∨ n = 2) (hI : IntTo prog w b v2 n) (hh : A.handled = none)
    (S : St b s L G) (hC : (C, frC (fl0 v1 v2)) ∈ L)
    (h : ∀ tp s', St b s' ((tp, tupS ["  ", tagOf n]) :: setL C (frC (fl2 v1 v2 n tp)) L) G → wpAny (model prog w) (A.over (.func rBody (rEnv C f cd)) []) (pyIter v1)
      (fun it' s₄ => ∀ p, SegX (model prog w) A (FL it' (rEnv C f cd)) (denote table (FL it' (rEnv C f cd))) (fsR (rEnv C f cd) p) s₄ P) (fun _ _ => False) s') :
    SegX (model prog w) A (.func rBody (rEnv C f cd)) (denote table (.func rBody (rEnv C f cd))) [] s P := by
  refine sx_start ?_ (by intro x; kernel_rfl)
  have hh' : (A.over (.func rBody (rEnv C f cd)) []).handled = none := hh
  have hw : (("which" : Str), vE v2) ∈ fl0 v1 v2 := .tail _ (.head _)
  have hsn : SetN (fl0 v1 v2) ("tag" : Str) (vS (tagOf n)) (fl1 v1 v2 n) := .skip (by kernel_rfl) (.skip (by kernel_rfl) .nil)
  have hu : Upd L C (frC (fl1 v1 v2 n)) (setL C (frC (fl1 v1 v2 n)) L) := setL_upd ⟨_, hC⟩
  have hh1 := hu.here
  with_reducible refine rg_try B hn hI hh' S hC hw hsn hu ?_ hfree
  refine fun s₁ S₁ => ⟨rfl, ?_⟩
  with_reducible refine rg_asg S₁ hh1 ?_
  refine fun tp s₂ S₂ => ⟨rfl, ?_⟩
  rw [setL_setL] at S₂
  obtain ⟨p, e⟩ := rIter_eq
  rw [e]
  refine r_name S₂ (.tail _ (setL_upd ⟨_, hC⟩).here) (.head _) fun v hv => ?_
  cases hv
  exact h tp s₂ S₂
end
end Mine

-- part LR
open PySem PySem.W PySem.W.X PyProof.Rows PySem.Calls
set_option Elab.async false
set_option maxRecDepth 100000
set_option maxHeartbeats 1000000
namespace Mine
section
variable {prog : Program} {w : World} {A : Around} {E : Value → Shared → Prop} {b s : Shared} {L L' : Ledger} {G : GLedger}

/-- the loop of list(..) over whatever iterator -/
theorem code_extend {R : Result → Shared → Prop} {I Sa : Addr} {res : Value} (J : Nat → List Value → Shared → Prop)
    (hnx : ∀ k acc s, J k acc s → wpAny (model prog w) A.in1 (pyNext (.ref I)) (fun r s₁ => match r with
      | none => R (.ok (.ret res)) s₁
      | some v => ∃ L G L', St b s₁ L G ∧ (Sa, lstV acc) ∈ L ∧ Upd L Sa (lstV (acc ++ [v])) L' ∧ acc.length < sizeLine ∧ ∀ s₂, St b s₂ L' G → ∃ m, m < k ∧ J m (acc ++ [v]) s₂) (fun e s₁ => R (.error e) s₁) s) :
    ∀ k acc s, J k acc s → codeAny (model prog w) A (.builtin "list.extend.loop" ⟨[.ref Sa, .ref I, res], []⟩) R s := by
  intro k
  induction k using Nat.strongRecOn with
  | ind k ih =>
    intro acc s hj
    refine codeAny_builtin F.entry_extend_loop ?_
    rw [Around.under_plainId F.plain_extend_loop _]
    show wpAny _ A.in1 (pyNext (.ref I) >>= _) _ _ s
    refine wpAny_bind (wpAny_mono (hnx k acc s hj) (fun r s₁ h₁ => ?_) fun _ _ x => x)
    cases r with
    | none => exact wpAny_pure h₁
    | some v =>
      obtain ⟨L, G, L', S, hm, hu, hlt, h₂⟩ := h₁
      obtain ⟨_, ho, n, rfl⟩ := S.get hm
      show wpAny _ A.in1 (updateSeq Sa (·.push v) >>= _) _ _ _
      refine wpAny_bind ?_
      refine wpAny_updateSeq ho rfl (wpAny_pure ?_) ?_ ?_
      · have hg := Heap.get?_update_self (Obj.mapSeq (·.push v)) ho rfl
        have hcell : lstV (acc ++ [v]) ((lstObj acc.toArray n).mapSeq (·.push v)) := by
          obtain ⟨n', e⟩ := lst_push (vs := acc.toArray) (n := n) (·.push v)
          exact ⟨n', by rw [e]; simp⟩
        obtain ⟨m, hm', hj'⟩ := h₂ _ (S.set hu ⟨_, hm⟩ (Heap.SameBut.update ..).extBut hg hcell)
        exact ⟨plainId_quiet F.plain_extend_loop _, ih m hm' _ _ hj'⟩
      · simpa using Nat.le_of_lt hlt
      · simpa using Nat.succ_le_succ (Nat.le_of_lt hlt)

/-- list(..) of a generator -/
theorem r_list_gen {a : Addr} {Q : Value → Shared → Prop} {g : Nat} (S : St b s L G) (ha : (a, genC g) ∈ L)
    (J : Addr → Nat → List Value → Shared → Prop)
    (h0 : ∀ Sa s', St b s' ((Sa, lstV []) :: L) G → ∃ k, J Sa k [] s')
    (hnx : ∀ Sa k acc s, J Sa k acc s → wpAny (model prog w) A.in1.in1 (pyNext (.ref a)) (fun r s₁ => match r with
      | none => Q (.ref Sa) s₁
      | some v => ∃ L G L', St b s₁ L G ∧ (Sa, lstV acc) ∈ L ∧ Upd L Sa (lstV (acc ++ [v])) L' ∧ acc.length < sizeLine ∧ ∀ s₂, St b s₂ L' G → ∃ m, m < k ∧ J Sa m (acc ++ [v]) s₂) (fun e s₁ => E e s₁) s) :
    wpAny (model prog w) A (call (.type "list") [.ref a]) Q E s := by
  refine callType_codes (Q₁ := fun obj s₁ => obj = .ref s.heap.objs.size ∧ s₁ = { s with heap := s.heap.push { cls := .type "list", data := .seq #[] } }) F.called_list (F.typeCall_list_1 _) F.entry_list_init
    (code_list_new _ ⟨rfl, rfl⟩) fun obj s₁ h₁ => ?_
  obtain ⟨rfl, rfl⟩ := h₁
  have S0 : St b { s with heap := s.heap.push { cls := .type "list", data := .seq #[] } } ((s.heap.objs.size, lstV []) :: L) G := S.alloc ⟨0, rfl⟩
  generalize hsz : s.heap.objs.size = Sa at S0
  generalize hs0 : ({ s with heap := s.heap.push { cls := .type "list", data := .seq #[] } } : Shared) = s0 at S0
  obtain ⟨_, ho0, n0, rfl⟩ := S0.get (.head _)
  refine ⟨⟨_, ho0, rfl⟩, F.args_list_init_2 _ _, ?_⟩
  have hne : Sa ≠ a := by
    have := List.nodup_cons.mp S0.nodup
    exact fun e => this.1 (List.mem_map.mpr ⟨_, ha, e.symm⟩)
  show wpAny _ A.in1.in1 (do let old ← Builtin.List.listItems (.ref Sa); Builtin.List.listUpdate (.ref Sa) (fun _ => #[]); letGo old.toList.reverse; Builtin.List.listExtendWith (.ref Sa) (.ref a) .none) _ _ s0
  refine wpAny_bind ?_
  unfold Builtin.List.listItems
  refine wpAny_bind (wpAny_seqItems ho0 rfl (wpAny_pure ?_))
  show wpAny _ A.in1.in1 (updateSeq Sa (fun _ => #[]) >>= fun _ => letGo (([] : List Value).toArray).toList.reverse >>= fun _ => Builtin.List.listExtendWith (.ref Sa) (.ref a) .none) _ _ s0
  refine wpAny_bind (wpAny_updateSeq ho0 rfl ?_ (by simp) (by simp))
  have S1 := S0.set (P' := lstV []) .head ⟨_, .head _⟩ (Heap.SameBut.update s0.heap Sa (Obj.mapSeq fun _ => #[])).extBut (Heap.get?_update_self _ ho0 rfl) ⟨_, rfl⟩
  generalize hs1 : ({ s0 with heap := s0.heap.update Sa (Obj.mapSeq fun _ => #[]), toks := s0.toks } : Shared) = s1 at S1
  refine wpAny_bind (wpAny_letGo ?_)
  unfold Builtin.List.listExtendWith
  have hg := S1.isGen (.tail _ ha)
  refine wpAny_bind (wpAny_typeOf hg.typeIs ?_)
  have h1 : Builtin.List.listSameRef (.ref Sa) (.ref a) = false := by simp [Builtin.List.listSameRef, hne]
  have h2 : (Value.type "generator" == Value.type "list") = false := by decide
  have h3 : (Value.type "generator" == Value.type "tuple") = false := by decide
  simp only [h1, h2, h3, Bool.or_false, Bool.false_eq_true, if_false]
  refine wpAny_bind (wpAny_pyIter_gen hg ?_)
  refine wpAny_bind (wpAny_holding ?_)
  unfold Builtin.List.listLengthHint
  refine wpAny_bind (wpAny_specialOf hg.typeIs F.gen_no_len ?_)
  show wpAny _ A.in1.in1 (specialOf (Value.ref a) (Str.ofString "__length_hint__") >>= _) _ _ _
  refine wpAny_bind (wpAny_specialOf hg.typeIs F.gen_no_hint ?_)
  refine wpAny_pure ?_
  show wpAny _ A.in1.in1 (rule "list.extend.makes-room" >>= fun _ => Builtin.List.listTouch (.ref Sa) >>= fun _ =>
    again (.builtin "list.extend.loop" ⟨[.ref Sa, .ref a, .none], []⟩)) _ _ _
  refine wpAny_bind (wpAny_rule ?_)
  refine wpAny_bind ?_
  show wpAny _ A.in1.in1 (updateSeq Sa (·.push .none) >>= fun _ => updateSeq Sa (·.pop)) _ _ _
  obtain ⟨_, ho1, n1', rfl⟩ := S1.get (.head _)
  refine wpAny_bind (wpAny_updateSeq ho1 rfl ?_ (by simp) (by simp [sizeLine]))
  have hg2 := Heap.get?_update_self (Obj.mapSeq (·.push Value.none)) ho1 rfl
  have S2 := S1.set (P' := lstV [.none]) .head ⟨_, .head _⟩ (Heap.SameBut.update s1.heap Sa (Obj.mapSeq (·.push Value.none))).extBut hg2 ⟨_, rfl⟩
  refine wpAny_updateSeq hg2 rfl ?_ (by simp [sizeLine]) (by simp [sizeLine])
  have hg3 := Heap.get?_update_self (Obj.mapSeq (·.pop)) hg2 rfl
  have S3 := S2.set (P' := lstV []) .head ⟨_, .head _⟩ (Heap.SameBut.update _ Sa (Obj.mapSeq (·.pop))).extBut hg3 ⟨_, rfl⟩
  obtain ⟨k, hj⟩ := h0 Sa _ S3
  refine wpAny_pure ⟨plainId_quiet F.plain_extend_loop _, code_extend (b := b) (J Sa) ?_ k [] _ hj⟩
  intro k acc s hj
  refine wpAny_mono (hnx Sa k acc s hj) (fun r s₁ h₁ => ?_) fun _ _ x => x
  cases r with
  | none => exact ⟨rfl, h₁⟩
  | some v => exact h₁
end
end Mine

-- part GV
open PySem PySem.W PySem.W.X PyProof.Rows PySem.Calls
set_option Elab.async false
set_option maxRecDepth 100000
set_option maxHeartbeats 1000000
namespace Mine

/-- room to go d frames deeper, and nothing handled -/
structure Ar (A : Around) (d : Nat) : Prop where
  handled : A.handled = none
  depth : A.depth + d < recursionLimit
theorem Ar.mono {A : Around} {d d' : Nat} (h : Ar A d) (hd : d' ≤ d) : Ar A d' := ⟨h.1, Nat.lt_of_le_of_lt (Nat.add_le_add_left hd _) h.2⟩
theorem Ar.in1 {A : Around} {d : Nat} (h : Ar A d) : Ar A.in1 d := ⟨h.1, h.2⟩
theorem Ar.loop {A : Around} {d : Nat} {it : Value} {env : Env} {p : Pos} (h : Ar A (d + 1)) : Ar (A.over (FL it env) (fsR env p)) d := by
  refine ⟨h.1, ?_⟩
  show A.depth + 1 + 0 + d < recursionLimit
  have := h.2
  omega
theorem Ar.func {A : Around} {d : Nat} {env : Env} (h : Ar A (d + 1)) : Ar (A.over (.func rBody env) []) d := by
  refine ⟨h.1, ?_⟩
  show A.depth + 0 + 1 + d < recursionLimit
  have := h.2
  omega

section
variable (prog : Program) (w : World) (b : Shared) (Lr : Ledger) (d : Nat)

/-- v is an iterator that will give values of the makes ys; L₁, G₁ are its own; it reads of Lr -/
def Gives (v : Value) : List VP → Ledger → GLedger → Prop
  | [], L₁, G₁ => ∀ (A : Around) (E : Value → Shared → Prop) (s : Shared) (F : Ledger) (GF : GLedger) (Q : Option Value → Shared → Prop), Ar A d → (∀ p ∈ Lr, p ∈ F) → St b s (L₁ ++ F) (G₁ ++ GF) →
      (∀ s', St b s' F GF → Q none s') → wpAny (model prog w) A (pyNext v) Q E s
  | y :: r, L₁, G₁ => ∀ (A : Around) (E : Value → Shared → Prop) (s : Shared) (F : Ledger) (GF : GLedger) (Q : Option Value → Shared → Prop), Ar A d → (∀ p ∈ Lr, p ∈ F) → St b s (L₁ ++ F) (G₁ ++ GF) →
      (∀ u s' L₂ G₂, y u → Gives v r L₂ G₂ → St b s' (L₂ ++ F) (G₂ ++ GF) → Q (some u) s') → wpAny (model prog w) A (pyNext v) Q E s

/-- iter(it) is it -/
def SelfI (it : Value) (L₂ : Ledger) : Prop := ∀ (A : Around) (E : Value → Shared → Prop) (s : Shared) (F : Ledger) (GF : GLedger) (Q : Value → Shared → Prop), St b s (L₂ ++ F) GF → Q it s → wpAny (model prog w) A (pyIter it) Q E s

/-- v is an iterable of values of the makes ys -/
def GivesI (v : Value) (ys : List VP) (L₁ : Ledger) (G₁ : GLedger) : Prop :=
  ∀ (A : Around) (E : Value → Shared → Prop) (s : Shared) (F : Ledger) (GF : GLedger) (Q : Value → Shared → Prop), Ar A d → (∀ p ∈ Lr, p ∈ F) → St b s (L₁ ++ F) (G₁ ++ GF) →
      (∀ it s' L₂ G₂, Gives prog w b Lr d it ys L₂ G₂ → SelfI prog w b it L₂ → St b s' (L₂ ++ F) (G₂ ++ GF) → Q it s') → wpAny (model prog w) A (pyIter v) Q E s
end

theorem St.gperm {b s : Shared} {L : Ledger} {G G' : GLedger} (S : St b s L G) (h : G'.Perm G) : St b s L G' :=
  ⟨S.keep, S.own, S.nodup, S.os, S.bare, fun p hp => S.gens p (h.subset hp), (h.map _).nodup_iff.mpr S.gnodup⟩

/-- what a reader gives of its rows -/
def readS (n : Int) (xs : List Str) : List Str := (xs.filter (keepS (tagOf n))).map cutS
abbrev flP (tp : Addr) : List (Str × VP) := [(("prefixes" : Str), vE (.ref tp))]

theorem Upd.left {α β : Type} {F F' : List (α × β)} {a : α} {P : β} (u : Upd F a P F') : ∀ L₂ : List (α × β), Upd (L₂ ++ F) a P (L₂ ++ F')
  | [] => u
  | _ :: r => .tail (u.left r)
theorem frC_sub {fl fl' : List (Str × VP)} (h : ∀ p ∈ fl', p ∈ fl) {o : Obj} (hc : frC fl o) : frC fl' o :=
  let ⟨es, ep, h1, h2, h3⟩ := hc; ⟨es, ep, h1, h2, fun p hp => h3 p (h p hp)⟩
/-- a cell known to be more -/
theorem St.less {b s : Shared} {L L' : Ledger} {G : GLedger} (S : St b s L G) {a : Addr} {P P' : Cell} (hm : (a, P) ∈ L) (u : Upd L a P' L') (hP : ∀ o, P o → P' o) : St b s L' G :=
  let ⟨_, e, h⟩ := S.get hm
  S.set u ⟨P, hm⟩ (Heap.ExtBut.refl _ _) e (hP _ h)
def IsRun (gs : GenState) : Prop := gs = .running
def IsFin (gs : GenState) : Prop := gs = .finished

section
variable {prog : Program} {w : World} {b : Shared} {Lr : Ledger} {d : Nat} {mg mb : Str → Option Value} {names : List Str}

theorem gives_of {v : Value} {ys : List VP} {L₁ : Ledger} {G₁ : GLedger}
    (h : ∀ (A : Around) (E : Value → Shared → Prop) (s : Shared) (F : Ledger) (GF : GLedger) (Q : Option Value → Shared → Prop), Ar A d → (∀ p ∈ Lr, p ∈ F) → St b s (L₁ ++ F) (G₁ ++ GF) →
      (ys = [] → ∀ s', St b s' F GF → Q none s') → (∀ y r, ys = y :: r → ∀ u s' L₂ G₂, y u → Gives prog w b Lr d v r L₂ G₂ → St b s' (L₂ ++ F) (G₂ ++ GF) → Q (some u) s') → wpAny (model prog w) A (pyNext v) Q E s) :
    Gives prog w b Lr d v ys L₁ G₁ := by
  cases ys with
  | nil => intro A E s F GF Q hA hF S hQ; exact h A E s F GF Q hA hF S (fun _ => hQ) (fun _ _ e => nomatch e)
  | cons y r => intro A E s F GF Q hA hF S hQ; exact h A E s F GF Q hA hF S (fun e => nomatch e) (fun _ _ e => by cases e; exact hQ)
theorem Gives.next {v : Value} {ys : List VP} {L₁ : Ledger} {G₁ : GLedger} (H : Gives prog w b Lr d v ys L₁ G₁) {A : Around} {E : Value → Shared → Prop} {s : Shared} {F : Ledger} {GF : GLedger} (hA : Ar A d) (hF : ∀ p ∈ Lr, p ∈ F) (S : St b s (L₁ ++ F) (G₁ ++ GF))
    {Q : Option Value → Shared → Prop} (h1 : ys = [] → ∀ s', St b s' F GF → Q none s') (h2 : ∀ y r, ys = y :: r → ∀ u s' L₂ G₂, y u → Gives prog w b Lr d v r L₂ G₂ → St b s' (L₂ ++ F) (G₂ ++ GF) → Q (some u) s') : wpAny (model prog w) A (pyNext v) Q E s := by
  cases ys with
  | nil => exact H A E s F GF Q hA hF S (h1 rfl)
  | cons y r => exact H A E s F GF Q hA hF S (h2 y r rfl)

theorem perm3 {α : Type} (x y z : α) (L F : List α) : (L ++ x :: y :: z :: F).Perm (x :: y :: z :: (L ++ F)) := by
  refine (List.perm_middle).trans (.cons _ ?_)
  refine (List.perm_middle).trans (.cons _ ?_)
  exact List.perm_middle

/-- the reader's run from the head of its loop -/
theorem loop_seg {a C f tp : Addr} {cd it : Value} {g : Nat} {n : Int} {A : Around} {E : Value → Shared → Prop} {s₀ : Shared} {F : Ledger} {GF : GLedger} {Q : Option Value → Shared → Prop} {p' : Pos} (xs : List Str) {Li : Ledger} {Gi : GLedger}
    (hA : Ar A (d + 1)) (hF : ∀ p ∈ Lr, p ∈ F) (hlen : ∀ x ∈ xs, x.length ≤ sizeLine) (hgv : Gives prog w b Lr d it (xs.map vS) Li Gi)
    (ih : ∀ (r : List Str) (Li' : Ledger) (Gi' : GLedger), r.length < xs.length → (∀ x ∈ r, x.length ≤ sizeLine) → Gives prog w b Lr d it (r.map vS) Li' Gi' →
      Gives prog w b Lr (d + 1) (.ref a) ((readS n r).map vS) ((a, genC g) :: (C, frC (flP tp)) :: (tp, tupS ["  ", tagOf n]) :: Li') ((g, AtLoop it (rEnv C f cd)) :: Gi'))
    (S0 : St b s₀ (Li ++ ((a, genC g) :: (C, frC (flP tp)) :: (tp, tupS ["  ", tagOf n]) :: F)) (Gi ++ ((g, IsRun) :: GF)))
    (hend : readS n xs = [] → ∀ s', St b s' F GF → Q none s')
    (hyld : ∀ y r, readS n xs = y :: r → ∀ t s' L₂ G₂, Gives prog w b Lr (d + 1) (.ref a) (r.map vS) L₂ G₂ → St b s' (L₂ ++ F) (G₂ ++ GF) → Q (some (.str y t)) s') :
    SegX (model prog w) A (FL it (rEnv C f cd)) (denote table (FL it (rEnv C f cd))) (fsR (rEnv C f cd) p') s₀ (fun e s₁ => match e.result with
      | .yielded v => Q (some v) (s₁.setGen g e.genState)
      | .returned v => v = .none ∧ ∀ h', (∀ b o, s₁.heap.get? b = some o → h'.get? b = some o) → Q none { s₁.setGen g e.genState with heap := h' }
      | .raised x => ∃ T : String, s₁.TypeIs x T ∧ isSubtype (.type T) (.type "StopIteration") = pure false ∧ s₁.heap.IsGen a g ∧ E x (s₁.setGen g e.genState)
      | _ => False) := by
  let F' : Ledger := (a, genC g) :: (C, frC (flP tp)) :: (tp, tupS ["  ", tagOf n]) :: F
  let GF' : GLedger := (g, IsRun) :: GF
  let J : Nat → Shared → Prop := fun m s => ∃ xs' Li' Gi', xs'.length = m ∧ m ≤ xs.length ∧ readS n xs' = readS n xs ∧ (∀ x ∈ xs', x.length ≤ sizeLine) ∧ Gives prog w b Lr d it (xs'.map vS) Li' Gi' ∧ St b s (Li' ++ F') (Gi' ++ GF')
  let Pend : Shared → Prop := fun s => readS n xs = [] ∧ St b s F' GF'
  let Py : Value → Shared → Prop := fun v s => ∃ y t r Li' Gi' fl', v = .str (cutS y) t ∧ readS n xs = cutS y :: readS n r ∧ r.length < xs.length ∧ (∀ x ∈ r, x.length ≤ sizeLine) ∧ Gives prog w b Lr d it (r.map vS) Li' Gi' ∧ (∀ p ∈ flP tp, p ∈ fl') ∧
    St b s (Li' ++ ((a, genC g) :: (C, frC fl') :: (tp, tupS ["  ", tagOf n]) :: F)) (Gi' ++ GF')
  refine (rg_loop (b := b) (tp := tp) (tag := tagOf n) J (Pend := Pend) (Py := Py) ?_ xs.length _ ⟨xs, Li, Gi, rfl, Nat.le_refl _, rfl, hlen, hgv, S0⟩).mono ?_
  · rintro m s₁ ⟨xs', Li', Gi', hm, hle, hrd, hl', hg', S₁⟩
    refine hg'.next (F := F') (GF := GF') hA.loop (fun q hq => .tail _ (.tail _ (.tail _ (hF q hq)))) S₁ (fun e s₂ S₂ => ?_) (fun y r e u s₂ L₂ G₂ hu hg₂ S₂ => ?_)
    · have e : xs' = [] := List.map_eq_nil_iff.mp e
      subst e; exact ⟨hrd.symm.trans rfl, S₂⟩
    · obtain ⟨y, r, rfl, rfl, rfl⟩ := List.map_eq_cons_iff.mp e
      obtain ⟨t, rfl⟩ := hu
      refine ⟨y, ⟨t, rfl⟩, hl' y (.head _), L₂ ++ F', G₂ ++ GF', flP tp, [(("prefixes" : Str), vE (.ref tp)), (("line" : Str), vS y)], L₂ ++ ((a, genC g) :: (C, frC [(("prefixes" : Str), vE (.ref tp)), (("line" : Str), vS y)]) :: (tp, tupS ["  ", tagOf n]) :: F), S₂,
        List.mem_append_right _ (.tail _ (.head _)), .skip (by kernel_rfl) .nil, (Upd.tail .head).left _, .head _, List.mem_append_right _ (.tail _ (.tail _ (.head _))), fun s₃ S₃ => ?_⟩
      have hlt : r.length < xs.length := by simp only [List.length_cons] at hm; omega
      cases hkp : keepS (tagOf n) y with
      | true =>
        rw [if_pos rfl]
        intro t' s₄ S₄
        refine ⟨y, t', r, L₂, G₂, _, rfl, ?_, hlt, fun x hx => hl' x (.tail _ hx), hg₂, fun q hq => by cases List.mem_singleton.mp hq; exact .head _, S₄⟩
        rw [← hrd]
        simp [readS, hkp]
      | false =>
        rw [if_neg Bool.false_ne_true]
        refine ⟨r.length, by simp only [List.length_cons] at hm; omega, r, L₂, G₂, rfl, Nat.le_of_lt hlt, ?_, fun x hx => hl' x (.tail _ hx), hg₂, ?_⟩
        · rw [← hrd]; simp [readS, hkp]
        · exact S₃.less (List.mem_append_right _ (.tail _ (.head _))) ((Upd.tail .head).left _) fun o ho => frC_sub (fun q hq => by cases List.mem_singleton.mp hq; exact .head _) ho
  · intro e s₁ h
    revert h
    cases e.result with
    | yielded v =>
      rintro ⟨hat, hbare, y, t, r, Li', Gi', fl', rfl, hrd, hlt, hl', hg', hfl, S₁⟩
      have S₂ := S₁.setGen (P' := AtLoop it (rEnv C f cd)) (Upd.head.left Gi') hat hbare
      have S₃ := S₂.less (P' := frC (flP tp)) (List.mem_append_right _ (.tail _ (.head _))) ((Upd.tail .head).left _) fun o ho => frC_sub hfl ho
      refine hyld _ _ hrd t _ _ _ (ih r Li' Gi' hlt hl' hg') ?_
      exact (S₃.perm (perm3 _ _ _ _ _).symm).gperm List.perm_middle.symm
    | returned v =>
      rintro ⟨rfl, hfin, hrd, S₁⟩
      refine ⟨rfl, fun h' hk' => ?_⟩
      rw [hfin]
      have S₂ := S₁.setGen (P' := IsFin) (gs := .finished) .head rfl rfl
      refine hend hrd _ ?_
      exact ((S₂.keeps (s' := { s₁.setGen g .finished with heap := h' }) hk').sub ((((List.Sublist.refl F).cons _).cons _).cons _)).gsub ((List.Sublist.refl GF).cons _)
    | raised x => intro h; exact h.elim
    | running => intro h; exact h.elim
    | justStarted => intro h; exact h.elim
    | finished => intro h; exact h.elim

theorem gives_loop (B : Bs b mg mb names) {a C f tp : Addr} {cd it : Value} {g : Nat} {n : Int} :
    ∀ (k : Nat) (xs : List Str) (Li : Ledger) (Gi : GLedger), xs.length ≤ k → (∀ x ∈ xs, x.length ≤ sizeLine) → Gives prog w b Lr d it (xs.map vS) Li Gi →
      Gives prog w b Lr (d + 1) (.ref a) ((readS n xs).map vS) ((a, genC g) :: (C, frC (flP tp)) :: (tp, tupS ["  ", tagOf n]) :: Li) ((g, AtLoop it (rEnv C f cd)) :: Gi) := by
  intro k
  induction k using Nat.strongRecOn with
  | ind k ih =>
    intro xs Li Gi hk hlen hgv
    refine gives_of fun A E s F GF Q hA hF S hend hyld => ?_
    obtain ⟨gs, hgs, kk, l, p, p', rfl, hkk⟩ := S.gens _ (.head _)
    have hg := S.isGen (.head _)
    have hw : WakeOf (.suspended kk l (FL it (rEnv C f cd)) p (fsR (rEnv C f cd) p') false) (FL it (rEnv C f cd)) (.pure (.again (FL it (rEnv C f cd)))) (fsR (rEnv C f cd) p') := .inr ⟨kk, l, p, false, rfl, hkk.symm⟩
    refine r_pyNext_gen hA.handled (B.nolimit.keeps S.keep) (by have := hA.depth; omega) hg hgs hw ?_
    refine s_again _ _ _ _ _ _ _ _ rfl ?_
    have S0 : St b (s.setGen g .running) (Li ++ ((a, genC g) :: (C, frC (flP tp)) :: (tp, tupS ["  ", tagOf n]) :: F)) (Gi ++ ((g, IsRun) :: GF)) :=
      ((S.setGen (P' := IsRun) .head rfl rfl).perm (perm3 _ _ _ _ _)).gperm List.perm_middle
    exact loop_seg xs hA.in1 hF hlen hgv (fun r Li' Gi' hlt hl' hg' => ih r.length (by omega) r Li' Gi' (Nat.le_refl _) hl' hg') S0 (fun e => hend (by rw [e]; rfl)) (fun y r e t s' L₂ G₂ hg S => hyld (vS y) (r.map vS) (by rw [e]; rfl) _ s' L₂ G₂ ⟨t, rfl⟩ hg S)
end
end Mine

-- part GV2
open PySem PySem.W PySem.W.X PyProof.Rows PySem.Calls
set_option Elab.async false
set_option maxRecDepth 100000
set_option maxHeartbeats 1000000
namespace Mine

def itC (l : Addr) (i : Nat) : Cell := fun o => o.cls = .type "list_iterator" ∧ o.data = .fields #[.ref l, .int i 0]

section
variable {prog : Program} {w : World} {b : Shared} {Lr : Ledger} {d : Nat} {mg mb : Str → Option Value} {names : List Str} {ys₀ : List Str}

/-- a reader that has not begun -/
theorem gives_fresh (B : Bs b mg mb names) (hfree : ("int" : Str) ∉ names) {a C f : Addr} {cd v1 v2 : Value} {g : Nat} {n : Int} (hn : n = 1 ∨ n = 2) (hI : IntTo prog w b v2 n) {xs : List Str} {Ls : Ledger} {Gs : GLedger}
    (hlen : ∀ x ∈ xs, x.length ≤ sizeLine) (hsrc : GivesI prog w b Lr d v1 (xs.map vS) Ls Gs) :
    Gives prog w b Lr (d + 1) (.ref a) ((readS n xs).map vS) ((a, genC g) :: (C, frC (fl0 v1 v2)) :: Ls) ((g, IsFresh (rEnv C f cd)) :: Gs) := by
  refine gives_of fun A E s F GF Q hA hF S hend hyld => ?_
  obtain ⟨gs, hgs, hfr⟩ := S.gens _ (.head _)
  cases hfr
  have hg := S.isGen (.head _)
  refine r_pyNext_gen hA.handled (B.nolimit.keeps S.keep) (by have := hA.depth; omega) hg hgs (.inl ⟨rfl, rfl, rfl⟩) ?_
  have S0 := S.setGen (P' := IsRun) (gs := .running) .head rfl rfl
  refine rg_begin (v1 := v1) (v2 := v2) B hfree hn hI hA.handled S0 (.tail _ (.head _)) fun tp s₁ S₁ => ?_
  -- the ledger as the loop wants it
  have hset : setL C (frC (fl2 v1 v2 n tp)) ((a, genC g) :: (C, frC (fl0 v1 v2)) :: (Ls ++ F)) = (a, genC g) :: (C, frC (fl2 v1 v2 n tp)) :: (Ls ++ F) := by
    have hne : a ≠ C := by
      have := List.nodup_cons.mp S.nodup
      exact fun e => this.1 (e ▸ List.mem_map.mpr ⟨_, .head _, rfl⟩)
    unfold setL
    rw [if_neg hne]
    unfold setL
    rw [if_pos rfl]
  have S₂ : St b s₁ ((tp, tupS ["  ", tagOf n]) :: (a, genC g) :: (C, frC (fl2 v1 v2 n tp)) :: (Ls ++ F)) ((g, IsRun) :: (Gs ++ GF)) := by
    rw [← hset]; exact S₁
  have S₃ : St b s₁ (Ls ++ ((a, genC g) :: (C, frC (flP tp)) :: (tp, tupS ["  ", tagOf n]) :: F)) (Gs ++ ((g, IsRun) :: GF)) := by
    have S₄ := S₂.less (P' := frC (flP tp)) (.tail _ (.tail _ (.head _))) (.tail (.tail .head)) fun o ho => frC_sub (fun q hq => by cases List.mem_singleton.mp hq; exact .tail _ (.tail _ (.tail _ (.head _)))) ho
    refine (S₄.perm ?_).gperm List.perm_middle
    refine (perm3 _ _ _ _ _).trans ?_
    refine List.Perm.trans ?_ (List.Perm.swap _ _ _)
    exact .cons _ (List.Perm.swap _ _ _)
  have hA' : Ar (A.in1.over (.func rBody (rEnv C f cd)) []) d := hA.in1.func
  refine hsrc _ _ _ ((a, genC g) :: (C, frC (flP tp)) :: (tp, tupS ["  ", tagOf n]) :: F) ((g, IsRun) :: GF) _ hA' (fun q hq => .tail _ (.tail _ (.tail _ (hF q hq)))) S₃ fun it s₂ L₂ G₂ hgv _ S₄ p => ?_
  exact loop_seg xs hA.in1 hF hlen hgv (fun r Li' Gi' _ hl' hg' => gives_loop B r.length r Li' Gi' (Nat.le_refl _) hl' hg') S₄ (fun e => hend (by rw [e]; rfl)) (fun y r e t s' L₂ G₂ hg S => hyld (vS y) (r.map vS) (by rw [e]; rfl) _ s' L₂ G₂ ⟨t, rfl⟩ hg S)

theorem St.drop1 {s : Shared} {a : Addr} {P : Cell} {L : Ledger} {G : GLedger} (S : St b s ((a, P) :: L) G) {h' : Heap} (hs : Heap.ExtBut a s.heap h') (tk : Nat := s.toks) : St b { s with heap := h', toks := tk } L G := by
  have hb := (S.own _ (.head _)).1
  have hnd := List.nodup_cons.mp S.nodup
  refine ⟨fun c oc e => hs c oc (fun h => ?_) (S.keep c oc e), fun p hp => ?_, hnd.2, S.os, S.bare, S.gens, S.gnodup⟩
  · subst h; rw [hb] at e; cases e
  · obtain ⟨h1, op, e, hq⟩ := S.own p (.tail _ hp)
    exact ⟨h1, op, hs _ _ (fun h => hnd.1 (h ▸ List.mem_map.mpr ⟨p, hp, rfl⟩)) e, hq⟩

/-- a list, by the makes of its items -/
def lstP (Ps : List VP) : Cell := fun o => ∃ vs n, o = lstObj vs n ∧ vs.size = Ps.length ∧ ∀ (i : Nat) (P : VP), Ps[i]? = some P → ∃ v, vs[i]? = some v ∧ P v

theorem strsAre_len {vs : List Value} {ys : List Str} (h : StrsAre vs ys) : vs.length = ys.length := by
  induction h with
  | nil => rfl
  | cons _ _ _ ih => simp [ih]
theorem strsAre_get {vs : List Value} {ys : List Str} (h : StrsAre vs ys) {i : Nat} {y : Str} (e : ys[i]? = some y) : ∃ t, vs[i]? = some (.str y t) := by
  induction h generalizing i with
  | nil => simp at e
  | cons z t _ ih =>
    cases i with
    | zero => simp at e; subst e; exact ⟨t, rfl⟩
    | succ i => simp at e; obtain ⟨t', h'⟩ := ih e; exact ⟨t', by simpa using h'⟩
theorem intsAre_get {vs : List Value} {ys : List Int} (h : IntsAre vs ys) {i : Nat} {y : Int} (e : ys[i]? = some y) : ∃ t, vs[i]? = some (.int y t) := by
  induction h generalizing i with
  | nil => simp at e
  | cons z t _ ih =>
    cases i with
    | zero => simp at e; subst e; exact ⟨t, rfl⟩
    | succ i => simp at e; obtain ⟨t', h'⟩ := ih e; exact ⟨t', by simpa using h'⟩

/-- the list at l, in the ledger or ahead of the call, holds values of these makes -/
def HasL (b : Shared) (Lr : Ledger) (l : Addr) (Ps : List VP) : Prop :=
  ∀ (s : Shared) (F : Ledger) (G : GLedger), (∀ p ∈ Lr, p ∈ F) → St b s F G → ∃ vs : Array Value, s.heap.IsList l vs ∧ vs.size = Ps.length ∧ ∀ (i : Nat) (P : VP), Ps[i]? = some P → ∃ v, vs[i]? = some v ∧ P v
theorem hasL_S {l : Addr} {ys : List Str} (h : (l, lstS ys) ∈ Lr) : HasL b Lr l (ys.map vS) := fun s F G hF S => by
  obtain ⟨vs, hl, hs⟩ := S.lst (hF _ h)
  refine ⟨vs, hl, ?_, fun i P e => ?_⟩
  · have := strsAre_len hs; simpa using this
  · rw [List.getElem?_map] at e
    obtain ⟨y, hy, rfl⟩ := Option.map_eq_some_iff.mp e
    obtain ⟨t, ht⟩ := strsAre_get hs hy
    exact ⟨_, by rw [← Array.getElem?_toList]; exact ht, t, rfl⟩
theorem hasL_V {l : Addr} {vs : List Value} (h : (l, lstV vs) ∈ Lr) : HasL b Lr l (vs.map vE) := fun s F G hF S => by
  refine ⟨vs.toArray, S.lstv (hF _ h), by simp, fun i P e => ?_⟩
  rw [List.getElem?_map] at e
  obtain ⟨y, hy, rfl⟩ := Option.map_eq_some_iff.mp e
  exact ⟨y, by simpa using hy, rfl⟩
theorem hasL_P {l : Addr} {Ps : List VP} (h : (l, lstP Ps) ∈ Lr) : HasL b Lr l Ps := fun s F G hF S => by
  obtain ⟨_, e, vs, n, rfl, h1, h2⟩ := S.get (hF _ h)
  exact ⟨vs, ⟨_, e, rfl, n, rfl⟩, h1, h2⟩
theorem hasL_base {l : Addr} {vs : List Value} {ns : List Int} (h : b.heap.IsList l vs.toArray) (hi : IntsAre vs ns) : HasL b Lr l (ns.map vI) := fun s F G _ S => by
  refine ⟨vs.toArray, h.at fun o e => S.keep _ _ e, by simpa using hi.length, fun i P e => ?_⟩
  rw [List.getElem?_map] at e
  obtain ⟨y, hy, rfl⟩ := Option.map_eq_some_iff.mp e
  obtain ⟨t, ht⟩ := intsAre_get hi hy
  exact ⟨_, by simpa using ht, t, rfl⟩

/-- a list's iterator -/
theorem gives_iter {I l : Addr} {Ps₀ : List VP} (hLr : HasL b Lr l Ps₀) : ∀ (Ps : List VP) (i : Nat), Ps₀.drop i = Ps → Gives prog w b Lr d (.ref I) Ps [(I, itC l i)] [] := by
  intro Ps
  induction Ps with
  | nil =>
    intro i hi A E s F GF Q hA hF S hQ
    obtain ⟨o, ho, hc, hd⟩ := S.get (.head _)
    obtain ⟨vs, hl, hz, _⟩ := hLr s _ _ (fun q hq => .tail _ (hF q hq)) S
    have hx : vs[i]? = none := by
      have h1 : Ps₀.length ≤ i := List.drop_eq_nil_iff.mp hi
      exact Array.getElem?_eq_none (by rw [hz]; exact h1)
    exact wpAny_pyNext_list_end hA.handled ⟨o, ho, hc, hd⟩ hl hx fun h' he => hQ _ (S.drop1 he)
  | cons P r ih =>
    intro i hi A E s F GF Q hA hF S hQ
    obtain ⟨o, ho, hc, hd⟩ := S.get (.head _)
    obtain ⟨vs, hl, _, hv⟩ := hLr s _ _ (fun q hq => .tail _ (hF q hq)) S
    have hy : Ps₀[i]? = some P := by
      have := congrArg (·[0]?) hi
      simpa using this
    have hr : Ps₀.drop (i + 1) = r := by
      have := congrArg List.tail hi
      simpa [List.tail_drop] using this
    obtain ⟨u, hx, hu⟩ := hv i P hy
    refine wpAny_pyNext_list_item ⟨o, ho, hc, hd⟩ hl hx fun h' hit hsb => ?_
    obtain ⟨o', ho', hc', hd'⟩ := hit
    exact hQ u _ _ _ hu (ih (i + 1) hr) (S.set (P' := itC l (i + 1)) .head ⟨_, .head _⟩ hsb.extBut ho' ⟨hc', hd'⟩)

theorem selfI_iter {I l : Addr} {i : Nat} : SelfI prog w b (.ref I) [(I, itC l i)] := fun A E s F GF Q S h => by
  obtain ⟨o, ho, hc, hd⟩ := S.get (.head _)
  exact wpAny_pyIter_listiter ⟨o, ho, hc, hd⟩ h
theorem selfI_gen {a : Addr} {g : Nat} {L₁ : Ledger} : SelfI prog w b (.ref a) ((a, genC g) :: L₁) := fun A E s F GF Q S h => wpAny_pyIter_gen (S.isGen (.head _)) h

/-- a list -/
theorem givesI_list {l : Addr} {Ps : List VP} (hLr : HasL b Lr l Ps) : GivesI prog w b Lr d (.ref l) Ps [] [] := by
  intro A E s F GF Q hA hF S hQ
  obtain ⟨vs, hl, _⟩ := hLr s _ _ hF S
  refine wpAny_pyIter_list hl ?_
  exact hQ _ _ _ _ (gives_iter hLr Ps 0 rfl) selfI_iter (S.alloc (P := itC l 0) ⟨rfl, rfl⟩)

/-- an iterator is its own iterator -/
theorem givesI_gen {a : Addr} {g : Nat} {ys : List VP} {L₁ : Ledger} {G₁ : GLedger} (h : Gives prog w b Lr d (.ref a) ys ((a, genC g) :: L₁) G₁) : GivesI prog w b Lr d (.ref a) ys ((a, genC g) :: L₁) G₁ := by
  intro A E s F GF Q hA hF S hQ
  exact wpAny_pyIter_gen (S.isGen (.head _)) (hQ _ _ _ _ h selfI_gen S)

/-- list(..) of a reader -/
theorem r_list_gives {A : Around} {E : Value → Shared → Prop} {s : Shared} {a : Addr} {g : Nat} {ys : List Str} {L₁ F : Ledger} {G₁ GF : GLedger} {Q : Value → Shared → Prop} (hg : Gives prog w b Lr d (.ref a) (ys.map vS) ((a, genC g) :: L₁) G₁) (hA : Ar A d) (hF : ∀ p ∈ Lr, p ∈ F)
    (S : St b s ((a, genC g) :: L₁ ++ F) (G₁ ++ GF)) (hz : ys.length ≤ sizeLine) (h : ∀ l s', St b s' ((l, lstS ys) :: F) GF → Q (.ref l) s') : wpAny (model prog w) A (call (.type "list") [.ref a]) Q E s := by
  let J : Addr → Nat → List Value → Shared → Prop := fun Sa k acc s => ∃ pre post L₂ G₂, ys = pre ++ post ∧ post.length = k ∧ StrsAre acc pre ∧ Gives prog w b Lr d (.ref a) (post.map vS) L₂ G₂ ∧ St b s (L₂ ++ ((Sa, lstV acc) :: F)) (G₂ ++ GF)
  refine r_list_gen (g := g) S (.head _) J (fun Sa s' S' => ⟨ys.length, [], ys, _, _, rfl, rfl, .nil, hg, S'.perm List.perm_middle⟩) ?_
  rintro Sa k acc s₁ ⟨pre, post, L₂, G₂, e, hk, hs, hg₂, S₁⟩
  have hA2 : Ar A.in1.in1 d := hA.in1.in1
  refine hg₂.next (F := (Sa, lstV acc) :: F) hA2 (fun q hq => .tail _ (hF q hq)) S₁ (fun e' s₂ S₂ => ?_) (fun y r e' u s₂ L₃ G₃ hu hg₃ S₂ => ?_)
  · have e' : post = [] := List.map_eq_nil_iff.mp e'
    subst e'
    rw [List.append_nil] at e
    subst e
    exact h _ _ (S₂.less (.head _) .head fun o ho => let ⟨n, hn⟩ := ho; ⟨_, n, hn, by simpa using hs⟩)
  · obtain ⟨y, r, rfl, rfl, rfl⟩ := List.map_eq_cons_iff.mp e'
    obtain ⟨t, rfl⟩ := hu
    refine ⟨_, _, L₃ ++ ((Sa, lstV (acc ++ [.str y t])) :: F), S₂, List.mem_append_right _ (.head _), Upd.head.left _, ?_, fun s₃ S₃ => ?_⟩
    · rw [strsAre_len hs]
      have : ys.length = pre.length + (r.length + 1) := by rw [e]; simp
      omega
    · refine ⟨r.length, by simp only [List.length_cons] at hk; omega, pre ++ [y], r, L₃, G₃, by rw [e]; simp, rfl, hs.append' (.cons _ _ .nil), hg₃, S₃⟩
end
end Mine

-- part LC
open PySem PySem.W PySem.W.X PyProof.Rows PySem.Calls
set_option Elab.async false
set_option maxRecDepth 100000
set_option maxHeartbeats 1000000
namespace Mine

/-- no exception -/
abbrev NoE : Value → Shared → Prop := fun _ _ => False

section
variable {prog : Program} {w : World} {A : Around} {E : Value → Shared → Prop} {b s : Shared} {L L' X : Ledger} {G : GLedger} {env : Env} {Lr : Ledger} {d : Nat} {mg mb : Str → Option Value} {names : List Str}

theorem noE {α : Type} {t : Sem α} {Q : α → Shared → Prop} (h : wpAny (model prog w) A t Q NoE s) : wpAny (model prog w) A t Q E s := wpAny_mono h (fun _ _ x => x) fun _ _ x => x.elim

/-- what follows a statement -/
def Then (prog : Program) (w : World) (A : Around) (env : Env) (rest : List Stmt) (Q : Flow → Shared → Prop) (E : Value → Shared → Prop) (f : Flow) (s' : Shared) : Prop :=
  match f with | .next => wpAny (model prog w) A (execs rest env) Q E s' | f => Q f s'
theorem r_seq {st : Stmt} {rest : List Stmt} {Q : Flow → Shared → Prop} (h : wpAny (model prog w) A (exec st env) (Then prog w A env rest Q E) E s) : wpAny (model prog w) A (execs (st :: rest) env) Q E s :=
  wpAny_execs_cons (wpAny_mono h (fun f s' h' => by cases f <;> exact h') fun _ _ x => x)
theorem then_next {rest : List Stmt} {Q : Flow → Shared → Prop} (h : wpAny (model prog w) A (execs rest env) Q E s) : Then prog w A env rest Q E .next s := h
theorem then_ret {rest : List Stmt} {Q : Flow → Shared → Prop} {v : Value} (h : Q (.ret v) s) : Then prog w A env rest Q E (.ret v) s := h

/-- what follows a turn of a loop -/
def Turn (Q : Flow → Shared → Prop) (N : Shared → Prop) (f : Flow) (s : Shared) : Prop :=
  match f with | .next | .cont => N s | .brk => Q .next s | .ret v => Q (.ret v) s
theorem turn_next {Q : Flow → Shared → Prop} {N : Shared → Prop} (h : N s) : Turn Q N .next s := h
theorem turn_ret {Q : Flow → Shared → Prop} {N : Shared → Prop} {v : Value} (h : Q (.ret v) s) : Turn Q N (.ret v) s := h

theorem perm_swap3 {α : Type} (a b c : List α) : (a ++ (b ++ c)).Perm (b ++ (a ++ c)) := by
  rw [← List.append_assoc, ← List.append_assoc]
  exact List.perm_append_comm.append_right c

/-- a for over whatever is iterable -/
theorem r_for {v₀ : Value} {Ps : List VP} {L₁ F₀ : Ledger} {G₁ : GLedger} {target iter : Expr} {body : List Stmt} {pos : Pos} {Q : Flow → Shared → Prop} (J : List VP → Ledger → Prop)
    (hsrc : GivesI prog w b Lr d v₀ Ps L₁ G₁) (hA : Ar A d)
    (hiter : wpAny (model prog w) A (eval iter env) (fun v s₁ => v = v₀ ∧ St b s₁ (L₁ ++ (F₀ ++ X)) (G₁ ++ G)) NoE s)
    (h0 : J [] F₀) (hR : ∀ pre F, J pre F → ∀ p ∈ Lr, p ∈ F ++ X)
    (turn : ∀ pre P r u F L₂ G₂ s, Ps = pre ++ P :: r → P u → J pre F → St b s (F ++ (L₂ ++ X)) (G₂ ++ G) →
      wpAny (model prog w) A (assign target env u) (fun _ s₂ => wpAny (model prog w) A (execs body env) (Turn Q fun s₃ => ∃ F', J (pre ++ [P]) F' ∧ St b s₃ (F' ++ (L₂ ++ X)) (G₂ ++ G)) NoE s₂) NoE s)
    (done : ∀ F s, J Ps F → St b s (F ++ X) G → Q .next s)
    (hs : ∀ x, foldedSetIterable iter env x = pure x := by intro _; kernel_rfl) (ht : ∀ it v, letOwnedTupleGo target it v = pure () := by intro _ _; kernel_rfl) :
    wpAny (model prog w) A (exec (.For target iter body [] pos) env) Q E s := by
  refine wpAny_For (wpAny_mono hiter (fun v s₁ h₁ => ?_) fun _ _ x => x.elim) hs
  obtain ⟨rfl, S₁⟩ := h₁
  refine hsrc A _ _ _ _ _ hA (hR [] F₀ h0) S₁ fun it s₂ L₂ G₂ hg _ S₂ => ?_
  refine codeAny_forLoop (fun n s => ∃ pre post F L₂ G₂, Ps = pre ++ post ∧ post.length = n ∧ J pre F ∧ Gives prog w b Lr d it post L₂ G₂ ∧ St b s (L₂ ++ (F ++ X)) (G₂ ++ G)) ?_ Ps.length ⟨[], Ps, F₀, L₂, G₂, rfl, rfl, h0, hg, S₂⟩ (ht it)
  rintro n s₃ ⟨pre, post, F, L₃, G₃, e, hn, hj, hg₃, S₃⟩
  refine hg₃.next hA (hR pre F hj) S₃ (fun e' s₄ S₄ => ?_) (fun P r e' u s₄ L₄ G₄ hu hg₄ S₄ => ?_)
  · subst e'
    rw [List.append_nil] at e
    subst e
    exact wpAny_execs_nil (done F s₄ hj S₄)
  · subst e'
    refine wpAny_mono (turn pre P r u F L₄ G₄ s₄ e hu hj (S₄.perm (perm_swap3 F L₄ X))) (fun _ s₅ h₅ => ?_) fun _ _ x => x.elim
    refine wpAny_mono h₅ (fun f s₆ h₆ => ?_) fun _ _ x => x.elim
    have nx : (∃ F', J (pre ++ [P]) F' ∧ St b s₆ (F' ++ (L₄ ++ X)) (G₄ ++ G)) → ∃ m, m < n ∧ ∃ pre post F L₂ G₂, Ps = pre ++ post ∧ post.length = m ∧ J pre F ∧ Gives prog w b Lr d it post L₂ G₂ ∧ St b s₆ (L₂ ++ (F ++ X)) (G₂ ++ G) := by
      rintro ⟨F', hj', S'⟩
      exact ⟨r.length, by simp only [List.length_cons] at hn; omega, pre ++ [P], r, F', L₄, G₄, by rw [e]; simp, rfl, hj', hg₄, S'.perm (perm_swap3 L₄ F' X)⟩
    cases f with
    | next => exact nx h₆
    | cont => exact nx h₆
    | brk => exact h₆
    | ret v => exact h₆

/-- a while by a measure -/
theorem r_while {test : Expr} {body : List Stmt} {pos : Pos} {Q : Flow → Shared → Prop} (I : Nat → Shared → Prop) (n : Nat) (h : I n s)
    (turn : ∀ n s, I n s → wpAny (model prog w) A (isTrue test env (eval test env)) (fun c s₂ => if c = true then wpAny (model prog w) A (execs body env) (Turn Q fun s₃ => ∃ m, m < n ∧ I m s₃) NoE s₂ else Q .next s₂) NoE s) :
    wpAny (model prog w) A (exec (.While test body [] pos) env) Q E s := by
  refine wpAny_While (codeAny_whileLoop I (fun n s hi => ?_) n h)
  refine wpAny_mono (turn n s hi) (fun c s₂ h₂ => ?_) fun _ _ x => x.elim
  cases c with
  | true =>
    rw [if_pos rfl] at h₂
    show wpAny _ _ _ _ _ _
    refine wpAny_mono h₂ (fun f s₃ h₃ => ?_) fun _ _ x => x.elim
    cases f <;> exact h₃
  | false =>
    rw [if_neg Bool.false_ne_true] at h₂
    exact wpAny_execs_nil h₂
end
end Mine

-- part LCc
open PySem PySem.W PySem.W.X PyProof.Rows PySem.Calls
set_option Elab.async false
set_option maxRecDepth 100000
set_option maxHeartbeats 1000000
namespace Mine

section
variable {prog : Program} {w : World} {A : Around} {E : Value → Shared → Prop} {b s : Shared} {L L' X : Ledger} {G : GLedger} {env : Env} {Lr : Ledger} {d : Nat} {mg mb : Str → Option Value} {names : List Str}

abbrev testsOf (ifs : List Expr) (env : Env) : Sem Bool := forIn ifs true fun c r => if r = true then do let ok ← isTrue c env (eval c env); pure (ForInStep.yield ok) else pure (ForInStep.yield r)

/-- a comprehension over whatever is iterable -/
theorem comp_core {v₀ : Value} {Ps : List VP} {L₁ F₀ : Ledger} {G₁ : GLedger} {elt iter : Expr} {x : Str} {px pos pos' : Pos} {ifs : List Expr} {scope : Scope} {cl : List (Str × Addr)} {use : Option (Value → Sem Unit)} {Q : Value → Shared → Prop}
    (J : List VP → List Value → Ledger → Prop)
    (hsrc : GivesI prog w b Lr d v₀ Ps L₁ G₁) (hA : Ar A d)
    (hiter : wpAny (model prog w) A (eval iter env) (fun v s₁ => v = v₀ ∧ St b s₁ (L₁ ++ (F₀ ++ X)) (G₁ ++ G)) NoE s)
    (h0 : J [] [] F₀) (hR : ∀ pre acc F, J pre acc F → ∀ p ∈ Lr, p ∈ F ++ X) (hz : ∀ pre acc F, J pre acc F → acc.length ≤ pre.length) (hPs : Ps.length ≤ sizeLine)
    (turn : ∀ pre P r u acc F C D L₂ G₂ s, Ps = pre ++ P :: r → P u → J pre acc F → St b s ((C, frC [(x, vE u)]) :: (D, lstV acc) :: (F ++ (L₂ ++ X))) (G₂ ++ G) →
      wpAny (model prog w) A (testsOf ifs (compEnvC scope cl C env)) (fun ok s₂ =>
        if ok = true then wpAny (model prog w) A (eval elt (compEnvC scope cl C env)) (fun y s₃ => ∃ F', J (pre ++ [P]) (acc ++ [y]) F' ∧ St b s₃ ((C, frC [(x, vE u)]) :: (D, lstV acc) :: (F' ++ (L₂ ++ X))) (G₂ ++ G)) NoE s₂
        else ∃ F', J (pre ++ [P]) acc F' ∧ St b s₂ ((C, frC [(x, vE u)]) :: (D, lstV acc) :: (F' ++ (L₂ ++ X))) (G₂ ++ G)) NoE s)
    (hfin : ∀ acc F C D s', J Ps acc F → St b s' ((C, frC []) :: (D, lstV acc) :: (F ++ X)) G → compPost (model prog w) A E use Q (.ref D) C (.ok .next) s')
    (hclos : closureFor scope env = pure cl) (hkind : scope.kind = .function) (hnames : ∀ y ∈ scope.names, y.2 = .local → scope.names.lookup y.1 = some .local)
    (hcell : ∀ y ∈ scope.names, y.2 ≠ .cell) (hx : scope.names.lookup x = some .local) (hs : ∀ v, foldedSetIterable iter env v = pure v) :
    wpAny (model prog w) A (comprehension (.ListComp elt [⟨.Name x px, iter, ifs, 0⟩] scope pos') scope env pos (newList []) false (eval iter env) use) Q E s := by
  refine wpAny_comprehension_free (g := ⟨.Name x px, iter, ifs, 0⟩) (gs := []) rfl hs hclos hkind hnames ?_
  refine wpAny_mono hiter (fun v s₁ h₁ => ?_) fun _ _ x => x.elim
  obtain ⟨rfl, S₁⟩ := h₁
  refine hsrc A _ _ _ _ _ hA (hR [] [] F₀ h0) S₁ fun it s₂ L₂ G₂ hg hself S₂ => ?_
  refine r_newList S₂ lstV_mk fun D s₃ S₃ => ?_
  refine wpAny_newFunctionEnv (scope := scope) (binds := []) hcell (fun y hy => nomatch hy) (fun h' hn hsb => ?_) hkind
  obtain ⟨oC, hoC, hcC⟩ := frC_of (fl := []) hn (fun p hp => nomatch hp)
  have S₄ : St b { s₃ with heap := h', toks := s₃.toks + ([] : List (Str × Value)).length } ((s₃.heap.objs.size, frC []) :: (D, lstV []) :: (L₂ ++ (F₀ ++ X))) (G₂ ++ G) :=
    S₃.new (heap_get_size _) (fun a o e => hsb.extBut a o (Nat.ne_of_lt (Heap.lt_size e)) (Heap.get?_push_of_some _ e)) hoC hcC
  generalize hC : s₃.heap.objs.size = C at S₄
  show codeAny _ A (.compStart _ 0 it (.ref D) (compEnvC scope cl C env)) (compPost _ A E use Q (.ref D) C) _
  have S₅ : St b _ (L₂ ++ ((C, frC []) :: (D, lstV []) :: (F₀ ++ X))) (G₂ ++ G) := S₄.perm (by
    refine List.perm_middle.trans (.cons _ ?_)
    exact List.perm_middle)
  have loop : ∀ (it : Value) (s : Shared) (L₂ : Ledger) (G₂ : GLedger), Gives prog w b Lr d it Ps L₂ G₂ → St b s (L₂ ++ ((C, frC []) :: (D, lstV []) :: (F₀ ++ X))) (G₂ ++ G) →
      codeAny (model prog w) A (.compLoop (.ListComp elt [⟨.Name x px, iter, ifs, 0⟩] scope pos') 0 it (.ref D) (compEnvC scope cl C env)) (compPost (model prog w) A E use Q (.ref D) C) s := by
    intro it s L₂ G₂ hg S
    refine codeAny_compLoop_tests (fun n s => ∃ pre post acc F L₂ G₂, Ps = pre ++ post ∧ post.length = n ∧ J pre acc F ∧ Gives prog w b Lr d it post L₂ G₂ ∧ St b s (L₂ ++ ((C, frC []) :: (D, lstV acc) :: (F ++ X))) (G₂ ++ G)) ?_ Ps.length
      ⟨[], Ps, [], F₀, L₂, G₂, rfl, rfl, h0, hg, S⟩
    rintro n s₃ ⟨pre, post, acc, F, L₃, G₃, e, hn, hj, hg₃, S₃⟩
    refine hg₃.next hA (fun q hq => .tail _ (.tail _ (hR pre acc F hj q hq))) S₃ (fun e' s₄ S₄ => ?_) (fun P r e' u s₄ L₄ G₄ hu hg₄ S₄ => ?_)
    · subst e'
      rw [List.append_nil] at e
      subst e
      exact hfin acc F C D s₄ hj S₄
    · subst e'
      have S₅ : St b s₄ ((C, frC []) :: (D, lstV acc) :: (F ++ (L₄ ++ X))) (G₄ ++ G) := S₄.perm (by
        refine List.Perm.trans ?_ (List.perm_middle.symm)
        refine .cons _ ?_
        refine List.Perm.trans ?_ (List.perm_middle.symm)
        exact .cons _ (perm_swap3 F L₄ X))
      refine wpAny_assign_Name (r_store (P := vE u) S₅ (.head _) rfl .nil .head (fun s₅ S₆ => ?_) (lookup_relabel_local hx) (by show (scope.kind == .class || (scope.kind == .module && _)) = false; rw [hkind]; rfl))
      refine wpAny_mono (turn pre P r u acc F C D L₄ G₄ s₅ e hu hj S₆) (fun ok s₆ h₆ => ?_) fun _ _ x => x.elim
      have back : ∀ {acc' F' s}, St b s ((C, frC [(x, vE u)]) :: (D, lstV acc') :: (F' ++ (L₄ ++ X))) (G₄ ++ G) → St b s (L₄ ++ ((C, frC []) :: (D, lstV acc') :: (F' ++ X))) (G₄ ++ G) := fun S => by
        refine (S.less (.head _) .head fun o ho => frC_sub (fl' := []) (fun q hq => nomatch hq) ho).perm ?_
        refine List.perm_middle.trans (.cons _ ?_)
        refine List.perm_middle.trans (.cons _ ?_)
        exact perm_swap3 _ _ _
      cases ok with
      | true =>
        rw [if_pos rfl] at h₆ ⊢
        refine wpAny_mono h₆ (fun y s₇ h₇ => ?_) fun _ _ x => x.elim
        obtain ⟨F', hj', S₇⟩ := h₇
        have hlen : acc.length < sizeLine := by
          have h1 := hz pre acc F hj
          have h2 : Ps.length = pre.length + (r.length + 1) := by rw [e]; simp
          omega
        obtain ⟨_, hoD, nD, rfl⟩ := S₇.get (.tail _ (.head _))
        refine wpAny_list_append_plain (x := y) ⟨nD, hoD⟩ (fun h' hl hsb => ?_) (by simpa using Nat.le_of_lt hlen)
        obtain ⟨n', ho'⟩ := hl
        refine ⟨r.length, by simp only [List.length_cons] at hn; omega, pre ++ [P], r, acc ++ [y], F', L₄, G₄, by rw [e]; simp, rfl, hj', hg₄, back ?_⟩
        exact S₇.set (P' := lstV (acc ++ [y])) (.tail .head) ⟨_, .tail _ (.head _)⟩ hsb.extBut ho' ⟨n', by simp⟩
      | false =>
        rw [if_neg Bool.false_ne_true] at h₆ ⊢
        obtain ⟨F', hj', S₇⟩ := h₆
        exact ⟨r.length, by simp only [List.length_cons] at hn; omega, pre ++ [P], r, acc, F', L₄, G₄, by rw [e]; simp, rfl, hj', hg₄, back S₇⟩
  refine codeAny_compStart_list (loop it _ L₂ G₂ hg S₅) ?_
  exact hself A _ _ _ _ _ S₅ (loop it _ L₂ G₂ hg S₅)
end
end Mine

-- part LD
open PySem PySem.W PySem.W.X PyProof.Rows PySem.Calls PySem.Spec
set_option Elab.async false
set_option maxRecDepth 100000
set_option maxHeartbeats 1000000
namespace Mine

section
variable {prog : Program} {w : World} {A : Around} {E : Value → Shared → Prop} {b s : Shared} {L L' X : Ledger} {G : GLedger} {env : Env} {Lr : Ledger} {d : Nat} {mg mb : Str → Option Value} {names : List Str} {Q : Value → Shared → Prop}

theorem r_nameE {x : Str} {pos : Pos} {fl : List (Str × VP)} {v : Value} (S : St b s L G) (hf : (env.locals, frC fl) ∈ L) (hx : (x, vE v) ∈ fl) (h : Q v s)
    (hk : env.scope.kind = .function := by kernel_rfl) (hl : env.kindOf x = some .local := by kernel_rfl) (hd : (x == ("__debug__" : Str)) = false := by kernel_rfl) :
    wpAny (model prog w) A (eval (.Name x pos) env) Q E s := r_name S hf hx (fun _ e => e ▸ h) hk hl hd
theorem r_nameI {x : Str} {pos : Pos} {fl : List (Str × VP)} {i : Int} (S : St b s L G) (hf : (env.locals, frC fl) ∈ L) (hx : (x, vI i) ∈ fl) (h : ∀ t, Q (.int i t) s)
    (hk : env.scope.kind = .function := by kernel_rfl) (hl : env.kindOf x = some .local := by kernel_rfl) (hd : (x == ("__debug__" : Str)) = false := by kernel_rfl) :
    wpAny (model prog w) A (eval (.Name x pos) env) Q E s := r_name S hf hx (fun _ ⟨t, e⟩ => e ▸ h t) hk hl hd
theorem r_nameS {x : Str} {pos : Pos} {fl : List (Str × VP)} {y : Str} (S : St b s L G) (hf : (env.locals, frC fl) ∈ L) (hx : (x, vS y) ∈ fl) (h : ∀ t, Q (.str y t) s)
    (hk : env.scope.kind = .function := by kernel_rfl) (hl : env.kindOf x = some .local := by kernel_rfl) (hd : (x == ("__debug__" : Str)) = false := by kernel_rfl) :
    wpAny (model prog w) A (eval (.Name x pos) env) Q E s := r_name S hf hx (fun _ ⟨t, e⟩ => e ▸ h t) hk hl hd

/-! ints -/
theorem r_add {x y : Int} {t u : Tok} (S : St b s L G) (h : ∀ t s', St b s' L G → Q (.int (x + y) t) s') : wpAny (model prog w) A (binaryOp .Add (.int x t) (.int y u)) Q E s := PyProof.Rows.add_int (h _ _ (S.toks _))
theorem r_iadd {x y : Int} {t u : Tok} (S : St b s L G) (h : ∀ t s', St b s' L G → Q (.int (x + y) t) s') : wpAny (model prog w) A (inplaceOp .Add (.int x t) (.int y u)) Q E s := PyProof.Rows.iadd_int (h _ _ (S.toks _))
theorem r_sub {x y : Int} {t u : Tok} (S : St b s L G) (h : ∀ t s', St b s' L G → Q (.int (x - y) t) s') : wpAny (model prog w) A (binaryOp .Sub (.int x t) (.int y u)) Q E s := PyProof.Rows.sub_int (h _ _ (S.toks _))
theorem r_mod {x y : Int} {t u : Tok} (S : St b s L G) (hy : y ≠ 0) (h : ∀ t s', St b s' L G → Q (.int (x.fmod y) t) s') : wpAny (model prog w) A (binaryOp .Mod (.int x t) (.int y u)) Q E s := PyProof.Rows.mod_int hy (h _ _ (S.toks _))
theorem r_fdiv {x y : Int} {t u : Tok} (S : St b s L G) (hy : y ≠ 0) (hp : PylongRoom (model prog w) A s) (h : ∀ t s', St b s' L G → Q (.int (x.fdiv y) t) s') : wpAny (model prog w) A (binaryOp .FloorDiv (.int x t) (.int y u)) Q E s :=
  floordiv_int hy (h _ _ (S.toks _)) (.inr hp)
theorem r_pow {x n : Int} {t u : Tok} (S : St b s L G) (h0 : 0 ≤ n) (h1 : n ≤ 1000000) (hx : x.natAbs < 2 ^ 64) (h : ∀ t s', St b s' L G → Q (.int (x ^ n.toNat) t) s') : wpAny (model prog w) A (binaryOp .Pow (.int x t) (.int n u)) Q E s :=
  pow_int_small h0 h1 hx (h _ _ (S.toks _))
theorem r_lt {x y : Int} {t u : Tok} (h : Q (.bool (decide (x < y))) s) : wpAny (model prog w) A (compareOp .Lt (.int x t) (.int y u)) Q E s := PyProof.Rows.lt_int h
theorem r_gt {x y : Int} {t u : Tok} (h : Q (.bool (decide (y < x))) s) : wpAny (model prog w) A (compareOp .Gt (.int x t) (.int y u)) Q E s := PyProof.Rows.gt_int h
theorem r_eqI {x y : Int} {t u : Tok} (h : Q (.bool (x == y)) s) : wpAny (model prog w) A (compareOp .Eq (.int x t) (.int y u)) Q E s := PyProof.Rows.eq_int h

/-! texts -/
theorem r_addS {x y : Str} {t u : Tok} (S : St b s L G) (hz : x.length + y.length ≤ sizeLine) (h : ∀ t s', St b s' L G → Q (.str (x ++ y) t) s') : wpAny (model prog w) A (binaryOp .Add (.str x t) (.str y u)) Q E s :=
  PyProof.Rows.add_str (fun t' tk => h t' _ (S.toks tk)) hz
theorem r_eqS {x y : Str} {t u : Tok} (h : Q (.bool (x == y)) s) : wpAny (model prog w) A (compareOp .Eq (.str x t) (.str y u)) Q E s := PyProof.Rows.eq_str h
theorem r_neS {x y : Str} {t u : Tok} (h : Q (.bool (x != y)) s) : wpAny (model prog w) A (compareOp .NotEq (.str x t) (.str y u)) Q E s := PyProof.Rows.ne_str h
theorem r_strI {x : Int} {t : Tok} (S : St b s L G) (hx : x.natAbs.log2 < 1920) (h : ∀ t s', St b s' L G → Q (.str (toString x) t) s') : wpAny (model prog w) A (call (.type "str") [.int x t]) Q E s :=
  P.str_of_int hx (h _ _ (S.toks _))

/-! lists -/
theorem St.isLS (S : St b s L G) {l : Addr} {ys : List Str} (h : (l, lstS ys) ∈ L) : ∃ vs n, IsL s.heap l vs n ∧ StrsAre vs.toList ys :=
by
  obtain ⟨_, e, vs, n, rfl, hs⟩ := S.get h
  exact ⟨vs, n, e, hs⟩
theorem St.isLV (S : St b s L G) {l : Addr} {vs : List Value} (h : (l, lstV vs) ∈ L) : ∃ n, IsL s.heap l vs.toArray n :=
by
  obtain ⟨_, e, n, rfl⟩ := S.get h
  exact ⟨n, e⟩
theorem size_of {vs : Array Value} {ys : List Str} (h : StrsAre vs.toList ys) : vs.size = ys.length := by have := strsAre_len h; simpa using this

theorem r_lenS {l : Addr} {ys : List Str} (S : St b s L G) (hl : (l, lstS ys) ∈ L) (hz : ys.length ≤ sizeLine) (h : ∀ t s', St b s' L G → Q (.int ys.length t) s') : wpAny (model prog w) A (call (.builtin "len") [.ref l]) Q E s := by
  obtain ⟨vs, n, hv, hs⟩ := S.isLS hl
  refine call_len_list hv.isList ?_ ?_
  · rw [size_of hs]; have : sizeLine < 2 ^ 63 := by decide
    omega
  · rw [size_of hs]; exact h _ _ (S.toks _)
theorem r_lenV {l : Addr} {vs : List Value} (S : St b s L G) (hl : (l, lstV vs) ∈ L) (hz : vs.length ≤ sizeLine) (h : ∀ t s', St b s' L G → Q (.int vs.length t) s') : wpAny (model prog w) A (call (.builtin "len") [.ref l]) Q E s := by
  obtain ⟨n, hv⟩ := S.isLV hl
  refine call_len_list hv.isList ?_ ?_
  · rw [List.size_toArray]; have : sizeLine < 2 ^ 63 := by decide
    omega
  · rw [List.size_toArray]; exact h _ _ (S.toks _)

theorem r_itemS {value slice : Expr} {l : Addr} {ys : List Str} {k : Int} {u : Tok} {y : Str} (S : St b s L G) (hl : (l, lstS ys) ∈ L) (h0 : 0 ≤ k) (hz : k < 2 ^ 63) (hy : ys[k.toNat]? = some y) (h : ∀ t, Q (.str y t) s)
    (hs : subscripted slice false (.ref l) (.int k u) = operate [.ref l, .int k u] (getItem (.ref l) (.int k u)) := by kernel_rfl) :
    wpAny (model prog w) A (subscriptTail value slice (.ref l) (.int k u)) Q E s := by
  obtain ⟨vs, n, hv, hst⟩ := S.isLS hl
  obtain ⟨t, ht⟩ := strsAre_get hst hy
  exact tail_any hv.isList.typeIs slot_list_getitem.lookup (wpAny_getItem_list hv.isList h0 hz (by rw [← Array.getElem?_toList]; exact ht) (h t)) hs
theorem r_itemV {value slice : Expr} {l : Addr} {vs : List Value} {k : Int} {u : Tok} {v : Value} (S : St b s L G) (hl : (l, lstV vs) ∈ L) (h0 : 0 ≤ k) (hz : k < 2 ^ 63) (hy : vs[k.toNat]? = some v) (h : Q v s)
    (hs : subscripted slice false (.ref l) (.int k u) = operate [.ref l, .int k u] (getItem (.ref l) (.int k u)) := by kernel_rfl) :
    wpAny (model prog w) A (subscriptTail value slice (.ref l) (.int k u)) Q E s := by
  obtain ⟨n, hv⟩ := S.isLV hl
  exact tail_any hv.isList.typeIs slot_list_getitem.lookup (wpAny_getItem_list hv.isList h0 hz (by simpa using hy) h) hs

/-- a method of a list's, of one argument -/
theorem r_meth1 {o e : Expr} {name : Str} {apos pos : Pos} {id : String} (slot : Slot "list" name id) (hty : typeOf (.builtin id) = pure (.type "method_descriptor"))
    (h : wpAny (model prog w) A (eval o env) (fun ov s₁ => ∃ D ob, ov = .ref D ∧ s₁.heap.get? D = some ob ∧ ob.cls = .type "list" ∧ ob.dict = none ∧ wpAny (model prog w) A (callWith pos (.builtin id) [.ref D] [(false, eval e env)] []) Q E s₁) E s)
    (hbase : attributeBase o name env (eval o env) = eval o env := by kernel_rfl) (hline : (apos.endLine == pos.line) = true := by kernel_rfl) (htrees : backTo pos (starEach [e] env) = [(false, eval e env)] := by kernel_rfl) :
    wpAny (model prog w) A (eval (.Call (.Attribute o name apos) [e] [] pos) env) Q E s := by
  refine wpAny_Call_method (T := "list") (id := id) hbase (by rw [htrees]; rfl) hline F.plainAttrs_list slot hty (wpAny_mono h (fun ov s₁ h₁ => ?_) fun _ _ x => x)
  obtain ⟨D, ob, rfl, ho, hc, hd, h₂⟩ := h₁
  refine ⟨⟨ob, ho, hc⟩, fun a e => ?_, by rw [htrees]; exact h₂⟩
  cases e
  exact ⟨ob, ho, hd⟩
end
end Mine

-- part LD2
open PySem PySem.W PySem.W.X PyProof.Rows PySem.Calls PySem.Spec PySem.SeqAt
set_option Elab.async false
set_option maxRecDepth 100000
set_option maxHeartbeats 1000000
namespace Mine

/-- l[lo:hi] -/
def pick {α : Type} (l : List α) (lo hi : Option Int) : List α := (l.drop (kms_lo lo l.length)).take (kms_hi hi l.length - kms_lo lo l.length)
theorem strs_drop {vs : List Value} {ys : List Str} (h : StrsAre vs ys) : ∀ n, StrsAre (vs.drop n) (ys.drop n) := by
  induction h with
  | nil => intro n; simpa using StrsAre.nil
  | cons y t h ih => intro n; cases n with
    | zero => exact .cons y t h
    | succ n => simpa using ih n
theorem strs_take {vs : List Value} {ys : List Str} (h : StrsAre vs ys) : ∀ n, StrsAre (vs.take n) (ys.take n) := by
  induction h with
  | nil => intro n; simpa using StrsAre.nil
  | cons y t h ih => intro n; cases n with
    | zero => exact .nil
    | succ n => simpa using StrsAre.cons y t (ih n)

section
variable {prog : Program} {w : World} {A : Around} {E : Value → Shared → Prop} {b s : Shared} {L L' X : Ledger} {G : GLedger} {env : Env} {Lr : Ledger} {d : Nat} {mg mb : Str → Option Value} {names : List Str} {Q : Value → Shared → Prop}

/-- a cut of a list of texts -/
theorem r_slcS {value : Expr} {lower upper : Option Expr} {p pos : Pos}
    (h : wpAny (model prog w) A (eval value env) (fun o s₁ => ∃ l, o = .ref l ∧ wpAny (model prog w) A (evalPart lower env) (fun vl s₂ => wpAny (model prog w) A (evalPart upper env) (fun vu s₃ =>
      ∃ lo hi ys L G, IsPart vl lo ∧ IsPart vu hi ∧ St b s₃ L G ∧ (l, lstS ys) ∈ L ∧ ys.length ≤ sizeLine ∧ ∀ a s', St b s' ((a, lstS (pick ys lo hi)) :: L) G → Q (.ref a) s') E s₂) E s₁) E s)
    (ht : ∀ o r, letTemporaryGo value o r = pure () := by intro _ _; kernel_rfl) :
    wpAny (model prog w) A (eval (.Subscript value (.Slice lower upper none p) pos) env) Q E s := by
  refine wpAny_Subscript_list_slice (wpAny_mono h (fun o s₁ h₁ => ?_) fun _ _ x => x) ht
  obtain ⟨l, rfl, h₁⟩ := h₁
  refine wpAny_mono h₁ (fun vl s₂ h₂ => wpAny_mono h₂ (fun vu s₃ h₃ => ?_) fun _ _ x => x) fun _ _ x => x
  obtain ⟨lo, hi, ys, L, G, hlo, hhi, S, hl, hz, hQ⟩ := h₃
  obtain ⟨vs, n, hv, hs⟩ := S.isLS hl
  refine ⟨l, vs, lo, hi, rfl, hv.isList, by rw [size_of hs]; exact hz, hlo, hhi, ?_⟩
  have S₁ := S.push { cls := .type "slice", data := .fields #[vl, vu, .none] } s₃.toks
  have e : s₃.heap.objs.size + 1 = (s₃.heap.push { cls := .type "slice", data := .fields #[vl, vu, .none] }).objs.size := by rw [Heap.size_push]
  rw [e]
  refine hQ _ _ (S₁.alloc (o := { cls := .type "list", data := .seq (slicePick vs lo hi none) }) ⟨_, 0, rfl, ?_⟩)
  rw [kms_pick_eq]
  have hsz := strsAre_len hs
  show StrsAre (kms_pick vs.toList lo hi) (pick ys lo hi)
  unfold kms_pick pick
  rw [hsz]
  exact strs_take (strs_drop hs _) _

/-! append, extend -/
theorem r_appS {pos : Pos} {l : Addr} {ys : List Str} {x : Sem Value} (h : wpAny (model prog w) A x (fun v s₁ => ∃ y t L L' G, v = .str y t ∧ St b s₁ L G ∧ (l, lstS ys) ∈ L ∧ Upd L l (lstS (ys ++ [y])) L' ∧ ys.length ≤ sizeLine ∧ ∀ s', St b s' L' G → Q .none s') E s) :
    wpAny (model prog w) A (callWith pos (.builtin "list.append") [.ref l] [(false, x)] []) Q E s := by
  refine P.append_list (wpAny_mono h (fun v s₁ h₁ => ?_) fun _ _ x => x)
  obtain ⟨y, t, L, L', G, rfl, S, hl, hu, hz, hQ⟩ := h₁
  obtain ⟨vs, n, hv, hs⟩ := S.isLS hl
  refine ⟨vs, n, by rw [size_of hs]; exact hz, hv, ?_⟩
  refine hQ _ (S.set hu ⟨_, hl⟩ (Heap.SameBut.update ..).extBut (hv.update _) ⟨_, _, rfl, ?_⟩)
  simpa using hs.append' (.cons y t .nil)
theorem r_appV {pos : Pos} {l : Addr} {vs : List Value} {x : Sem Value} (h : wpAny (model prog w) A x (fun v s₁ => ∃ L L' G, St b s₁ L G ∧ (l, lstV vs) ∈ L ∧ Upd L l (lstV (vs ++ [v])) L' ∧ vs.length ≤ sizeLine ∧ ∀ s', St b s' L' G → Q .none s') E s) :
    wpAny (model prog w) A (callWith pos (.builtin "list.append") [.ref l] [(false, x)] []) Q E s := by
  refine P.append_list (wpAny_mono h (fun v s₁ h₁ => ?_) fun _ _ x => x)
  obtain ⟨L, L', G, S, hl, hu, hz, hQ⟩ := h₁
  obtain ⟨n, hv⟩ := S.isLV hl
  refine ⟨vs.toArray, n, by simpa using hz, hv, ?_⟩
  refine hQ _ (S.set hu ⟨_, hl⟩ (Heap.SameBut.update ..).extBut (hv.update _) ?_)
  exact ⟨_, by rw [show (vs ++ [v]).toArray = vs.toArray.push v by simp]⟩
theorem r_extS {pos : Pos} {l : Addr} {ys : List Str} {x : Sem Value} (h : wpAny (model prog w) A x (fun v s₁ => ∃ l' zs L L' G, v = .ref l' ∧ St b s₁ L G ∧ (l, lstS ys) ∈ L ∧ (l', lstS zs) ∈ L ∧ Upd L l (lstS (ys ++ zs)) L' ∧ ys.length + zs.length ≤ sizeLine ∧ ∀ s', St b s' L' G → Q .none s') E s) :
    wpAny (model prog w) A (callWith pos (.builtin "list.extend") [.ref l] [(false, x)] []) Q E s := by
  refine P.extend_list (wpAny_mono h (fun v s₁ h₁ => ?_) fun _ _ x => x)
  obtain ⟨l', zs, L, L', G, rfl, S, hl, hl', hu, hz, hQ⟩ := h₁
  obtain ⟨vs, n, hv, hs⟩ := S.isLS hl
  obtain ⟨us, m, hv', hs'⟩ := S.isLS hl'
  have h1 := size_of hs
  have h2 := size_of hs'
  refine ⟨l', vs, us, n, m, by omega, by omega, PyProof.Rows.extend_door (by omega), rfl, hv, hv', ?_⟩
  refine hQ _ (S.set hu ⟨_, hl⟩ (Heap.SameBut.update ..).extBut (hv.update _) ⟨_, _, rfl, ?_⟩)
  simpa using hs.append' hs'
/-- rows.append(e), rows.extend(e) as statements -/
theorem r_stmtE {e : Expr} {pos : Pos} {Q : Flow → Shared → Prop} (h : wpAny (model prog w) A (eval e env) (fun v s' => v = .none ∧ Q .next s') E s)
    (hi : interactive env = false := by kernel_rfl) (hs : swapsWith e none pos.line env = pure false := by kernel_rfl) : wpAny (model prog w) A (exec (.Expr e pos) env) Q E s :=
  wpAny_Expr (wpAny_mono h (fun v s' h' => by obtain ⟨rfl, h'⟩ := h'; exact h') fun _ _ x => x) hi hs

/-! two lists of texts compared -/
theorem reads_strs {h : Heap} : ∀ {vs : List Value} {ys : List Str}, StrsAre vs ys → ReadsAll h vs (ys.map PyData.str) []
  | _, _, .nil => .nil
  | _, _, .cons y t hr => .cons (.str y t) (reads_strs hr)
theorem reads_strsL {h : Heap} {a : Addr} {vs : Array Value} {n : Nat} {ys : List Str} (hl : IsL h a vs n) (hs : StrsAre vs.toList ys) : Reads h (.ref a) (.list (ys.map PyData.str)) [a] := by
  obtain ⟨l⟩ := vs
  exact .list hl rfl rfl (reads_strs hs)
/-- texts of real signs -/
def OkS (ys : List Str) : Prop := ∀ y ∈ ys, PyData.strOk y = true
theorem canLay_strs : ∀ ys : List Str, OkS ys → PyData.canLayAll0 (ys.map PyData.str) = true
  | [], _ => rfl
  | y :: r, h => by simp only [List.map_cons, PyData.canLayAll0, PyData.canLay0, canLay_strs r (fun z hz => h z (.tail _ hz)), h y (.head _), Bool.and_self]
theorem depth_strs : ∀ ys : List Str, PyData.depthAll (ys.map PyData.str) ≤ 1
  | [] => by simp [PyData.depthAll]
  | _ :: r => by
    simp only [List.map_cons, PyData.depthAll, PyData.depth]
    have := depth_strs r
    omega
theorem shaped_strs {ys : List Str} (h : OkS ys) : shaped (.list (ys.map PyData.str)) = true := by
  have h1 := depth_strs ys
  have h2 : PyData.depth (.list (ys.map PyData.str)) ≤ 64 := by simp only [PyData.depth]; omega
  simp only [shaped, Bool.and_eq_true, decide_eq_true_eq]
  exact ⟨by simp only [PyData.canLay0]; exact canLay_strs ys h, h2⟩
theorem noMix_strs : ∀ ns ms : List Str, noMixAll (ns.map PyData.str) (ms.map PyData.str) = true
  | [], [] => rfl
  | [], _ :: _ => rfl
  | _ :: _, [] => rfl
  | _ :: r, _ :: q => by simp only [List.map_cons, noMixAll, noMix, noMix_strs r q, Bool.and_self]
theorem same_strs : ∀ ns ms : List Str, PySem.Spec.sameAll (ns.map PyData.str) (ms.map PyData.str) = decide (ns = ms)
  | [], [] => by simp [PySem.Spec.sameAll]
  | [], _ :: _ => by simp [PySem.Spec.sameAll]
  | _ :: _, [] => by simp [PySem.Spec.sameAll]
  | n :: r, k :: q => by
    simp only [List.map_cons, PySem.Spec.sameAll, PySem.Spec.same, same_strs r q]
    by_cases h : n = k <;> simp [h]
theorem r_eqLS {l l' : Addr} {ys zs : List Str} (S : St b s L G) (hl : (l, lstS ys) ∈ L) (hl' : (l', lstS zs) ∈ L) (ho : OkS ys) (ho' : OkS zs) (hu : A.units + 64 < cLine) (h : Q (.bool (decide (ys = zs))) s) : wpAny (model prog w) A (compareOp .Eq (.ref l) (.ref l')) Q E s := by
  obtain ⟨vs, n, hv, hs⟩ := S.isLS hl
  obtain ⟨us, m, hv', hs'⟩ := S.isLS hl'
  exact eq_dataH_same (reads_strsL hv hs) (reads_strsL hv' hs') (shaped_strs ho) (shaped_strs ho') hu (by simp only [noMix]; exact noMix_strs ys zs) (by simp only [PySem.Spec.same]; rw [same_strs]; exact h)
theorem r_neLS {l l' : Addr} {ys zs : List Str} (S : St b s L G) (hl : (l, lstS ys) ∈ L) (hl' : (l', lstS zs) ∈ L) (ho : OkS ys) (ho' : OkS zs) (hu : A.units + 64 < cLine) (h : Q (.bool (!decide (ys = zs))) s) : wpAny (model prog w) A (compareOp .NotEq (.ref l) (.ref l')) Q E s := by
  obtain ⟨vs, n, hv, hs⟩ := S.isLS hl
  obtain ⟨us, m, hv', hs'⟩ := S.isLS hl'
  exact ne_dataH_same (reads_strsL hv hs) (reads_strsL hv' hs') (shaped_strs ho) (shaped_strs ho') hu (by simp only [noMix]; exact noMix_strs ys zs) (by simp only [PySem.Spec.same]; rw [same_strs]; exact h)
end
end Mine

-- part LE
open PySem PySem.W PySem.W.X PyProof.Rows PySem.Calls PySem.Spec PySem.SeqAt
set_option Elab.async false
set_option maxRecDepth 100000
set_option maxHeartbeats 1000000
namespace Mine

section
variable {prog : Program} {w : World} {A : Around} {E : Value → Shared → Prop} {b s : Shared} {L L' X : Ledger} {G : GLedger} {env : Env} {Lr : Ledger} {d : Nat} {mg mb : Str → Option Value} {names : List Str} {Q : Value → Shared → Prop}

def vals (binds : List (Str × Value)) : List (Str × VP) := binds.map fun p => (p.1, vE p.2)

/-- a def of the text's, called -/
theorem r_callDef {f : Addr} {name : Str} {params : Arguments} {body : List Stmt} {scope : Scope} {cd : Value} {vs : List Value} (binds : List (Str × Value)) (B : Bs b mg mb names) (F : FnAt b mg f name params body scope cd) (S : St b s L G) (hroom : A.depth < recursionLimit)
    (hbind : ∀ pm doc, bindArgs (docDef name params body scope pm cd doc) ⟨vs, []⟩ = pure binds)
    (hloc : ∀ p ∈ binds, scope.names.lookup p.1 = some .local) (hlk : ∀ p ∈ binds, binds.reverse.lookup p.1 = some p.2)
    (h : ∀ C s', St b s' ((C, frC (vals binds)) :: L) G → wpAny (model prog w) (A.deeper (envOf name scope C f cd)) (execs body (envOf name scope C f cd)) (fun fl s'' => Q (match fl with | .ret v => v | _ => .none) s'') NoE s')
    (hco : scope.isCoroutine = false) (hgen : scope.isGenerator = false) (hk : scope.kind = .function) (hcell : ∀ y ∈ scope.names, y.2 ≠ .cell) :
    wpAny (model prog w) A (call (.ref f) vs) Q E s := by
  obtain ⟨o, pm, doc, ho, hd⟩ := F.obj
  refine wpAny_call (codeAny_call_function hroom (S.keep _ _ ho) hd hco hgen rfl (F.code.keeps S.keep) ?_)
  rw [hbind]
  refine wpAny_pure (wpAny_newFunctionEnv (scope := scope) (binds := binds) hcell hloc (fun h' hn hsb => ?_) hk)
  have hlim : h'.NoLimit := (B.nolimit.keeps S.keep).fresh _ hsb
  refine ⟨hlim, ?_⟩
  have hkp : ∀ a o, s.heap.get? a = some o → h'.get? a = some o := fun a o e => hsb.extBut a o (Nat.ne_of_lt (Heap.lt_size e)) (Heap.get?_push_of_some _ e)
  obtain ⟨oC, hoC, hcC⟩ := frC_of (fl := vals binds) hn (fun p hp => by
    obtain ⟨q, hq, rfl⟩ := List.mem_map.mp hp
    exact ⟨q.2, hlk q hq, rfl⟩)
  have S1 : St b { s with heap := h', toks := s.toks + binds.length } ((s.heap.objs.size, frC (vals binds)) :: L) G := S.new (heap_get_size _) hkp hoC hcC
  show codeAny _ _ (.func body (envOf name scope s.heap.objs.size f cd)) _ _
  refine codeAny_func (wpAny_mono (h _ _ S1) (fun fl s'' hq => hq) fun _ _ x => x.elim)

/-! ranges -/
def rngC (x y z : Int) : Cell := fun o => ∃ t u v, o = { cls := .type "range", data := .fields #[.int x t, .int y u, .int z v] }
def ritC (x left step : Int) : Cell := fun o => o = { cls := .type "range_iterator", data := .fields #[rawInt x, rawInt left, rawInt step] }
theorem r_range1 {n : Int} {t : Tok} (S : St b s L G) (h : ∀ a s', St b s' ((a, rngC 0 n 1) :: L) G → Q (.ref a) s') : wpAny (model prog w) A (call (.type "range") [.int n t]) Q E s :=
  call_range_1 (h _ _ (S.alloc ⟨_, _, _, rfl⟩ _))

/-- the rngI of a range -/
def rngI (x step : Int) (n : Nat) : List Int := (List.range n).map fun (i : Nat) => x + (i : Int) * step
theorem rngI_succ (x step : Int) (n : Nat) : rngI x step (n + 1) = x :: rngI (x + step) step n := by
  unfold rngI
  rw [List.range_succ_eq_map, List.map_cons, List.map_map]
  congr 1
  · simp
  · apply List.map_congr_left
    intro i _
    simp only [Function.comp]
    have : ((i.succ : Nat) : Int) = (i : Int) + 1 := by omega
    rw [this, Int.add_mul]
    omega

theorem gives_rit {I : Addr} {step : Int} : ∀ (n : Nat) (x : Int), Gives prog w b Lr d (.ref I) ((rngI x step n).map vI) [(I, ritC x n step)] [] := by
  intro n
  induction n with
  | zero =>
    intro x
    show Gives prog w b Lr d (.ref I) [] _ _
    unfold Gives
    intro A E s F GF Q hA hF S hQ
    obtain ⟨_, ho, rfl⟩ := S.get (.head _)
    exact wpAny_pyNext_range_end hA.handled ho (by simp) fun h' he => hQ _ (S.drop1 he)
  | succ n ih =>
    intro x
    rw [rngI_succ]
    intro A E s F GF Q hA hF S hQ
    obtain ⟨_, ho, rfl⟩ := S.get (.head _)
    refine wpAny_pyNext_range_item ho (by omega) fun h' hit hsb => ?_
    refine hQ _ _ _ _ ⟨_, rfl⟩ (ih (x + step)) (S.set (P' := ritC (x + step) n step) .head ⟨_, .head _⟩ hsb.extBut hit ?_ _)
    show _ = _
    have e : ((n + 1 : Nat) : Int) - 1 = (n : Int) := by omega
    rw [e]
theorem selfI_rit {I : Addr} {x l st : Int} : SelfI prog w b (.ref I) [(I, ritC x l st)] := fun A E s F GF Q S h => by
  obtain ⟨_, ho, rfl⟩ := S.get (.head _)
  exact wpAny_pyIter_rangeiter ho h
theorem givesI_rng {r : Addr} {x y z : Int} {n : Nat} (hr : (r, rngC x y z) ∈ Lr) (hsmall : Builtin.Range.small x y z = true) (hn : Builtin.Range.rangeSize x y z = n) : GivesI prog w b Lr d (.ref r) ((rngI x z n).map vI) [] [] := by
  intro A E s F GF Q hA hF S hQ
  obtain ⟨_, ho, t, u, v, rfl⟩ := S.get (hF _ hr)
  refine wpAny_pyIter_range ho hsmall ?_
  rw [hn]
  exact hQ _ _ _ _ (gives_rit n x) selfI_rit (S.alloc (P := ritC x n z) rfl)
end
end Mine

-- part LF
open PySem PySem.W PySem.W.X PyProof.Rows PySem.Calls PySem.Spec PySem.SeqAt
set_option Elab.async false
set_option maxRecDepth 100000
set_option maxHeartbeats 200000
namespace Mine

section
variable {prog : Program} {w : World} {A : Around} {E : Value → Shared → Prop} {b s : Shared} {L L' X : Ledger} {G : GLedger} {env : Env} {Lr : Ledger} {d : Nat} {mg mb : Str → Option Value} {names : List Str} {Q : Value → Shared → Prop}

/-! calls by name -/
theorem r_callB1 {x : Str} {e : Expr} {p pos : Pos} {id : String} (B : Bs b mg mb names) (S : St b s L G) (hv : bootBuiltins x = some (.builtin id))
    (h : wpAny (model prog w) A (eval e env) (fun v s₁ => wpAny (model prog w) A (call (.builtin id) [v]) Q E s₁) E s)
    (hfree : x ∉ names := by decide) (hn : x ≠ "__name__" := by decide) (hg : env.globals = mainGlobals := by kernel_rfl) (hb : env.builtins = builtinsNs := by kernel_rfl)
    (hk : env.scope.kind = .function := by kernel_rfl) (hx : env.kindOf x = some .globalImplicit := by kernel_rfl) (hd : (x == ("__debug__" : Str)) = false := by decide)
    (ht : backTo pos (starEach [e] env) = [(false, eval e env)] := by kernel_rfl) :
    wpAny (model prog w) A (eval (.Call (.Name x p) [e] [] pos) env) Q E s := by
  refine wpAny_Call_NameR (r_bname B S hv ?_ hfree hn hg hb hk hx hd)
  rw [ht]
  exact Calls.callWith_builtin rfl (Calls.evalArgs_plain (Calls.spliced_cons (wpAny_mono h (fun _ _ h₁ => Calls.spliced_nil h₁) fun _ _ e => e)))
theorem r_callT1 {x : Str} {e : Expr} {p pos : Pos} {T : String} (B : Bs b mg mb names) (S : St b s L G) (hv : bootBuiltins x = some (.type T))
    (h : wpAny (model prog w) A (eval e env) (fun v s₁ => wpAny (model prog w) A (call (.type T) [v]) Q E s₁) E s)
    (hfree : x ∉ names := by decide) (hn : x ≠ "__name__" := by decide) (hg : env.globals = mainGlobals := by kernel_rfl) (hb : env.builtins = builtinsNs := by kernel_rfl)
    (hk : env.scope.kind = .function := by kernel_rfl) (hx : env.kindOf x = some .globalImplicit := by kernel_rfl) (hd : (x == ("__debug__" : Str)) = false := by decide)
    (ht : backTo pos (starEach [e] env) = [(false, eval e env)] := by kernel_rfl) :
    wpAny (model prog w) A (eval (.Call (.Name x p) [e] [] pos) env) Q E s := by
  refine wpAny_Call_NameR (r_bname B S hv ?_ hfree hn hg hb hk hx hd)
  rw [ht]
  exact PyProof.Rows.callWith_type rfl (Calls.evalArgs_plain (Calls.spliced_cons (wpAny_mono h (fun _ _ h₁ => Calls.spliced_nil h₁) fun _ _ e => e)))
theorem r_callT3 {x : Str} {e₁ e₂ e₃ : Expr} {p pos : Pos} {T : String} (B : Bs b mg mb names) (S : St b s L G) (hv : bootBuiltins x = some (.type T))
    (h : wpAny (model prog w) A (eval e₁ env) (fun v₁ s₁ => wpAny (model prog w) A (eval e₂ env) (fun v₂ s₂ => wpAny (model prog w) A (eval e₃ env) (fun v₃ s₃ => wpAny (model prog w) A (call (.type T) [v₁, v₂, v₃]) Q E s₃) E s₂) E s₁) E s)
    (hfree : x ∉ names := by decide) (hn : x ≠ "__name__" := by decide) (hg : env.globals = mainGlobals := by kernel_rfl) (hb : env.builtins = builtinsNs := by kernel_rfl)
    (hk : env.scope.kind = .function := by kernel_rfl) (hx : env.kindOf x = some .globalImplicit := by kernel_rfl) (hd : (x == ("__debug__" : Str)) = false := by decide)
    (ht : backTo pos (starEach [e₁, e₂, e₃] env) = [(false, eval e₁ env), (false, eval e₂ env), (false, eval e₃ env)] := by kernel_rfl) :
    wpAny (model prog w) A (eval (.Call (.Name x p) [e₁, e₂, e₃] [] pos) env) Q E s := by
  refine wpAny_Call_NameR (r_bname B S hv ?_ hfree hn hg hb hk hx hd)
  rw [ht]
  exact PyProof.Rows.callWith_type rfl (Calls.evalArgs_plain (Calls.spliced_cons (wpAny_mono h (fun _ _ h₁ => Calls.spliced_cons (wpAny_mono h₁ (fun _ _ h₂ => Calls.spliced_cons (wpAny_mono h₂ (fun _ _ h₃ => Calls.spliced_nil h₃) fun _ _ e => e)) fun _ _ e => e)) fun _ _ e => e)))
/-- a def of two arguments, called by its name -/
theorem r_callD2 {x : Str} {e₁ e₂ : Expr} {p pos : Pos} {f : Addr} {params : Arguments} {body : List Stmt} {scope : Scope} {cd : Value} (B : Bs b mg mb names) (F : FnAt b mg f x params body scope cd) (S : St b s L G)
    (h : wpAny (model prog w) A (eval e₁ env) (fun v₁ s₁ => wpAny (model prog w) A (eval e₂ env) (fun v₂ s₂ => (∃ L G, St b s₂ L G) ∧ wpAny (model prog w) A (call (.ref f) [v₁, v₂]) Q E s₂) E s₁) E s)
    (hg : env.globals = mainGlobals := by kernel_rfl) (hk : env.scope.kind = .function := by kernel_rfl) (hx : env.kindOf x = some .globalImplicit := by kernel_rfl) (hd : (x == ("__debug__" : Str)) = false := by decide)
    (ht : backTo pos (starEach [e₁, e₂] env) = [(false, eval e₁ env), (false, eval e₂ env)] := by kernel_rfl) :
    wpAny (model prog w) A (eval (.Call (.Name x p) [e₁, e₂] [] pos) env) Q E s := by
  refine wpAny_Call_NameR (r_gname B S F.at_ ?_ hg hk hx hd)
  rw [ht]
  obtain ⟨o, pm, doc, ho, hdat⟩ := F.obj
  refine Calls.callWith_function (o := o) (fd := docDef x params body scope pm cd doc) (Calls.evalArgs_plain (Calls.spliced_cons (wpAny_mono h (fun _ _ h₁ => Calls.spliced_cons (wpAny_mono h₁ (fun _ _ h₂ => Calls.spliced_nil ?_) fun _ _ e => e)) fun _ _ e => e)))
  obtain ⟨⟨_, _, S₂⟩, h₂⟩ := h₂
  exact ⟨⟨S₂.keep _ _ ho, hdat⟩, h₂⟩

/-! a list of texts, written out -/
inductive Lits : List Expr → List Str → Prop
  | nil : Lits [] []
  | cons {y : Str} {k : Nat} {p : Pos} {r : List Expr} {ys : List Str} : Lits r ys → Lits (.Constant (.str y) k p :: r) (y :: ys)
theorem r_splS {pos : Pos} {elts : List Expr} {ys : List Str} (he : Lits elts ys) : ∀ {s : Shared} {Q : List Value → Shared → Prop}, St b s L G → (∀ vs s', StrsAre vs ys → St b s' L G → Q vs s') →
    wpAny (model prog w) A (spliced (backTo pos (starEach elts env))) Q E s := by
  induction he with
  | nil => intro s Q S h; exact Calls.spliced_nil (h _ _ .nil S)
  | @cons y k p r ys _ ih =>
    intro s Q S h
    show wpAny _ _ (spliced ((false, eval (.Constant (.str y) k p) env) :: backTo pos (starEach r env))) _ _ _
    refine Calls.spliced_cons (r_str S fun t s₁ S₁ => ?_)
    exact ih S₁ fun vs s' hs S' => h _ _ (.cons y t hs) S'
theorem r_listS {elts : List Expr} {pos : Pos} (ys : List Str) (S : St b s L G) (h : ∀ a s', St b s' ((a, lstS ys) :: L) G → Q (.ref a) s') (he : Lits elts ys := by repeat (first | exact Lits.nil | refine Lits.cons ?_)) (hz : ys.length ≤ sizeLine := by decide) :
    wpAny (model prog w) A (eval (.List elts pos) env) Q E s :=
  wpAny_List (r_splS he S fun vs s' hs S' => ⟨by rw [strsAre_len hs]; exact hz, h _ _ (S'.alloc (P := lstS ys) (lstS_mk hs))⟩)
end
end Mine

-- part PL
open PySem PySem.Builtin.Str PySem.W PySem.W.X PyProof.Rows PySem.Calls PySem.Spec PySem.SeqAt
set_option Elab.async false
set_option maxRecDepth 100000
set_option maxHeartbeats 400000
set_option linter.all false
namespace Mine

/-! texts as lists of signs -/
theorem str_ext {x y : Str} (h : x.cps.toList = y.cps.toList) : x = y := by
  cases x; cases y
  congr 1
  exact Array.toList_inj.mp h
theorem str_app (x y : Str) : (x ++ y).cps.toList = x.cps.toList ++ y.cps.toList := by
  show (x.cps ++ y.cps).toList = _
  simp
theorem str_len (x : Str) : x.length = x.cps.toList.length := by unfold Str.length; simp
theorem str_len_app (x y : Str) : (x ++ y).length = x.length + y.length := by rw [str_len, str_app, List.length_append, ← str_len, ← str_len]

theorem fm_range {α : Type} (l : List α) (a : Nat) : ∀ n, a + n ≤ l.length → (List.range n).filterMap (fun k => l[a + k]?) = (l.drop a).take n := by
  intro n
  induction n with
  | zero => intro _; simp
  | succ n ih =>
    intro h
    rw [List.range_succ, List.filterMap_append, ih (by omega), List.take_add_one]
    congr 1
    rw [List.getElem?_drop]
    rw [List.getElem?_eq_getElem (by omega)]
    simp [List.getElem?_eq_getElem (show a + n < l.length by omega)]

theorem slice_pre (x : Str) : Txt.slice x none (some 2) = ⟨(x.cps.toList.take 2).toArray⟩ := by
  have hi : strSliceIndices none (some 2) 1 x.length = List.range (min 2 x.length) := by
    unfold strSliceIndices sliceRange
    simp only [show (1 : Int) > 0 by decide, if_true, show ¬ ((2 : Int) < 0) by decide, if_false]
    by_cases h0 : x.length = 0
    · rw [h0]; rfl
    · rw [if_pos (by omega)]
      have e : ((max 0 (min 2 (x.length : Int)) - 0 + 1 - 1) / 1).toNat = min 2 x.length := by rw [Int.ediv_one]; omega
      rw [e]
      conv => rhs; rw [← List.map_id (List.range _)]
      apply List.map_congr_left
      intro k _
      simp
  unfold Txt.slice
  rw [hi]
  have hlen := str_len x
  split
  · rename_i h
    simp only [List.length_range, Bool.and_eq_true, beq_iff_eq] at h
    refine str_ext ?_
    rw [List.take_of_length_le (by omega)]
  · congr 2
    have := fm_range x.cps.toList 0 (min 2 x.length) (by omega)
    simp only [Nat.zero_add, List.drop_zero] at this
    simp only [← Array.getElem?_toList]
    rw [this]
    rw [List.take_eq_take_iff]
    omega
theorem slice_suf (x : Str) : Txt.slice x (some 2) none = ⟨(x.cps.toList.drop 2).toArray⟩ := by
  have hi : strSliceIndices (some 2) none 1 x.length = (List.range (x.length - 2)).map (2 + ·) := by
    unfold strSliceIndices sliceRange
    simp only [show (1 : Int) > 0 by decide, if_true, show ¬ ((2 : Int) < 0) by decide, if_false]
    by_cases h0 : 2 < x.length
    · rw [if_pos (by omega)]
      have e : (((x.length : Int) - max 0 (min 2 (x.length : Int)) + 1 - 1) / 1).toNat = x.length - 2 := by rw [Int.ediv_one]; omega
      rw [e]
      apply List.map_congr_left
      intro k _
      omega
    · rw [if_neg (by omega), show x.length - 2 = 0 by omega]
      rfl
  unfold Txt.slice
  rw [hi]
  have hlen := str_len x
  split
  · rename_i h
    simp only [List.length_map, List.length_range, Bool.and_eq_true, beq_iff_eq] at h
    refine str_ext ?_
    have : x.cps.toList.length = 0 := by omega
    rw [List.length_eq_zero_iff] at this
    rw [this]
    rfl
  · rw [List.filterMap_map]
    congr 2
    by_cases h2 : 2 ≤ x.length
    · have := fm_range x.cps.toList 2 (x.length - 2) (by omega)
      simp only [← Array.getElem?_toList]
      show List.filterMap (fun k => x.cps.toList[2 + k]?) _ = _
      rw [this, List.take_of_length_le (by rw [List.length_drop]; omega)]
    · rw [show x.length - 2 = 0 by omega, List.drop_of_length_le (by omega)]
      rfl

/-- a row of a two-sign head -/
theorem head2 {h y : Str} (hh : h.cps.toList.length = 2) : Txt.slice (h ++ y) none (some 2) = h := by
  rw [slice_pre]
  refine str_ext ?_
  rw [str_app]
  show ((h.cps.toList ++ y.cps.toList).take 2) = _
  rw [List.take_append_of_le_length (by omega), List.take_of_length_le (by omega)]
theorem cut_head {h y : Str} (hh : h.cps.toList.length = 2) : cutS (h ++ y) = y := by
  unfold cutS
  rw [slice_suf]
  refine str_ext ?_
  rw [str_app]
  show ((h.cps.toList ++ y.cps.toList).drop 2) = _
  rw [List.drop_append_of_le_length (by omega), List.drop_of_length_le (by omega)]
  rfl
theorem cut_len (x : Str) : (cutS x).length ≤ x.length := Txt.slice_le x _ _

theorem len_sp : ("  " : Str).cps.toList.length = 2 := by decide +kernel
theorem len_mi : ("- " : Str).cps.toList.length = 2 := by decide +kernel
theorem len_pl : ("+ " : Str).cps.toList.length = 2 := by decide +kernel
theorem keep_sp (tag y : Str) : keepS tag ("  " ++ y) = true := by unfold keepS; rw [head2 len_sp]; simp
theorem keep_mi1 (y : Str) : keepS (tagOf 1) ("- " ++ y) = true := by unfold keepS tagOf; rw [head2 len_mi]; simp
theorem keep_mi2 (y : Str) : keepS (tagOf 2) ("- " ++ y) = false := by unfold keepS tagOf; rw [head2 len_mi]; decide +kernel
theorem keep_pl1 (y : Str) : keepS (tagOf 1) ("+ " ++ y) = false := by unfold keepS tagOf; rw [head2 len_pl]; decide +kernel
theorem keep_pl2 (y : Str) : keepS (tagOf 2) ("+ " ++ y) = true := by unfold keepS tagOf; rw [head2 len_pl]; simp

theorem readS_nil (n : Int) : readS n [] = [] := rfl
theorem readS_app (n : Int) (xs ys : List Str) : readS n (xs ++ ys) = readS n xs ++ readS n ys := by unfold readS; rw [List.filter_append, List.map_append]
theorem readS_keep {n : Int} {x y : Str} (hk : keepS (tagOf n) x = true) (hc : cutS x = y) : readS n [x] = [y] := by unfold readS; simp [hk, hc]
theorem readS_drop {n : Int} {x : Str} (hk : keepS (tagOf n) x = false) : readS n [x] = [] := by unfold readS; simp [hk]
theorem readS_sp (n : Int) (y : Str) : readS n ["  " ++ y] = [y] := readS_keep (keep_sp _ _) (cut_head len_sp)
theorem readS_mi1 (y : Str) : readS 1 ["- " ++ y] = [y] := readS_keep (keep_mi1 _) (cut_head len_mi)
theorem readS_mi2 (y : Str) : readS 2 ["- " ++ y] = [] := readS_drop (keep_mi2 _)
theorem readS_pls1 (ys : List Str) : readS 1 (ys.map fun y : Str => ("+ " : Str) ++ y) = [] := by
  induction ys with
  | nil => rfl
  | cons y r ih => rw [List.map_cons, ← List.singleton_append, readS_app, ih, readS_drop (keep_pl1 y)]; rfl
theorem readS_pls2 (ys : List Str) : readS 2 (ys.map fun y : Str => ("+ " : Str) ++ y) = ys := by
  induction ys with
  | nil => rfl
  | cons y r ih => rw [List.map_cons, ← List.singleton_append, readS_app, ih, readS_keep (keep_pl2 y) (cut_head len_pl)]; rfl

/-! the delta -/
def oddL : List Str := ["?  ^", "", "-", " ", "+x", " -", "x  "]
theorem odd_read : ∀ y ∈ oddL, readS 1 [y] = [] ∧ readS 2 [y] = [] := by decide +kernel
/-- where row next lies in new, from k on (the end: nowhere) -/
def dFar (new : List Str) (row : Str) (k : Nat) : Nat := k + ((new.drop k).takeWhile (· != row)).length
def dStep (new : List Str) (st : List Str × Nat) (row : Str) : List Str × Nat :=
  if dFar new row st.2 < new.length then (st.1 ++ ((new.drop st.2).take (dFar new row st.2 - st.2)).map (fun y : Str => ("+ " : Str) ++ y) ++ ["  " ++ row], dFar new row st.2 + 1)
  else (st.1 ++ ["- " ++ row] ++ [oddL.getD ((st.1.length + 1) % 7) ""], st.2)
def dRun (old new : List Str) : List Str × Nat := old.foldl (dStep new) ([], 0)
def deltaS (old new : List Str) : List Str := (dRun old new).1 ++ (new.drop (dRun old new).2).map (fun y : Str => ("+ " : Str) ++ y)

theorem takeWhile_take {α : Type} (p : α → Bool) : ∀ l : List α, l.take (l.takeWhile p).length = l.takeWhile p
  | [] => rfl
  | a :: r => by
    by_cases h : p a = true
    · rw [List.takeWhile_cons_of_pos h]; simp [takeWhile_take p r]
    · rw [List.takeWhile_cons_of_neg h]; rfl
theorem takeWhile_at {α : Type} (p : α → Bool) : ∀ l : List α, (l.takeWhile p).length < l.length → ∃ a, l[(l.takeWhile p).length]? = some a ∧ p a = false
  | [], h => by simp at h
  | a :: r, h => by
    by_cases hp : p a = true
    · rw [List.takeWhile_cons_of_pos hp] at h ⊢
      simp only [List.length_cons] at h ⊢
      simpa using takeWhile_at p r (by omega)
    · rw [List.takeWhile_cons_of_neg hp]
      exact ⟨a, rfl, by simpa using hp⟩
theorem takeWhile_in {α : Type} (p : α → Bool) : ∀ (l : List α) (j : Nat), j < (l.takeWhile p).length → ∃ a, l[j]? = some a ∧ p a = true
  | [], j, h => by simp at h
  | a :: r, j, h => by
    by_cases hp : p a = true
    · rw [List.takeWhile_cons_of_pos hp] at h
      cases j with
      | zero => exact ⟨a, rfl, hp⟩
      | succ j => simpa using takeWhile_in p r j (by simpa using h)
    · rw [List.takeWhile_cons_of_neg hp] at h
      simp at h
theorem dFar_ge (new : List Str) (row : Str) (k : Nat) : k ≤ dFar new row k := Nat.le_add_right _ _
theorem dFar_le {new : List Str} {row : Str} {k : Nat} (hk : k ≤ new.length) : dFar new row k ≤ new.length := by
  have := (List.takeWhile_prefix (· != row) (l := new.drop k)).length_le
  rw [List.length_drop] at this
  unfold dFar; omega
theorem dFar_in {new : List Str} {row : Str} {k j : Nat} (hk : k ≤ new.length) (h1 : k ≤ j) (h2 : j < dFar new row k) : j < new.length ∧ ∃ y, new[j]? = some y ∧ (y != row) = true := by
  have h3 := dFar_le (row := row) hk
  obtain ⟨y, hy, hp⟩ := takeWhile_in (· != row) (new.drop k) (j - k) (by unfold dFar at h2; omega)
  rw [List.getElem?_drop, show k + (j - k) = j by omega] at hy
  exact ⟨by omega, y, hy, hp⟩
theorem dFar_at {new : List Str} {row : Str} {k : Nat} (h : dFar new row k < new.length) : new[dFar new row k]? = some row := by
  obtain ⟨y, hy, hp⟩ := takeWhile_at (· != row) (new.drop k) (by rw [List.length_drop]; unfold dFar at h; omega)
  rw [List.getElem?_drop] at hy
  unfold dFar
  rw [hy]
  simp only [bne_eq_false_iff_eq] at hp
  rw [hp]

theorem odd_at (k : Nat) : oddL.getD (k % 7) "" ∈ oddL ∧ oddL[k % 7]? = some (oddL.getD (k % 7) "") := by
  have h : k % 7 < oddL.length := Nat.mod_lt _ (by decide)
  rw [List.getD_eq_getElem?_getD, List.getElem?_eq_getElem h]
  exact ⟨List.getElem_mem h, rfl⟩

/-- what the run has read so far -/
structure DInv (pre new : List Str) (st : List Str × Nat) : Prop where
  le : st.2 ≤ new.length
  one : readS 1 st.1 = pre
  two : readS 2 st.1 = new.take st.2
theorem DInv.step {pre new : List Str} {st : List Str × Nat} {row : Str} (h : DInv pre new st) : DInv (pre ++ [row]) new (dStep new st row) := by
  unfold dStep
  split
  · rename_i hlt
    have hge := dFar_ge new row st.2
    refine ⟨by show dFar new row st.2 + 1 ≤ _; omega, ?_, ?_⟩
    · show readS 1 _ = _
      rw [readS_app, readS_app, readS_pls1, readS_sp, h.one, List.append_nil]
    · show readS 2 _ = new.take (dFar new row st.2 + 1)
      rw [readS_app, readS_app, readS_pls2, readS_sp, h.two, List.take_add_one, dFar_at hlt]
      congr 1
      rw [← List.take_add]
      congr 1
      omega
  · obtain ⟨o1, o2⟩ := odd_read _ (odd_at (st.1.length + 1)).1
    refine ⟨h.le, ?_, ?_⟩
    · show readS 1 _ = _
      rw [readS_app, readS_app, readS_mi1, o1, h.one, List.append_nil]
    · show readS 2 _ = new.take st.2
      rw [readS_app, readS_app, readS_mi2, o2, h.two, List.append_nil, List.append_nil]
theorem DInv.run (new : List Str) : ∀ (old pre : List Str) (st : List Str × Nat), DInv pre new st → DInv (pre ++ old) new (old.foldl (dStep new) st)
  | [], pre, st, h => by simpa using h
  | y :: r, pre, st, h => by
    have := DInv.run new r (pre ++ [y]) (dStep new st y) h.step
    simpa using this
theorem dInv (old new : List Str) : DInv old new (dRun old new) := DInv.run new old [] ([], 0) ⟨Nat.zero_le _, rfl, rfl⟩
theorem delta_one (old new : List Str) : readS 1 (deltaS old new) = old := by
  unfold deltaS; rw [readS_app, readS_pls1, (dInv old new).one, List.append_nil]
theorem delta_two (old new : List Str) : readS 2 (deltaS old new) = new := by
  unfold deltaS; rw [readS_app, readS_pls2, (dInv old new).two, List.take_append_drop]

/-! sizes -/
structure Fit (m k : Nat) (xs : List Str) : Prop where
  many : xs.length ≤ m
  long : ∀ x ∈ xs, x.length ≤ k
  ok : OkS xs
theorem dStep_len (new : List Str) (st : List Str × Nat) (row : Str) (h : st.2 ≤ new.length) : (dStep new st row).1.length + st.2 ≤ st.1.length + (dStep new st row).2 + 2 := by
  unfold dStep
  split
  · rename_i hlt
    have := dFar_ge new row st.2
    simp only [List.length_append, List.length_map, List.length_take, List.length_drop, List.length_cons, List.length_nil]
    omega
  · simp only [List.length_append, List.length_cons, List.length_nil]; omega
theorem dRun_len (new : List Str) : ∀ (old pre : List Str) (st : List Str × Nat), DInv pre new st → (old.foldl (dStep new) st).1.length + st.2 ≤ st.1.length + (old.foldl (dStep new) st).2 + 2 * old.length
  | [], pre, st, h => by simp
  | y :: r, pre, st, h => by
    have h1 := dRun_len new r (pre ++ [y]) (dStep new st y) h.step
    have h2 := dStep_len new st y h.le
    simp only [List.foldl_cons, List.length_cons]
    omega
theorem dRun_small (old new : List Str) : (dRun old new).1.length ≤ (dRun old new).2 + 2 * old.length := by
  have := dRun_len new old [] ([], 0) ⟨Nat.zero_le _, rfl, rfl⟩
  simpa [dRun] using this
theorem delta_len (old new : List Str) : (deltaS old new).length ≤ 2 * old.length + new.length := by
  have h1 := dRun_small old new
  have h2 := (dInv old new).le
  unfold deltaS
  simp only [List.length_append, List.length_map, List.length_drop]
  omega

def Good (k : Nat) (x : Str) : Prop := x.length ≤ k ∧ PyData.strOk x = true
theorem good_app {k m : Nat} {h y : Str} (hh : Good k h) (hy : Good m y) : Good (k + m) (h ++ y) := by
  refine ⟨by rw [str_len_app]; have := hh.1; have := hy.1; omega, ?_⟩
  have e1 := hh.2
  have e2 := hy.2
  unfold PyData.strOk at e1 e2 ⊢
  rw [← Array.all_toList] at e1 e2 ⊢
  rw [str_app, List.all_append, e1, e2]; rfl
theorem good_sp : Good 2 "  " := by unfold Good; decide +kernel
theorem good_mi : Good 2 "- " := by unfold Good; decide +kernel
theorem good_pl : Good 2 "+ " := by unfold Good; decide +kernel
theorem good_odd : ∀ y ∈ oddL, Good 4 y := by unfold Good; decide +kernel
theorem Good.mono {k m : Nat} {x : Str} (h : Good k x) (hk : k ≤ m) : Good m x := ⟨Nat.le_trans h.1 hk, h.2⟩
theorem dStep_good {k : Nat} (hk : 2 ≤ k) {new : List Str} (hn : ∀ y ∈ new, Good k y) {st : List Str × Nat} {row : Str} (hr : Good k row) (hs : ∀ y ∈ st.1, Good (2 + k) y) : ∀ y ∈ (dStep new st row).1, Good (2 + k) y := by
  unfold dStep
  split
  · intro y hy
    simp only [List.mem_append, List.mem_map, List.mem_singleton] at hy
    rcases hy with (hy | ⟨z, hz, rfl⟩) | rfl
    · exact hs y hy
    · exact good_app good_pl (hn z (List.mem_of_mem_drop (List.mem_of_mem_take hz)))
    · exact good_app good_sp hr
  · intro y hy
    simp only [List.mem_append, List.mem_singleton] at hy
    rcases hy with (hy | rfl) | rfl
    · exact hs y hy
    · exact good_app good_mi hr
    · exact (good_odd _ (odd_at _).1).mono (by omega)
theorem dRun_good {k : Nat} (hk : 2 ≤ k) {new : List Str} (hn : ∀ y ∈ new, Good k y) : ∀ (old : List Str) (st : List Str × Nat), (∀ y ∈ old, Good k y) → (∀ y ∈ st.1, Good (2 + k) y) → ∀ y ∈ (old.foldl (dStep new) st).1, Good (2 + k) y
  | [], st, _, hs => hs
  | z :: r, st, ho, hs => dRun_good hk hn r (dStep new st z) (fun y hy => ho y (.tail _ hy)) (dStep_good hk hn (ho z (.head _)) hs)
theorem delta_good {k : Nat} (hk : 2 ≤ k) {old new : List Str} (ho : ∀ y ∈ old, Good k y) (hn : ∀ y ∈ new, Good k y) : ∀ y ∈ deltaS old new, Good (2 + k) y := by
  intro y hy
  unfold deltaS at hy
  simp only [List.mem_append, List.mem_map] at hy
  rcases hy with hy | ⟨z, hz, rfl⟩
  · exact dRun_good hk hn old ([], 0) ho (fun y hy => nomatch hy) y hy
  · exact good_app good_pl (hn z (List.mem_of_mem_drop hz))
end Mine

-- part LG
open PySem PySem.W PySem.W.X PyProof.Rows PySem.Calls PySem.Spec PySem.SeqAt
set_option Elab.async false
set_option maxRecDepth 100000
set_option maxHeartbeats 400000
namespace Mine
theorem vS_inj {p q : Str} (hpq : vS p = vS q) : p = q := by
  have : vS q (.str p 0) := by rw [← hpq]; exact ⟨0, rfl⟩
  obtain ⟨t, ht⟩ := this
  cases ht; rfl
theorem vI_inj {p q : Int} (hpq : vI p = vI q) : p = q := by
  have : vI q (.int p 0) := by rw [← hpq]; exact ⟨0, rfl⟩
  obtain ⟨t, ht⟩ := this
  cases ht; rfl
theorem map_vS_inj : ∀ {xs ys : List Str}, xs.map vS = ys.map vS → xs = ys
  | [], [], _ => rfl
  | [], _ :: _, h => by simp at h
  | _ :: _, [], h => by simp at h
  | x :: xs, y :: ys, h => by
    simp only [List.map_cons, List.cons.injEq] at h
    rw [vS_inj h.1, map_vS_inj h.2]
theorem map_vI_inj : ∀ {xs ys : List Int}, xs.map vI = ys.map vI → xs = ys
  | [], [], _ => rfl
  | [], _ :: _, h => by simp at h
  | _ :: _, [], h => by simp at h
  | x :: xs, y :: ys, h => by
    simp only [List.map_cons, List.cons.injEq] at h
    rw [vI_inj h.1, map_vI_inj h.2]
/-- the next of a list of texts (ints) -/
theorem next_vS {ys zs : List Str} {P : VP} {r : List VP} (e : ys.map vS = zs.map vS ++ P :: r) : ∃ y rs, ys = zs ++ y :: rs ∧ P = vS y := by
  obtain ⟨a, c, h1, h2, h3⟩ := List.map_eq_append_iff.mp e
  obtain ⟨y, rs, h4, h5, _⟩ := List.map_eq_cons_iff.mp h3
  exact ⟨y, rs, by rw [h1, h4, map_vS_inj h2], h5.symm⟩
theorem next_vI {ys zs : List Int} {P : VP} {r : List VP} (e : ys.map vI = zs.map vI ++ P :: r) : ∃ y rs, ys = zs ++ y :: rs ∧ P = vI y := by
  obtain ⟨a, c, h1, h2, h3⟩ := List.map_eq_append_iff.mp e
  obtain ⟨y, rs, h4, h5, _⟩ := List.map_eq_cons_iff.mp h3
  exact ⟨y, rs, by rw [h1, h4, map_vI_inj h2], h5.symm⟩
section
variable {prog : Program} {w : World} {A : Around} {E : Value → Shared → Prop} {b s : Shared} {env : Env} {mg mb : Str → Option Value} {names : List Str}

/-- what a for is to do with the value it walks -/
structure ForJob (prog : Program) (w : World) (A : Around) (b : Shared) (env : Env) (target : Expr) (body : List Stmt) (Q : Flow → Shared → Prop) (v₀ : Value) (s₁ : Shared)
    (Lr : Ledger) (d : Nat) (Ps : List VP) (L₁ F₀ X : Ledger) (G₁ G : GLedger) (J : List VP → Ledger → Prop) : Prop where
  src : GivesI prog w b Lr d v₀ Ps L₁ G₁
  room : Ar A d
  st : St b s₁ (L₁ ++ (F₀ ++ X)) (G₁ ++ G)
  h0 : J [] F₀
  hR : ∀ pre F, J pre F → ∀ p ∈ Lr, p ∈ F ++ X
  turn : ∀ pre P r u F L₂ G₂ s, Ps = pre ++ P :: r → P u → J pre F → St b s (F ++ (L₂ ++ X)) (G₂ ++ G) →
      wpAny (model prog w) A (assign target env u) (fun _ s₂ => wpAny (model prog w) A (execs body env) (Turn Q fun s₃ => ∃ F', J (pre ++ [P]) F' ∧ St b s₃ (F' ++ (L₂ ++ X)) (G₂ ++ G)) NoE s₂) NoE s
  done : ∀ F s, J Ps F → St b s (F ++ X) G → Q .next s
/-- a for over whatever its iterable turns out to be -/
theorem r_forj {target iter : Expr} {body : List Stmt} {pos : Pos} {Q : Flow → Shared → Prop}
    (hiter : wpAny (model prog w) A (eval iter env) (fun v s₁ => ∃ Lr d Ps L₁ F₀ X G₁ G J, ForJob prog w A b env target body Q v s₁ Lr d Ps L₁ F₀ X G₁ G J) NoE s)
    (hs : ∀ x, foldedSetIterable iter env x = pure x := by intro _; kernel_rfl) (ht : ∀ it v, letOwnedTupleGo target it v = pure () := by intro _ _; kernel_rfl) :
    wpAny (model prog w) A (exec (.For target iter body [] pos) env) Q E s := by
  refine wpAny_For (wpAny_mono hiter (fun v s₁ h₁ => ?_) fun _ _ x => x.elim) hs
  obtain ⟨Lr, d, Ps, L₁, F₀, X, G₁, G, J, hsrc, hA, S₁, h0, hR, turn, done⟩ := h₁
  refine hsrc A _ _ _ _ _ hA (hR [] F₀ h0) S₁ fun it s₂ L₂ G₂ hg _ S₂ => ?_
  refine codeAny_forLoop (fun n s => ∃ pre post F L₂ G₂, Ps = pre ++ post ∧ post.length = n ∧ J pre F ∧ Gives prog w b Lr d it post L₂ G₂ ∧ St b s (L₂ ++ (F ++ X)) (G₂ ++ G)) ?_ Ps.length ⟨[], Ps, F₀, L₂, G₂, rfl, rfl, h0, hg, S₂⟩ (ht it)
  rintro n s₃ ⟨pre, post, F, L₃, G₃, e, hn, hj, hg₃, S₃⟩
  refine hg₃.next hA (hR pre F hj) S₃ (fun e' s₄ S₄ => ?_) (fun P r e' u s₄ L₄ G₄ hu hg₄ S₄ => ?_)
  · subst e'
    rw [List.append_nil] at e
    subst e
    exact wpAny_execs_nil (done F s₄ hj S₄)
  · subst e'
    refine wpAny_mono (turn pre P r u F L₄ G₄ s₄ e hu hj (S₄.perm (perm_swap3 F L₄ X))) (fun _ s₅ h₅ => ?_) fun _ _ x => x.elim
    refine wpAny_mono h₅ (fun f s₆ h₆ => ?_) fun _ _ x => x.elim
    have nx : (∃ F', J (pre ++ [P]) F' ∧ St b s₆ (F' ++ (L₄ ++ X)) (G₄ ++ G)) → ∃ m, m < n ∧ ∃ pre post F L₂ G₂, Ps = pre ++ post ∧ post.length = m ∧ J pre F ∧ Gives prog w b Lr d it post L₂ G₂ ∧ St b s₆ (L₂ ++ (F ++ X)) (G₂ ++ G) := by
      rintro ⟨F', hj', S'⟩
      exact ⟨r.length, by simp only [List.length_cons] at hn; omega, pre ++ [P], r, F', L₄, G₄, by rw [e]; simp, rfl, hj', hg₄, S'.perm (perm_swap3 L₄ F' X)⟩
    cases f with
    | next => exact nx h₆
    | cont => exact nx h₆
    | brk => exact h₆
    | ret v => exact h₆

/-- what a comprehension is to do with the value it walks -/
structure CompJob (prog : Program) (w : World) (A : Around) (E : Value → Shared → Prop) (b : Shared) (env : Env) (elt : Expr) (x : Str) (ifs : List Expr) (scope : Scope) (cl : List (Str × Addr)) (use : Option (Value → Sem Unit)) (Q : Value → Shared → Prop) (v₀ : Value) (s₁ : Shared)
    (Lr : Ledger) (d : Nat) (Ps : List VP) (L₁ F₀ X : Ledger) (G₁ G : GLedger) (J : List VP → List Value → Ledger → Prop) : Prop where
  src : GivesI prog w b Lr d v₀ Ps L₁ G₁
  room : Ar A d
  st : St b s₁ (L₁ ++ (F₀ ++ X)) (G₁ ++ G)
  h0 : J [] [] F₀
  hR : ∀ pre acc F, J pre acc F → ∀ p ∈ Lr, p ∈ F ++ X
  hz : ∀ pre acc F, J pre acc F → acc.length ≤ pre.length
  hPs : Ps.length ≤ sizeLine
  turn : ∀ pre P r u acc F C D L₂ G₂ s, Ps = pre ++ P :: r → P u → J pre acc F → St b s ((C, frC [(x, vE u)]) :: (D, lstV acc) :: (F ++ (L₂ ++ X))) (G₂ ++ G) →
      wpAny (model prog w) A (testsOf ifs (compEnvC scope cl C env)) (fun ok s₂ =>
        if ok = true then wpAny (model prog w) A (eval elt (compEnvC scope cl C env)) (fun y s₃ => ∃ F', J (pre ++ [P]) (acc ++ [y]) F' ∧ St b s₃ ((C, frC [(x, vE u)]) :: (D, lstV acc) :: (F' ++ (L₂ ++ X))) (G₂ ++ G)) NoE s₂
        else ∃ F', J (pre ++ [P]) acc F' ∧ St b s₂ ((C, frC [(x, vE u)]) :: (D, lstV acc) :: (F' ++ (L₂ ++ X))) (G₂ ++ G)) NoE s
  hfin : ∀ acc F C D s', J Ps acc F → St b s' ((C, frC []) :: (D, lstV acc) :: (F ++ X)) G → compPost (model prog w) A E use Q (.ref D) C (.ok .next) s'
theorem comp_job {elt iter : Expr} {x : Str} {px pos pos' : Pos} {ifs : List Expr} {scope : Scope} {cl : List (Str × Addr)} {use : Option (Value → Sem Unit)} {Q : Value → Shared → Prop}
    (hiter : wpAny (model prog w) A (eval iter env) (fun v s₁ => ∃ Lr d Ps L₁ F₀ X G₁ G J, CompJob prog w A E b env elt x ifs scope cl use Q v s₁ Lr d Ps L₁ F₀ X G₁ G J) NoE s)
    (hclos : closureFor scope env = pure cl) (hkind : scope.kind = .function) (hnames : ∀ y ∈ scope.names, y.2 = .local → scope.names.lookup y.1 = some .local)
    (hcell : ∀ y ∈ scope.names, y.2 ≠ .cell) (hx : scope.names.lookup x = some .local) (hs : ∀ v, foldedSetIterable iter env v = pure v) :
    wpAny (model prog w) A (comprehension (.ListComp elt [⟨.Name x px, iter, ifs, 0⟩] scope pos') scope env pos (newList []) false (eval iter env) use) Q E s := by
  refine wpAny_comprehension_free (g := ⟨.Name x px, iter, ifs, 0⟩) (gs := []) rfl hs hclos hkind hnames ?_
  refine wpAny_mono hiter (fun v s₁ h₁ => ?_) fun _ _ x => x.elim
  obtain ⟨Lr, d, Ps, L₁, F₀, X, G₁, G, J, hsrc, hA, S₁, h0, hR, hz, hPs, turn, hfin⟩ := h₁
  refine hsrc A _ _ _ _ _ hA (hR [] [] F₀ h0) S₁ fun it s₂ L₂ G₂ hg hself S₂ => ?_
  refine r_newList S₂ lstV_mk fun D s₃ S₃ => ?_
  refine wpAny_newFunctionEnv (scope := scope) (binds := []) hcell (fun y hy => nomatch hy) (fun h' hn hsb => ?_) hkind
  obtain ⟨oC, hoC, hcC⟩ := frC_of (fl := []) hn (fun p hp => nomatch hp)
  have S₄ : St b { s₃ with heap := h', toks := s₃.toks + ([] : List (Str × Value)).length } ((s₃.heap.objs.size, frC []) :: (D, lstV []) :: (L₂ ++ (F₀ ++ X))) (G₂ ++ G) :=
    S₃.new (heap_get_size _) (fun a o e => hsb.extBut a o (Nat.ne_of_lt (Heap.lt_size e)) (Heap.get?_push_of_some _ e)) hoC hcC
  generalize hC : s₃.heap.objs.size = C at S₄
  show codeAny _ A (.compStart _ 0 it (.ref D) (compEnvC scope cl C env)) (compPost _ A E use Q (.ref D) C) _
  have S₅ : St b _ (L₂ ++ ((C, frC []) :: (D, lstV []) :: (F₀ ++ X))) (G₂ ++ G) := S₄.perm (by
    refine List.perm_middle.trans (.cons _ ?_)
    exact List.perm_middle)
  have loop : ∀ (it : Value) (s : Shared) (L₂ : Ledger) (G₂ : GLedger), Gives prog w b Lr d it Ps L₂ G₂ → St b s (L₂ ++ ((C, frC []) :: (D, lstV []) :: (F₀ ++ X))) (G₂ ++ G) →
      codeAny (model prog w) A (.compLoop (.ListComp elt [⟨.Name x px, iter, ifs, 0⟩] scope pos') 0 it (.ref D) (compEnvC scope cl C env)) (compPost (model prog w) A E use Q (.ref D) C) s := by
    intro it s L₂ G₂ hg S
    refine codeAny_compLoop_tests (fun n s => ∃ pre post acc F L₂ G₂, Ps = pre ++ post ∧ post.length = n ∧ J pre acc F ∧ Gives prog w b Lr d it post L₂ G₂ ∧ St b s (L₂ ++ ((C, frC []) :: (D, lstV acc) :: (F ++ X))) (G₂ ++ G)) ?_ Ps.length
      ⟨[], Ps, [], F₀, L₂, G₂, rfl, rfl, h0, hg, S⟩
    rintro n s₃ ⟨pre, post, acc, F, L₃, G₃, e, hn, hj, hg₃, S₃⟩
    refine hg₃.next hA (fun q hq => .tail _ (.tail _ (hR pre acc F hj q hq))) S₃ (fun e' s₄ S₄ => ?_) (fun P r e' u s₄ L₄ G₄ hu hg₄ S₄ => ?_)
    · subst e'
      rw [List.append_nil] at e
      subst e
      exact hfin acc F C D s₄ hj S₄
    · subst e'
      have S₅ : St b s₄ ((C, frC []) :: (D, lstV acc) :: (F ++ (L₄ ++ X))) (G₄ ++ G) := S₄.perm (by
        refine List.Perm.trans ?_ (List.perm_middle.symm)
        refine .cons _ ?_
        refine List.Perm.trans ?_ (List.perm_middle.symm)
        exact .cons _ (perm_swap3 F L₄ X))
      refine wpAny_assign_Name (r_store (P := vE u) S₅ (.head _) rfl .nil .head (fun s₅ S₆ => ?_) (lookup_relabel_local hx) (by show (scope.kind == .class || (scope.kind == .module && _)) = false; rw [hkind]; rfl))
      refine wpAny_mono (turn pre P r u acc F C D L₄ G₄ s₅ e hu hj S₆) (fun ok s₆ h₆ => ?_) fun _ _ x => x.elim
      have back : ∀ {acc' F' s}, St b s ((C, frC [(x, vE u)]) :: (D, lstV acc') :: (F' ++ (L₄ ++ X))) (G₄ ++ G) → St b s (L₄ ++ ((C, frC []) :: (D, lstV acc') :: (F' ++ X))) (G₄ ++ G) := fun S => by
        refine (S.less (.head _) .head fun o ho => frC_sub (fl' := []) (fun q hq => nomatch hq) ho).perm ?_
        refine List.perm_middle.trans (.cons _ ?_)
        refine List.perm_middle.trans (.cons _ ?_)
        exact perm_swap3 _ _ _
      cases ok with
      | true =>
        rw [if_pos rfl] at h₆ ⊢
        refine wpAny_mono h₆ (fun y s₇ h₇ => ?_) fun _ _ x => x.elim
        obtain ⟨F', hj', S₇⟩ := h₇
        have hlen : acc.length < sizeLine := by
          have h1 := hz pre acc F hj
          have h2 : Ps.length = pre.length + (r.length + 1) := by rw [e]; simp
          omega
        obtain ⟨_, hoD, nD, rfl⟩ := S₇.get (.tail _ (.head _))
        refine wpAny_list_append_plain (x := y) ⟨nD, hoD⟩ (fun h' hl hsb => ?_) (by simpa using Nat.le_of_lt hlen)
        obtain ⟨n', ho'⟩ := hl
        refine ⟨r.length, by simp only [List.length_cons] at hn; omega, pre ++ [P], r, acc ++ [y], F', L₄, G₄, by rw [e]; simp, rfl, hj', hg₄, back ?_⟩
        exact S₇.set (P' := lstV (acc ++ [y])) (.tail .head) ⟨_, .tail _ (.head _)⟩ hsb.extBut ho' ⟨n', by simp⟩
      | false =>
        rw [if_neg Bool.false_ne_true] at h₆ ⊢
        obtain ⟨F', hj', S₇⟩ := h₆
        exact ⟨r.length, by simp only [List.length_cons] at hn; omega, pre ++ [P], r, acc, F', L₄, G₄, by rw [e]; simp, rfl, hj', hg₄, back S₇⟩
  refine codeAny_compStart_list (loop it _ L₂ G₂ hg S₅) ?_
  exact hself A _ _ _ _ _ S₅ (loop it _ L₂ G₂ hg S₅)

/-- no own cell: the end of a comprehension whose value is its list -/
theorem comp_end {A : Around} {E : Value → Shared → Prop} {Q : Value → Shared → Prop} {C D : Addr} {s' : Shared} {L : Ledger} {G : GLedger} (S : St b s' ((C, frC []) :: L) G) (h : ∀ s'', St b s'' L G → Q (.ref D) s'') :
    compPost (model prog w) A E none Q (.ref D) C (.ok .next) s' := by
  obtain ⟨o, ho, hc⟩ := S.get (.head _)
  obtain ⟨m, hn, _⟩ := frC_ns ho hc
  exact ⟨m, hn, fun h'' hs'' => h _ (S.drop1 hs''.extBut)⟩

/-- [f(x) for x in texts] -/
theorem r_compS {elt iter : Expr} {x : Str} {px pos : Pos} {scope : Scope} {Q : Value → Shared → Prop} (fS : Str → Str) (hA : Ar A 0)
    (hiter : wpAny (model prog w) A (eval iter env) (fun v s₁ => ∃ l ys L' G', v = .ref l ∧ St b s₁ ((l, lstS ys) :: L') G' ∧ ys.length ≤ sizeLine ∧
      (∀ y ∈ ys, ∀ (C : Addr) (L : Ledger) (G : GLedger) (u : Value) (s : Shared) (R : Value → Shared → Prop), vS y u → St b s ((C, frC [(x, vE u)]) :: L) G → (∀ t s', St b s' ((C, frC [(x, vE u)]) :: L) G → R (.str (fS y) t) s') → wpAny (model prog w) A (eval elt (compEnvC scope [] C env)) R NoE s) ∧
      ∀ D s', St b s' ((D, lstS (ys.map fS)) :: L') G' → Q (.ref D) s') NoE s)
    (hclos : closureFor scope env = pure [] := by kernel_rfl) (hkind : scope.kind = .function := by kernel_rfl) (hnames : ∀ y ∈ scope.names, y.2 = .local → scope.names.lookup y.1 = some .local := by decide)
    (hcell : ∀ y ∈ scope.names, y.2 ≠ .cell := by decide) (hx : scope.names.lookup x = some .local := by kernel_rfl) (hs : ∀ v, foldedSetIterable iter env v = pure v := by intro _; kernel_rfl) :
    wpAny (model prog w) A (eval (.ListComp elt [⟨.Name x px, iter, [], 0⟩] scope pos) env) Q E s := by
  rw [eval_ListComp]
  refine comp_job (b := b) (cl := []) (wpAny_mono hiter (fun v s₁ h₁ => ?_) fun _ _ x => x) hclos hkind hnames hcell hx hs
  obtain ⟨l, ys, L', G', rfl, S₁, hz, helt, hQ⟩ := h₁
  refine ⟨[(l, lstS ys)], 0, ys.map vS, [], [(l, lstS ys)], L', [], G', fun pre acc F => ∃ zs, pre = zs.map vS ∧ StrsAre acc (zs.map fS) ∧ F = [(l, lstS ys)], givesI_list (hasL_S (.head _)), hA, S₁, ⟨[], rfl, .nil, rfl⟩, ?_, ?_, by rw [List.length_map]; exact hz, ?_, ?_⟩
  · rintro _ _ _ ⟨_, _, _, rfl⟩ p hp
    rw [List.mem_singleton] at hp
    subst hp
    exact .head _
  · rintro _ _ _ ⟨zs, rfl, h, _⟩
    rw [strsAre_len h, List.length_map, List.length_map]
    exact Nat.le_refl _
  · rintro pre P r u acc F C D L₂ G₂ s e hu ⟨zs, rfl, hacc, rfl⟩ S
    refine wpAny_pure ?_
    rw [if_pos rfl]
    obtain ⟨y, rs, hy, hPy⟩ := next_vS e
    subst hPy
    refine helt y (by rw [hy]; simp) C _ _ u s _ hu S fun t s' S' => ?_
    exact ⟨_, ⟨zs ++ [y], by simp, by rw [List.map_append]; exact hacc.append' (.cons _ t .nil), rfl⟩, S'⟩
  · rintro acc F C D s' ⟨zs, e, hacc, rfl⟩ S
    have : zs = ys := (map_vS_inj e).symm
    subst this
    refine comp_end S fun s'' S'' => hQ D s'' ?_
    refine (S''.weaken (P' := lstS (zs.map fS)) .head ?_).sub ?_
    · rintro P o hP ho
      have hnd := S''.nodup
      have : P = lstV acc := by
        rcases List.mem_cons.mp hP with h | h
        · exact (Prod.mk.inj h).2
        · exact absurd (List.mem_map_of_mem (f := (·.1)) h) (List.nodup_cons.mp hnd).1
      subst this
      obtain ⟨n, rfl⟩ := ho
      exact ⟨_, n, rfl, by simpa using hacc⟩
    · exact .cons_cons _ (List.sublist_cons_self _ _)
end
end Mine

-- part DW
open PySem PySem.W PySem.W.X PyProof.Rows PySem.Calls PySem.Spec PySem.SeqAt
set_option Elab.async false
set_option maxRecDepth 100000
set_option maxHeartbeats 400000
set_option linter.all false
namespace Mine

local macro_rules | `(tactic| walk_at "mem") => `(tactic| first | assumption | exact List.Mem.head _ | (refine List.Mem.tail _ ?_; walk_at "mem") | (refine List.mem_append_right _ ?_; walk_at "mem"))
local macro_rules | `(tactic| walk_at "mn") => `(tactic| first | with_reducible exact List.mem_cons_self | ((with_reducible refine List.mem_cons_of_mem _ ?_); walk_at "mn"))
local macro_rules | `(tactic| walk_at "upd") => `(tactic| first | exact Upd.head | ((with_reducible apply Upd.tail); walk_at "upd"))
local macro_rules | `(tactic| walk_at "set") => `(tactic| first | with_reducible exact SetN.nil | ((with_reducible refine SetN.hit ?_); kernel_rfl) | ((with_reducible apply SetN.skip); kernel_rfl; walk_at "set"))

def dDef : Stmt := match PySem.Challenge.pw_dm0050_03.main.body with | _ :: _ :: _ :: d :: _ => d | _ => .Pass default
def dBody : List Stmt := match dDef with | .FunctionDef _ _ b .. => b | _ => []
def dScope : Scope := match dDef with | .FunctionDef _ _ _ _ _ _ sc .. => sc | _ => default
def dParams : Arguments := match dDef with | .FunctionDef _ a .. => a | _ => default
abbrev dEnv (C f : Addr) (cd : Value) : Env := envOf "_law_delta" dScope C f cd

section
variable {prog : Program} {w : World} {A : Around} {E : Value → Shared → Prop} {b s : Shared} {X : Ledger} {G : GLedger} {mg mb : Str → Option Value} {names : List Str} {Q : Value → Shared → Prop}

abbrev dFr (o n od rw : Addr) (k : Int) : List (Str × VP) := [(("old" : Str), vE (.ref o)), (("new" : Str), vE (.ref n)), (("odd" : Str), vE (.ref od)), (("rows" : Str), vE (.ref rw)), (("at" : Str), vI k)]
abbrev dFr2 (o n od rw : Addr) (k : Int) (row : Str) (far : Int) : List (Str × VP) := [(("old" : Str), vE (.ref o)), (("new" : Str), vE (.ref n)), (("odd" : Str), vE (.ref od)), (("rows" : Str), vE (.ref rw)), (("at" : Str), vI k), (("row" : Str), vS row), (("far" : Str), vI far)]

theorem lt_natB {a b : Nat} : decide ((a : Int) < (b : Int)) = decide (a < b) := by simp

def dWhile : Stmt := match dBody with | [_, _, _, .For _ _ [_, w, _] _ _, _, _] => w | _ => .Pass default
def dIf : Stmt := match dBody with | [_, _, _, .For _ _ [_, _, i] _ _, _, _] => i | _ => .Pass default

/-- the search of a row in new -/
theorem w_search {C f : Addr} {cd : Value} {o n od rw : Addr} {new : List Str} {k : Nat} {row : Str} {L : Ledger} {Q : Flow → Shared → Prop} (B : Bs b mg mb names) (hlen : ("len" : Str) ∉ names)
    (hn : (n, lstS new) ∈ L) (hk : k ≤ new.length) (hz : new.length ≤ sizeLine)
    (S : St b s ((C, frC (dFr2 o n od rw k row k)) :: L) G)
    (h : ∀ s', St b s' ((C, frC (dFr2 o n od rw k row (dFar new row k))) :: L) G → Q .next s') :
    wpAny (model prog w) A (exec dWhile (dEnv C f cd)) Q NoE s := by
  conv in dWhile => whnf
  refine r_while (fun m s => ∃ far : Nat, m = dFar new row k - far ∧ k ≤ far ∧ far ≤ dFar new row k ∧ St b s ((C, frC (dFr2 o n od rw k row far)) :: L) G) _ ⟨k, rfl, Nat.le_refl _, dFar_ge .., S⟩ ?_
  rintro m s ⟨far, hm, h1, h2, S⟩
  have hb : sizeLine < 2 ^ 63 := by decide
  refine wpAny_isTrue_BoolOp ?_
  refine wpAny_allTrue_And_cons ?_
  refine wpAny_isTrue_Compare1 ?_ (by kernel_rfl)
  refine r_nameI S (by walk_at "mem") (by walk_at "mn") fun t₁ => ?_
  refine r_callB1 (id := "len") B S (by decide +kernel) ?_ (hfree := hlen)
  refine r_nameE S (by walk_at "mem") (by walk_at "mn") ?_
  refine r_lenS S (by walk_at "mem") hz fun t₂ s₁ S₁ => ?_
  refine r_lt ?_
  refine wpAny_truthy_bool ?_
  rw [lt_natB]
  by_cases hlt : far < dFar new row k
  · obtain ⟨hl, y, hy, hne⟩ := dFar_in hk h1 hlt
    rw [if_pos (by simpa using hl)]
    refine wpAny_allTrue_And_cons ?_
    refine wpAny_isTrue_Compare1 ?_ (by kernel_rfl)
    refine Subscript_ ?_
    refine r_nameE S₁ (by walk_at "mem") (by walk_at "mn") ?_
    refine r_nameI S₁ (by walk_at "mem") (by walk_at "mn") fun t₃ => ?_
    refine r_itemS S₁ (by walk_at "mem") (by omega) (by omega) (by simpa using hy) fun t₄ => ?_
    refine r_nameS S₁ (by walk_at "mem") (by walk_at "mn") fun t₅ => ?_
    refine r_neS ?_
    refine wpAny_truthy_bool ?_
    rw [if_pos hne]
    refine wpAny_allTrue_And_nil ?_
    rw [if_pos rfl]
    refine r_seq ?_
    refine wpAny_AugAssign_Name ?_
    refine r_load S₁ (by walk_at "mem") (by walk_at "mn") fun v hv => ?_
    obtain ⟨t₆, rfl⟩ := hv
    refine r_int S₁ fun t₇ s₂ S₂ => ?_
    refine r_iadd S₂ fun t₈ s₃ S₃ => ?_
    refine r_store (P := vI ((far : Int) + 1)) S₃ (by walk_at "mem") ⟨_, rfl⟩ (by walk_at "set") (by walk_at "upd") fun s₄ S₄ => ?_
    refine then_next ?_
    refine wpAny_execs_nil ?_
    refine turn_next ?_
    exact ⟨_, by omega, far + 1, rfl, by omega, by omega, S₄⟩
  · obtain rfl : far = dFar new row k := by omega
    by_cases hl : dFar new row k < new.length
    · rw [if_pos (by simpa using hl)]
      have hy := dFar_at hl
      refine wpAny_allTrue_And_cons ?_
      refine wpAny_isTrue_Compare1 ?_ (by kernel_rfl)
      refine Subscript_ ?_
      refine r_nameE S₁ (by walk_at "mem") (by walk_at "mn") ?_
      refine r_nameI S₁ (by walk_at "mem") (by walk_at "mn") fun t₃ => ?_
      refine r_itemS S₁ (by walk_at "mem") (by omega) (by omega) (by simpa using hy) fun t₄ => ?_
      refine r_nameS S₁ (by walk_at "mem") (by walk_at "mn") fun t₅ => ?_
      refine r_neS ?_
      refine wpAny_truthy_bool ?_
      rw [if_neg (by simp)]
      exact h _ S₁
    · rw [if_neg (by simpa using hl)]
      exact h _ S₁
end
end Mine

-- part DW2
open PySem PySem.W PySem.W.X PyProof.Rows PySem.Calls PySem.Spec PySem.SeqAt
set_option Elab.async false
set_option maxRecDepth 100000
set_option maxHeartbeats 400000
set_option linter.all false
namespace Mine

local macro_rules | `(tactic| walk_at "mem") => `(tactic| first | assumption | exact List.Mem.head _ | (refine List.Mem.tail _ ?_; walk_at "mem") | (refine List.mem_append_right _ ?_; walk_at "mem"))
local macro_rules | `(tactic| walk_at "mn") => `(tactic| first | with_reducible exact List.mem_cons_self | ((with_reducible refine List.mem_cons_of_mem _ ?_); walk_at "mn"))
local macro_rules | `(tactic| walk_at "upd") => `(tactic| first | exact Upd.head | ((with_reducible apply Upd.tail); walk_at "upd"))
local macro_rules | `(tactic| walk_at "set") => `(tactic| first | with_reducible exact SetN.nil | ((with_reducible refine SetN.hit ?_); kernel_rfl) | ((with_reducible apply SetN.skip); kernel_rfl; walk_at "set"))

theorem pick_nat {α : Type} (l : List α) (a c : Nat) : pick l (some (a : Int)) (some (c : Int)) = (l.drop a).take (c - a) := by
  unfold pick kms_lo kms_hi
  simp only [show ¬ ((a : Int) < 0) by omega, show ¬ ((c : Int) < 0) by omega, if_false, Int.toNat_natCast]
  by_cases ha : a ≤ l.length
  · rw [Nat.min_eq_left ha, List.take_eq_take_iff, List.length_drop]; omega
  · rw [Nat.min_eq_right (show l.length ≤ a by omega), List.drop_of_length_le (l := l) (Nat.le_refl _), List.drop_of_length_le (show l.length ≤ a by omega)]
    simp
theorem pick_from {α : Type} (l : List α) (a : Nat) : pick l (some (a : Int)) none = l.drop a := by
  unfold pick kms_lo kms_hi
  simp only [show ¬ ((a : Int) < 0) by omega, if_false, Int.toNat_natCast]
  rw [List.take_of_length_le (by rw [List.length_drop]; omega)]
  by_cases ha : a ≤ l.length
  · rw [Nat.min_eq_left ha]
  · rw [Nat.min_eq_right (show l.length ≤ a by omega), List.drop_of_length_le (l := l) (Nat.le_refl _), List.drop_of_length_le (show l.length ≤ a by omega)]

section
variable {prog : Program} {w : World} {A : Around} {E : Value → Shared → Prop} {b s : Shared} {X : Ledger} {G : GLedger} {mg mb : Str → Option Value} {names : List Str} {Q : Value → Shared → Prop}

/-- a method of a list of texts -/
theorem r_methS {o e : Expr} {name : Str} {apos pos : Pos} {id : String} {env : Env} (slot : Slot "list" name id) (hty : typeOf (.builtin id) = pure (.type "method_descriptor"))
    (h : wpAny (model prog w) A (eval o env) (fun ov s₁ => ∃ l ys L G, ov = .ref l ∧ St b s₁ L G ∧ (l, lstS ys) ∈ L ∧ wpAny (model prog w) A (callWith pos (.builtin id) [.ref l] [(false, eval e env)] []) Q E s₁) E s)
    (hbase : attributeBase o name env (eval o env) = eval o env := by kernel_rfl) (hline : (apos.endLine == pos.line) = true := by kernel_rfl) (htrees : backTo pos (starEach [e] env) = [(false, eval e env)] := by kernel_rfl) :
    wpAny (model prog w) A (eval (.Call (.Attribute o name apos) [e] [] pos) env) Q E s := by
  refine r_meth1 slot hty (wpAny_mono h (fun ov s₁ h₁ => ?_) fun _ _ x => x) hbase hline htrees
  obtain ⟨l, ys, L, G, rfl, S, hl, h₂⟩ := h₁
  obtain ⟨_, e, vs, m, rfl, hs⟩ := S.get hl
  exact ⟨_, _, rfl, e, rfl, rfl, h₂⟩

/-- h + x, in a comprehension -/
theorem w_headed {env : Env} {scope : Scope} {h x : Str} {k : Nat} {p1 p2 p3 : Pos} {y : Str} (hz : h.length + y.length ≤ sizeLine) (hkind : scope.kind = .function) (hx : scope.names.lookup x = some .local) (hd : (x == ("__debug__" : Str)) = false) {C : Addr} {L : Ledger} {u : Value} {R : Value → Shared → Prop}
    (hu : vS y u) (S : St b s ((C, frC [(x, vE u)]) :: L) G) (hR : ∀ t s', St b s' ((C, frC [(x, vE u)]) :: L) G → R (.str (h ++ y) t) s') :
    wpAny (model prog w) A (eval (.BinOp (.Constant (.str h) k p1) .Add (.Name x p2) p3) (compEnvC scope [] C env)) R NoE s := by
  refine wpAny_BinOp ?_
  refine r_str S fun t s₁ S₁ => ?_
  refine r_name S₁ (.head _) (.head _) (fun v hv => ?_) (by simp [compEnvC, relabel, hkind]) (lookup_relabel_local hx) hd
  obtain rfl : v = u := hv
  obtain ⟨t', rfl⟩ := hu
  exact r_addS S₁ hz fun t₂ s₂ S₂ => hR _ _ S₂

/-- what the row adds -/
theorem w_row {C f : Addr} {cd : Value} {o n od rw : Addr} {new rows : List Str} {k : Nat} {row : Str} {L : Ledger} {Q : Flow → Shared → Prop} (B : Bs b mg mb names) (hlen : ("len" : Str) ∉ names) (hA : Ar A 0)
    (hn : (n, lstS new) ∈ L) (hk : k ≤ new.length) (hz : rows.length + (dFar new row k - k) + 2 ≤ sizeLine) (hzn' : new.length ≤ sizeLine) (hzr : row.length + 2 ≤ sizeLine) (hzn : ∀ y ∈ new, y.length + 2 ≤ sizeLine)
    (S : St b s ((C, frC (dFr2 o n od rw k row (dFar new row k))) :: (rw, lstS rows) :: (od, lstS oddL) :: L) G)
    (h : ∀ s', St b s' ((C, frC (dFr2 o n od rw (dStep new (rows, k) row).2 row (dFar new row k))) :: (rw, lstS (dStep new (rows, k) row).1) :: (od, lstS oddL) :: L) G → Q .next s') :
    wpAny (model prog w) A (exec dIf (dEnv C f cd)) Q NoE s := by
  conv in dIf => whnf
  have hb : sizeLine < 2 ^ 63 := by decide
  refine wpAny_If ?_
  refine wpAny_isTrue_Compare1 ?_ (by kernel_rfl)
  refine r_nameI S (by walk_at "mem") (by walk_at "mn") fun t₁ => ?_
  refine r_callB1 (id := "len") B S (by decide +kernel) ?_ (hfree := hlen)
  refine r_nameE S (by walk_at "mem") (by walk_at "mn") ?_
  refine r_lenS S (by walk_at "mem") hzn' fun t₂ s₁ S₁ => ?_
  refine r_lt ?_
  refine wpAny_truthy_bool ?_
  rw [lt_natB]
  unfold dStep at h
  by_cases hl : dFar new row k < new.length
  · rw [if_pos (by simpa using hl)]
    rw [if_pos hl] at h
    -- rows.extend
    refine r_seq ?_
    refine r_stmtE ?_
    refine r_methS (b := b) F.slot_list_extend F.type_list_extend ?_
    refine r_nameE S₁ (by walk_at "mem") (by walk_at "mn") ?_
    refine ⟨_, _, _, _, rfl, S₁, by walk_at "mem", ?_⟩
    refine r_extS (b := b) (ys := rows) ?_
    refine r_compS (b := b) (fun y => ("+ " : Str) ++ y) hA ?_
    refine r_slcS (b := b) ?_
    refine r_nameE S₁ (by walk_at "mem") (by walk_at "mn") ?_
    refine ⟨_, rfl, ?_⟩
    refine wpAny_evalPart_some ?_
    refine r_nameI S₁ (by walk_at "mem") (by walk_at "mn") fun t₃ => ?_
    refine wpAny_evalPart_some ?_
    refine r_nameI S₁ (by walk_at "mem") (by walk_at "mn") fun t₄ => ?_
    refine ⟨_, _, _, _, _, .int _ _, .int _ _, S₁, by walk_at "mem", hzn', fun a s₂ S₂ => ?_⟩
    rw [pick_nat] at S₂
    have hpl : ((new.drop k).take (dFar new row k - k)).length ≤ dFar new row k - k := by rw [List.length_take]; omega
    refine ⟨_, _, _, _, rfl, S₂, by omega, fun y hy C L G u s R hu S hR => ?_, fun D s₃ S₃ => ?_⟩
    · have h1 := hzn y (List.mem_of_mem_drop (List.mem_of_mem_take hy))
      have h2 : ("+ " : Str).length = 2 := by decide +kernel
      exact w_headed (by omega) rfl (by kernel_rfl) (by kernel_rfl) hu S hR
    refine ⟨D, _, _, _, _, rfl, S₃, by walk_at "mem", by walk_at "mem", by walk_at "upd", by rw [List.length_map]; omega, fun s₄ S₄ => ⟨rfl, ?_⟩⟩
    replace S₄ := S₄.sub (List.sublist_cons_self _ _)
    refine then_next ?_
    -- rows.append
    refine r_seq ?_
    refine r_stmtE ?_
    refine r_methS (b := b) F.slot_list_append F.type_list_append ?_
    refine r_nameE S₄ (by walk_at "mem") (by walk_at "mn") ?_
    refine ⟨_, _, _, _, rfl, S₄, by walk_at "mem", ?_⟩
    refine r_appS (b := b) (ys := rows ++ ((new.drop k).take (dFar new row k - k)).map fun y => ("+ " : Str) ++ y) ?_
    refine wpAny_BinOp ?_
    refine r_str S₄ fun t₅ s₅ S₅ => ?_
    refine r_nameS S₅ (by walk_at "mem") (by walk_at "mn") fun t₆ => ?_
    refine r_addS S₅ (by have : ("  " : Str).length = 2 := by decide +kernel
                         omega) fun t₇ s₆ S₆ => ?_
    refine ⟨_, _, _, _, _, rfl, S₆, by walk_at "mem", by walk_at "upd", by rw [List.length_append, List.length_map]; omega, fun s₇ S₇ => ⟨rfl, ?_⟩⟩
    refine then_next ?_
    refine r_seq ?_
    refine wpAny_Assign_Name ?_ (by kernel_rfl)
    refine wpAny_BinOp ?_
    refine r_nameI S₇ (by walk_at "mem") (by walk_at "mn") fun t₈ => ?_
    refine r_int S₇ fun t₉ s₈ S₈ => ?_
    refine r_add S₈ fun t₁₀ s₉ S₉ => ?_
    refine r_store (P := vI ((dFar new row k : Int) + 1)) S₉ (by walk_at "mem") ⟨_, rfl⟩ (by walk_at "set") (by walk_at "upd") fun s₁₀ S₁₀ => ?_
    refine then_next ?_
    refine wpAny_execs_nil ?_
    exact h _ S₁₀
  · rw [if_neg (by simpa using hl)]
    rw [if_neg hl] at h
    have hm : ("- " : Str).length = 2 := by decide +kernel
    refine r_seq ?_
    refine r_stmtE ?_
    refine r_methS (b := b) F.slot_list_append F.type_list_append ?_
    refine r_nameE S₁ (by walk_at "mem") (by walk_at "mn") ?_
    refine ⟨_, _, _, _, rfl, S₁, by walk_at "mem", ?_⟩
    refine r_appS (b := b) (ys := rows) ?_
    refine wpAny_BinOp ?_
    refine r_str S₁ fun t₅ s₅ S₅ => ?_
    refine r_nameS S₅ (by walk_at "mem") (by walk_at "mn") fun t₆ => ?_
    refine r_addS S₅ (by omega) fun t₇ s₆ S₆ => ?_
    refine ⟨_, _, _, _, _, rfl, S₆, by walk_at "mem", by walk_at "upd", by omega, fun s₇ S₇ => ⟨rfl, ?_⟩⟩
    refine then_next ?_
    refine r_seq ?_
    refine r_stmtE ?_
    refine r_methS (b := b) F.slot_list_append F.type_list_append ?_
    refine r_nameE S₇ (by walk_at "mem") (by walk_at "mn") ?_
    refine ⟨_, _, _, _, rfl, S₇, by walk_at "mem", ?_⟩
    refine r_appS (b := b) (ys := rows ++ ["- " ++ row]) ?_
    refine Subscript_ ?_
    refine r_nameE S₇ (by walk_at "mem") (by walk_at "mn") ?_
    refine wpAny_BinOp ?_
    refine r_callB1 (id := "len") B S₇ (by decide +kernel) ?_ (hfree := hlen)
    refine r_nameE S₇ (by walk_at "mem") (by walk_at "mn") ?_
    refine r_lenS S₇ (by walk_at "mem") (by rw [List.length_append]; simp only [List.length_cons, List.length_nil]; omega) fun t₂ s₈ S₈ => ?_
    refine r_int S₈ fun t₉ s₉ S₉ => ?_
    refine r_mod S₉ (by decide) fun t₁₀ s₁₀ S₁₀ => ?_
    have e : (((rows ++ ["- " ++ row]).length : Nat) : Int).fmod 7 = (((rows.length + 1) % 7 : Nat) : Int) := by
      rw [Int.fmod_eq_emod_of_nonneg _ (by decide), List.length_append]; simp
    rw [e]
    have hodd := odd_at (rows.length + 1)
    refine r_itemS S₁₀ (by walk_at "mem") (by omega) (by omega) (by rw [Int.toNat_natCast]; exact hodd.2) fun t₁₁ => ?_
    refine ⟨_, _, _, _, _, rfl, S₁₀, by walk_at "mem", by walk_at "upd", by rw [List.length_append]; simp only [List.length_cons, List.length_nil]; omega, fun s₁₁ S₁₁ => ⟨rfl, ?_⟩⟩
    refine then_next ?_
    refine wpAny_execs_nil ?_
    exact h _ S₁₁
end
end Mine

-- part DW3
open PySem PySem.W PySem.W.X PyProof.Rows PySem.Calls PySem.Spec PySem.SeqAt
set_option Elab.async false
set_option maxRecDepth 100000
set_option maxHeartbeats 400000
set_option linter.all false
namespace Mine

local macro_rules | `(tactic| walk_at "mem") => `(tactic| first | assumption | exact List.Mem.head _ | (refine List.Mem.tail _ ?_; walk_at "mem") | (refine List.mem_append_right _ ?_; walk_at "mem"))
local macro_rules | `(tactic| walk_at "mn") => `(tactic| first | with_reducible exact List.mem_cons_self | ((with_reducible refine List.mem_cons_of_mem _ ?_); walk_at "mn"))
local macro_rules | `(tactic| walk_at "upd") => `(tactic| first | exact Upd.head | ((with_reducible apply Upd.tail); walk_at "upd"))
local macro_rules | `(tactic| walk_at "set") => `(tactic| first | with_reducible exact SetN.nil | ((with_reducible refine SetN.hit ?_); kernel_rfl) | ((with_reducible apply SetN.skip); kernel_rfl; walk_at "set"))

section
variable {prog : Program} {w : World} {A : Around} {E : Value → Shared → Prop} {b s : Shared} {X : Ledger} {G : GLedger} {mg mb : Str → Option Value} {names : List Str} {Q : Value → Shared → Prop}

theorem dRun_app (ys : List Str) (row : Str) (new : List Str) : dRun (ys ++ [row]) new = dStep new (dRun ys new) row := by unfold dRun; rw [List.foldl_append]; rfl

theorem w_delta {C f : Addr} {cd : Value} {o n : Addr} {old new : List Str} {Q : Flow → Shared → Prop} (B : Bs b mg mb names) (hlen : ("len" : Str) ∉ names) (hA : Ar A 0)
    (ho : (o, lstS old) ∈ X) (hn : (n, lstS new) ∈ X) (hz : 2 * old.length + new.length + 2 ≤ sizeLine) (hzo : ∀ y ∈ old, y.length + 2 ≤ sizeLine) (hzn : ∀ y ∈ new, y.length + 2 ≤ sizeLine)
    (S : St b s ((C, frC [(("old" : Str), vE (.ref o)), (("new" : Str), vE (.ref n))]) :: X) G)
    (h : ∀ a s', St b s' ((a, lstS (deltaS old new)) :: X) G → Q (.ret (.ref a)) s') :
    wpAny (model prog w) A (execs dBody (dEnv C f cd)) Q NoE s := by
  conv in dBody => whnf
  refine r_seq ?_
  refine wpAny_Assign_Name ?_ (by kernel_rfl)
  refine r_listS oddL S fun od s₁ S₁ => ?_
  refine r_store (P := vE (.ref od)) S₁ (by walk_at "mem") rfl (by walk_at "set") (by walk_at "upd") fun s₂ S₂ => ?_
  refine then_next ?_
  refine r_seq ?_
  refine wpAny_Assign_Name ?_ (by kernel_rfl)
  refine r_listS [] S₂ fun rw s₃ S₃ => ?_
  refine r_store (P := vE (.ref rw)) S₃ (by walk_at "mem") rfl (by walk_at "set") (by walk_at "upd") fun s₄ S₄ => ?_
  refine then_next ?_
  refine r_seq ?_
  refine wpAny_Assign_Name ?_ (by kernel_rfl)
  refine r_int S₄ fun t s₅ S₅ => ?_
  refine r_store (P := vI 0) S₅ (by walk_at "mem") ⟨t, rfl⟩ (by walk_at "set") (by walk_at "upd") fun s₆ S₆ => ?_
  refine then_next ?_
  replace S₆ := S₆.perm (L' := (C, frC (dFr o n od rw 0)) :: (rw, lstS []) :: (od, lstS oddL) :: X) (by
    refine List.Perm.trans (.swap _ _ _) (.cons _ ?_)
    exact .swap _ _ _)
  refine r_seq ?_
  refine r_forj (b := b) ?_
  refine r_nameE S₆ (by walk_at "mem") (by walk_at "mn") ?_
  refine ⟨[(o, lstS old)], 0, old.map vS, [], [(C, frC (dFr o n od rw 0)), (rw, lstS []), (od, lstS oddL)], X, [], G, fun pre F => ∃ ys, pre = ys.map vS ∧ F = [(C, frC (dFr o n od rw (dRun ys new).2)), (rw, lstS (dRun ys new).1), (od, lstS oddL)],
    givesI_list (hasL_S (.head _)), hA, S₆, ⟨[], rfl, rfl⟩, ?_, ?_, ?_⟩
  · rintro _ _ ⟨_, _, rfl⟩ p hp
    rw [List.mem_singleton] at hp
    subst hp
    walk_at "mem"
  · rintro pre P r u F L₂ G₂ s e hu ⟨ys, rfl, rfl⟩ S
    obtain ⟨row, rs, ey, rfl⟩ := next_vS e
    obtain ⟨t, rfl⟩ := hu
    have hi := dInv ys new
    have hsm := dRun_small ys new
    have hrow : row ∈ old := by rw [ey]; simp
    have hol : ys.length + 1 ≤ old.length := by rw [ey]; simp
    simp only [List.cons_append, List.nil_append] at S
    refine wpAny_assign_Name (r_store (P := vS row) S (by walk_at "mem") ⟨t, rfl⟩ (by walk_at "set") (by walk_at "upd") fun s₁ S₁ => ?_)
    refine r_seq ?_
    refine wpAny_Assign_Name ?_ (by kernel_rfl)
    refine r_nameI S₁ (by walk_at "mem") (by walk_at "mn") fun t₁ => ?_
    refine r_store (P := vI ((dRun ys new).2 : Int)) S₁ (by walk_at "mem") ⟨_, rfl⟩ (by walk_at "set") (by walk_at "upd") fun s₂ S₂ => ?_
    refine then_next ?_
    refine r_seq ?_
    have hfar := dFar_le (row := row) hi.le
    have hfge := dFar_ge new row (dRun ys new).2
    have hile := hi.le
    refine w_search (L := (rw, lstS (dRun ys new).1) :: (od, lstS oddL) :: (L₂ ++ X)) B hlen (by walk_at "mem") hi.le (by omega) S₂ fun s₃ S₃ => ?_
    refine then_next ?_
    refine r_seq ?_
    refine w_row (L := L₂ ++ X) B hlen hA (by walk_at "mem") hi.le (by omega) (by omega) (hzo _ hrow) hzn S₃ fun s₄ S₄ => ?_
    refine then_next ?_
    refine wpAny_execs_nil ?_
    refine turn_next ?_
    refine ⟨_, ⟨ys ++ [row], by simp, rfl⟩, ?_⟩
    rw [dRun_app]
    exact S₄.less (.head _) .head fun o ho => frC_sub (fun q hq => by
      simp only [dFr, List.mem_cons, List.not_mem_nil, or_false] at hq
      rcases hq with rfl | rfl | rfl | rfl | rfl <;> walk_at "mn") ho
  · rintro F s₇ ⟨ys, e, rfl⟩ S₇
    obtain rfl := map_vS_inj e
    have hi := dInv old new
    have hile := hi.le
    have hsm := dRun_small old new
    simp only [List.cons_append, List.nil_append] at S₇
    refine then_next ?_
    refine r_seq ?_
    refine r_stmtE ?_
    refine r_methS (b := b) F.slot_list_extend F.type_list_extend ?_
    refine r_nameE S₇ (by walk_at "mem") (by walk_at "mn") ?_
    refine ⟨_, _, _, _, rfl, S₇, by walk_at "mem", ?_⟩
    refine r_extS (b := b) (ys := (dRun old new).1) ?_
    refine r_compS (b := b) (fun y => ("+ " : Str) ++ y) hA ?_
    refine r_slcS (b := b) ?_
    refine r_nameE S₇ (by walk_at "mem") (by walk_at "mn") ?_
    refine ⟨_, rfl, ?_⟩
    refine wpAny_evalPart_some ?_
    refine r_nameI S₇ (by walk_at "mem") (by walk_at "mn") fun t₃ => ?_
    refine wpAny_evalPart_none ?_
    refine ⟨_, _, _, _, _, .int _ _, .none, S₇, by walk_at "mem", by omega, fun a s₂ S₂ => ?_⟩
    rw [pick_from] at S₂
    have hpl : (new.drop (dRun old new).2).length = new.length - (dRun old new).2 := by rw [List.length_drop]
    refine ⟨_, _, _, _, rfl, S₂, by omega, fun y hy C L G u s R hu S hR => ?_, fun D s₃ S₃ => ?_⟩
    · have h1 := hzn y (List.mem_of_mem_drop hy)
      have h2 : ("+ " : Str).length = 2 := by decide +kernel
      exact w_headed (by omega) rfl (by kernel_rfl) (by kernel_rfl) hu S hR
    refine ⟨D, _, _, _, _, rfl, S₃, by walk_at "mem", by walk_at "mem", by walk_at "upd", by rw [List.length_map]; omega, fun s₄ S₄ => ⟨rfl, ?_⟩⟩
    refine then_next ?_
    refine r_seq ?_
    refine wpAny_Return_some ?_
    refine r_nameE S₄ (by walk_at "mem") (by walk_at "mn") ?_
    refine then_ret ?_
    refine h rw _ (S₄.sub ?_)
    exact .cons _ (.cons _ (.cons_cons _ (List.sublist_cons_self _ _)))

theorem Ar.deeper {A : Around} {d : Nat} {env : Env} (h : Ar A (d + 1)) : Ar (A.deeper env) d := ⟨h.1, by have := h.2; show A.depth + 1 + d < recursionLimit; omega⟩

/-- what a call of _law_delta gives -/
theorem r_delta {f : Addr} {cd : Value} {o n : Addr} {old new : List Str} (B : Bs b mg mb names) (hlen : ("len" : Str) ∉ names) (F : FnAt b mg f "_law_delta" dParams dBody dScope cd) (hA : Ar A 1)
    (ho : (o, lstS old) ∈ X) (hn : (n, lstS new) ∈ X) (hz : 2 * old.length + new.length + 2 ≤ sizeLine) (hzo : ∀ y ∈ old, y.length + 2 ≤ sizeLine) (hzn : ∀ y ∈ new, y.length + 2 ≤ sizeLine)
    (S : St b s X G) (h : ∀ a s', St b s' ((a, lstS (deltaS old new)) :: X) G → Q (.ref a) s') :
    wpAny (model prog w) A (call (.ref f) [.ref o, .ref n]) Q E s := by
  refine r_callDef [(("old" : Str), .ref o), (("new" : Str), .ref n)] B F S (by have := hA.2; omega) (fun pm doc => rfl) (locs rfl) (by intro p hp; simp only [List.mem_cons, List.not_mem_nil, or_false] at hp; rcases hp with rfl | rfl <;> rfl) (fun C s' S' => ?_) rfl rfl rfl (by decide)
  exact w_delta B hlen hA.deeper ho hn hz hzo hzn S' fun a s'' S'' => h a s'' S''
end
end Mine

-- part LH
open PySem PySem.W PySem.W.X PyProof.Rows PySem.Calls PySem.Spec PySem.SeqAt
set_option Elab.async false
set_option maxRecDepth 100000
set_option maxHeartbeats 400000
set_option linter.all false
namespace Mine

/-! variables of a block inside: cells -/
def celN : Cell := fun o => ∃ v, o.data = .cell v
def celV (P : VP) : Cell := fun o => ∃ v, o.data = .cell (some v) ∧ P v
theorem celV_N {P : VP} {o : Obj} (h : celV P o) : celN o := let ⟨v, e, _⟩ := h; ⟨_, e⟩

section
variable {prog : Program} {w : World} {A : Around} {E : Value → Shared → Prop} {b s : Shared} {L L' X : Ledger} {G : GLedger} {env : Env} {mg mb : Str → Option Value} {names : List Str}

theorem r_nameC {Q : Value → Shared → Prop} {x : Str} {pos : Pos} {c : Addr} {P : VP} (S : St b s L G) (hc : (c, celV P) ∈ L) (h : ∀ v, P v → Q v s) (he : env.cells.lookup x = some c := by kernel_rfl)
    (hk : env.scope.kind = .function := by kernel_rfl) (hl : env.kindOf x = some .cell := by kernel_rfl) (hd : (x == ("__debug__" : Str)) = false := by decide) :
    wpAny (model prog w) A (eval (.Name x pos) env) Q E s := by
  obtain ⟨o, ho, v, e, hv⟩ := S.get hc
  exact wpAny_Name (wpAny_loadName_cell hk hl he ⟨o, ho, e⟩ (h v hv)) hd
theorem r_nameF {Q : Value → Shared → Prop} {x : Str} {pos : Pos} {c : Addr} {P : VP} (S : St b s L G) (hc : (c, celV P) ∈ L) (h : ∀ v, P v → Q v s) (he : env.cells.lookup x = some c := by kernel_rfl)
    (hk : env.scope.kind = .function := by kernel_rfl) (hl : env.kindOf x = some .free := by kernel_rfl) (hd : (x == ("__debug__" : Str)) = false := by decide) (hn : (x == ("__classdict__" : Str)) = false := by decide) :
    wpAny (model prog w) A (eval (.Name x pos) env) Q E s := by
  obtain ⟨o, ho, v, e, hv⟩ := S.get hc
  exact wpAny_Name (wpAny_loadName_free hk hl he ⟨o, ho, e⟩ (h v hv) hn) hd
theorem r_storeC {Q : Unit → Shared → Prop} {x : Str} {c : Addr} {P₀ : Cell} {v : Value} {P : VP} (S : St b s L G) (hc : (c, P₀) ∈ L) (h₀ : ∀ o, P₀ o → celN o) (hv : P v) (hu : Upd L c (celV P) L') (h : ∀ s', St b s' L' G → Q () s') (he : env.cells.lookup x = some c := by kernel_rfl)
    (hk : env.scope.kind = .function := by kernel_rfl) (hl : env.kindOf x = some .cell := by kernel_rfl) :
    wpAny (model prog w) A (storeName env x v) Q E s := by
  obtain ⟨o, ho, hP⟩ := S.get hc
  obtain ⟨v₀, e⟩ := h₀ o hP
  refine wpAny_storeName_cell hk hl he ⟨o, ho, e⟩ fun h' hc' hsb => ?_
  obtain ⟨o', ho', e'⟩ := hc'
  exact h _ (S.set hu ⟨_, hc⟩ hsb.extBut ho' ⟨v, e', hv⟩)

abbrev envOf1 (name : Str) (params : Arguments) (body : List Stmt) (scope : Scope) (C f : Addr) (cd : Value) : Env := callEnvC (docDef name params body scope .none cd .none) C f

/-- a call of a def with one variable of a block inside, and one argument -/
theorem r_callCell1 {Q : Value → Shared → Prop} {f : Addr} {name x : Str} {params : Arguments} {body : List Stmt} {scope : Scope} {cd v : Value} {y : Str} (B : Bs b mg mb names) (F : FnAt b mg f name params body scope cd) (S : St b s L G) (hroom : A.depth < recursionLimit)
    (hbind : ∀ pm doc, bindArgs (docDef name params body scope pm cd doc) ⟨[v], []⟩ = pure [(x, v)])
    (hloc : scope.names.lookup x = some .local) (hcs : ∀ n, cellsFrom n scope.names [] = [(y, n)])
    (h : ∀ C s', St b s' ((C, frC [(x, vE v)]) :: (C + 1, celN) :: L) G → wpAny (model prog w) (A.deeper (envOf1 name params body scope C f cd)) (execs body (envOf1 name params body scope C f cd)) (fun fl s'' => Q (match fl with | .ret v => v | _ => .none) s'') NoE s')
    (hco : scope.isCoroutine = false) (hgen : scope.isGenerator = false) (hk : scope.kind = .function) :
    wpAny (model prog w) A (call (.ref f) [v]) Q E s := by
  obtain ⟨o, pm, doc, ho, hd⟩ := F.obj
  have hkf : (callEnvC (docDef name params body scope pm cd doc) s.heap.objs.size f).kindOf x = some .local := hloc
  refine wpAny_call (codeAny_call_cells hroom (S.keep _ _ ho) hd (B.nolimit.keeps S.keep) (F.code.keeps S.keep) rfl (hbind pm doc) rfl (fun p hp => ?_) (fun s₁ I => ?_) hco hgen hk)
  · rw [List.mem_singleton] at hp
    subst hp
    exact .inl hloc
  · have hns := I.toInCall.ns
    obtain ⟨oC, hoC, hcC⟩ := frC_of (fl := [(x, vE v)]) hns (fun p hp => by
      rw [List.mem_singleton] at hp
      subst hp
      refine ⟨v, ?_, rfl⟩
      unfold bindL bindL
      rw [if_pos hkf]
      simp)
    have hce : (callEnvC (docDef name params body scope pm cd doc) s.heap.objs.size f).cells = [(y, s.heap.objs.size + 1)] := hcs _
    obtain ⟨oy, hoy, hyd⟩ := I.cell y (s.heap.objs.size + 1) (by rw [hce]; simp [List.lookup])
    obtain ⟨h₁, tk, rfl⟩ := I.toInCall.same
    have hkp := I.toInCall.keep
    have hbn : ∀ {a}, s.heap.get? a = none → b.heap.get? a = none := fun {a} e => by
      cases hb : b.heap.get? a with
      | none => rfl
      | some o' => rw [S.keep _ _ hb] at e; cases e
    have hnone : ∀ k, s.heap.get? (s.heap.objs.size + k) = none := fun k => by
      cases hb : s.heap.get? (s.heap.objs.size + k) with
      | none => rfl
      | some o' => exact absurd (Heap.lt_size hb) (Nat.not_lt.mpr (Nat.le_add_right _ _))
    have hlt : ∀ p ∈ L, p.1 < s.heap.objs.size := fun p hp => S.lt hp
    have S₁ : St b { s with heap := h₁, toks := tk } ((s.heap.objs.size, frC [(x, vE v)]) :: (s.heap.objs.size + 1, celN) :: L) G := by
      refine ⟨fun a o e => hkp a o (S.keep a o e), fun p hp => ?_, ?_, S.os, S.bare, S.gens, S.gnodup⟩
      · rcases List.mem_cons.mp hp with rfl | hp
        · exact ⟨hbn (hnone 0), oC, hoC, hcC⟩
        · rcases List.mem_cons.mp hp with rfl | hp
          · exact ⟨hbn (hnone 1), oy, hoy, _, hyd⟩
          · obtain ⟨h1, o', h2, h3⟩ := S.own p hp
            exact ⟨h1, o', hkp _ _ h2, h3⟩
      · simp only [List.map_cons, List.nodup_cons, List.mem_cons, List.mem_map, not_or, not_exists, not_and]
        refine ⟨⟨Nat.ne_of_lt (Nat.lt_succ_self _), fun p hp e => ?_⟩, fun p hp e => ?_, S.nodup⟩
        · exact Nat.ne_of_lt (hlt p hp) e
        · exact Nat.ne_of_lt (Nat.lt_succ_of_lt (hlt p hp)) e
    exact wpAny_mono (h _ _ S₁) (fun fl s'' hq => hq) fun _ _ x => x.elim

/-- y = [ .. ] -/
theorem r_asgComp {Q : Flow → Shared → Prop} {elt iter : Expr} {x y : Str} {px py : Pos} {ifs : List Expr} {scope : Scope} {cl : List (Str × Addr)} {pos spos : Pos}
    (hiter : wpAny (model prog w) A (eval iter env) (fun v s₁ => ∃ Lr d Ps L₁ F₀ X G₁ G J, CompJob prog w A E b env elt x ifs scope cl (some (assign (.Name y py) env)) (fun _ s' => Q .next s') v s₁ Lr d Ps L₁ F₀ X G₁ G J) NoE s)
    (hsw : swapsWith (.ListComp elt [⟨.Name x px, iter, ifs, 0⟩] scope pos) (some (.Name y py)) spos.line env = pure true := by kernel_rfl)
    (hclos : closureFor scope env = pure cl := by kernel_rfl) (hkind : scope.kind = .function := by kernel_rfl) (hnames : ∀ y ∈ scope.names, y.2 = .local → scope.names.lookup y.1 = some .local := by decide)
    (hcell : ∀ y ∈ scope.names, y.2 ≠ .cell := by decide) (hx : scope.names.lookup x = some .local := by kernel_rfl) (hs : ∀ v, foldedSetIterable iter env v = pure v := by intro _; kernel_rfl) :
    wpAny (model prog w) A (exec (.Assign [.Name y py] (.ListComp elt [⟨.Name x px, iter, ifs, 0⟩] scope pos) spos) env) Q E s := by
  rw [exec_Assign_Name_used _ _ _ _ hsw]
  refine wpAny_bind (wpAny_standAt (wpAny_bind ?_))
  show wpAny _ A (do let _ ← comprehension (.ListComp elt [⟨.Name x px, iter, ifs, 0⟩] scope pos) scope env _ (newList []) false (eval iter env) (some (assign (.Name y py) env))) _ _ s
  exact wpAny_bind (wpAny_mono (comp_job (b := b) (cl := cl) hiter hclos hkind hnames hcell hx hs) (fun _ s' hq => wpAny_pure (wpAny_pure hq)) fun _ _ e => e)

/-- the end of a comprehension whose list is stored -/
theorem comp_endU {Q : Value → Shared → Prop} {u : Value → Sem Unit} {C D : Addr} {s' : Shared} (h : wpAny (model prog w) A (u (.ref D)) (fun _ s'' => ∃ L G, St b s'' ((C, frC []) :: L) G ∧ ∀ s₃, St b s₃ L G → Q .none s₃) E s') :
    compPost (model prog w) A E (some u) Q (.ref D) C (.ok .next) s' := by
  refine wpAny_mono h (fun _ s'' h'' => ?_) fun _ _ x => x
  obtain ⟨L, G, S, hQ⟩ := h''
  obtain ⟨o, ho, hc⟩ := S.get (.head _)
  obtain ⟨m, hn, _⟩ := frC_ns ho hc
  exact ⟨m, hn, fun h'' hs'' => hQ _ (S.drop1 hs''.extBut)⟩

/-! lists of lists of texts -/
def cellsOf (as : List Addr) (tx : List (List Str)) : Ledger := (as.zip tx).map fun p => (p.1, lstS p.2)
theorem cellsOf_at : ∀ {as : List Addr} {tx : List (List Str)} {k : Nat} {a : Addr} {y : List Str}, as[k]? = some a → tx[k]? = some y → (a, lstS y) ∈ cellsOf as tx
  | [], _, _, _, _, h, _ => by simp at h
  | _ :: _, [], _, _, _, _, h => by simp at h
  | a :: r, y :: q, 0, _, _, h1, h2 => by
    simp only [List.getElem?_cons_zero, Option.some.injEq] at h1 h2
    subst h1 h2
    exact .head _
  | a :: r, y :: q, k + 1, _, _, h1, h2 => by
    simp only [List.getElem?_cons_succ] at h1 h2
    exact .tail _ (cellsOf_at h1 h2)
theorem cellsOf_upd : ∀ {as : List Addr} {tx : List (List Str)} {k : Nat} {a : Addr} {y z : List Str} (R : Ledger), as[k]? = some a → tx[k]? = some y → Upd (cellsOf as tx ++ R) a (lstS z) (cellsOf as (tx.set k z) ++ R)
  | [], _, _, _, _, _, _, h, _ => by simp at h
  | _ :: _, [], _, _, _, _, _, _, h => by simp at h
  | a :: r, y :: q, 0, _, _, z, R, h1, h2 => by
    simp only [List.getElem?_cons_zero, Option.some.injEq] at h1 h2
    subst h1 h2
    exact .head
  | a :: r, y :: q, k + 1, _, _, z, R, h1, h2 => by
    simp only [List.getElem?_cons_succ] at h1 h2
    exact .tail (cellsOf_upd R h1 h2)
theorem cellsOf_snoc : ∀ {as : List Addr} {tx : List (List Str)}, as.length = tx.length → ∀ (a : Addr) (y : List Str), cellsOf (as ++ [a]) (tx ++ [y]) = cellsOf as tx ++ [(a, lstS y)]
  | [], [], _, _, _ => rfl
  | [], _ :: _, h, _, _ => by simp at h
  | _ :: _, [], h, _, _ => by simp at h
  | a :: r, y :: q, h, c, z => by
    have := cellsOf_snoc (as := r) (tx := q) (by simpa using h) c z
    show (a, lstS y) :: cellsOf (r ++ [c]) (q ++ [z]) = _
    rw [this]; rfl
end
end Mine

-- part L3a
open PySem PySem.W PySem.W.X PyProof.Rows PySem.Calls PySem.Spec PySem.SeqAt
set_option Elab.async false
set_option maxRecDepth 100000
set_option maxHeartbeats 400000
set_option linter.all false
namespace Mine

local macro_rules | `(tactic| walk_at "mem") => `(tactic| first | assumption | exact List.Mem.head _ | (refine List.Mem.tail _ ?_; walk_at "mem") | (refine List.mem_append_right _ ?_; walk_at "mem"))
local macro_rules | `(tactic| walk_at "mn") => `(tactic| first | with_reducible exact List.mem_cons_self | ((with_reducible refine List.mem_cons_of_mem _ ?_); walk_at "mn"))
local macro_rules | `(tactic| walk_at "upd") => `(tactic| first | exact Upd.head | ((with_reducible apply Upd.tail); walk_at "upd"))
local macro_rules | `(tactic| walk_at "set") => `(tactic| first | with_reducible exact SetN.nil | ((with_reducible refine SetN.hit ?_); kernel_rfl) | ((with_reducible apply SetN.skip); kernel_rfl; walk_at "set"))

def lDef : Stmt := match PySem.Challenge.pw_dm0050_03.main.body with | _ :: _ :: _ :: _ :: d :: _ => d | _ => .Pass default
def lBody : List Stmt := match lDef with | .FunctionDef _ _ b .. => b | _ => []
def lScope : Scope := match lDef with | .FunctionDef _ _ _ _ _ _ sc .. => sc | _ => default
def lParams : Arguments := match lDef with | .FunctionDef _ a .. => a | _ => default
abbrev lEnv (C f : Addr) (cd : Value) : Env := envOf1 "law" lParams lBody lScope C f cd
def lAt (k : Nat) : Stmt := (lBody[k]?).getD (.Pass default)

abbrev f1 (l : Addr) : List (Str × VP) := [(("script" : Str), vE (.ref l))]
abbrev f2 (l kn : Addr) : List (Str × VP) := [(("script" : Str), vE (.ref l)), (("kinds" : Str), vE (.ref kn))]
abbrev f3 (l kn T : Addr) : List (Str × VP) := [(("script" : Str), vE (.ref l)), (("kinds" : Str), vE (.ref kn)), (("texts" : Str), vE (.ref T))]
def kindsL : List Str := ["", "- ", "+ a", "  ", "? ^", " ", "- - b", "+   \n"]

section
variable {prog : Program} {w : World} {A : Around} {E : Value → Shared → Prop} {b s : Shared} {R : Ledger} {G : GLedger} {mg mb : Str → Option Value} {names : List Str} {Q : Flow → Shared → Prop} {C f : Addr} {cd : Value} {l kn T : Addr}

theorem w_kinds (S : St b s ((C, frC (f1 l)) :: R) G) (h : ∀ kn s', St b s' ((C, frC (f2 l kn)) :: (kn, lstS kindsL) :: R) G → Q .next s') :
    wpAny (model prog w) A (exec (lAt 0) (lEnv C f cd)) Q NoE s := by
  conv in lAt 0 => whnf
  refine wpAny_Assign_Name ?_ (by kernel_rfl)
  refine r_listS kindsL S fun kn s₁ S₁ => ?_
  refine r_store (P := vE (.ref kn)) S₁ (by walk_at "mem") rfl (by walk_at "set") (by walk_at "upd") fun s₂ S₂ => ?_
  exact h kn _ (S₂.perm (.swap _ _ _))

theorem w_texts (B : Bs b mg mb names) (hr : ("range" : Str) ∉ names) (hA : Ar A 0) (S : St b s ((C, frC (f2 l kn)) :: R) G)
    (h : ∀ T as s', as.length = 8 → St b s' ((C, frC (f3 l kn T)) :: (T, lstV (as.map .ref)) :: (cellsOf as (List.replicate 8 ["  "]) ++ R)) G → Q .next s') :
    wpAny (model prog w) A (exec (lAt 1) (lEnv C f cd)) Q NoE s := by
  conv in lAt 1 => whnf
  refine r_asgComp (b := b) (cl := []) ?_
  refine r_callT1 (T := "range") B S (by decide +kernel) ?_ (hfree := hr)
  refine r_int S fun t s₁ S₁ => ?_
  refine r_range1 S₁ fun r s₂ S₂ => ?_
  refine ⟨[(r, rngC 0 8 1)], 0, (rngI 0 1 8).map vI, [], [(r, rngC 0 8 1)], (C, frC (f2 l kn)) :: R, [], G,
    fun pre acc F => ∃ as F₁, acc = as.map .ref ∧ as.length = pre.length ∧ F = (r, rngC 0 8 1) :: F₁ ∧ F₁.Perm (cellsOf as (List.replicate as.length ["  "])),
    givesI_rng (.head _) (by decide) (by decide), hA, S₂, ⟨[], [], rfl, rfl, rfl, .nil⟩, ?_, ?_, by decide, ?_, ?_⟩
  · rintro _ _ _ ⟨_, _, _, _, rfl, _⟩ p hp
    rw [List.mem_singleton] at hp
    subst hp
    exact .head _
  · rintro _ _ _ ⟨as, _, rfl, h1, _⟩
    rw [List.length_map]; omega
  · rintro pre P r' u acc F C' D L₂ G₂ s e hu ⟨as, F₁, rfl, h1, rfl, hp⟩ S
    refine wpAny_pure ?_
    rw [if_pos rfl]
    refine r_listS ["  "] S fun a s₁ S₁ => ?_
    refine ⟨(r, rngC 0 8 1) :: (a, lstS ["  "]) :: F₁, ⟨as ++ [a], _, by simp, by simp [h1], rfl, ?_⟩, S₁.perm ?_⟩
    · rw [show (as ++ [a]).length = as.length + 1 by simp, List.replicate_succ', cellsOf_snoc (by simp)]
      exact (List.Perm.cons _ hp).trans (List.perm_append_singleton _ _).symm
    · exact List.perm_middle (l₁ := [(C', frC [(("k" : Str), vE u)]), (D, lstV (as.map .ref)), (r, rngC 0 8 1)])
  · rintro acc F C' D s' ⟨as, F₁, rfl, h1, rfl, hp⟩ S
    refine comp_endU (b := b) ?_
    refine wpAny_assign_Name ?_
    have h8 : as.length = 8 := by rw [h1]; rfl
    refine r_store (P := vE (.ref D)) S (by walk_at "mem") rfl (by walk_at "set") (Upd.tail (Upd.tail (Upd.tail (Upd.left Upd.head F₁)))) fun s₁ S₁ => ?_
    refine ⟨_, _, S₁, fun s₂ S₂ => ?_⟩
    refine h D as s₂ h8 (S₂.sub (List.Sublist.cons_cons _ (List.sublist_cons_self _ _)) |>.perm ?_)
    rw [h8] at hp
    refine (List.Perm.swap _ _ _).trans (.cons _ ?_)
    exact List.perm_middle.symm.trans ((hp.symm.append_right _).trans .rfl)
end
end Mine

-- part L3b
open PySem PySem.W PySem.W.X PyProof.Rows PySem.Calls PySem.Spec PySem.SeqAt
set_option Elab.async false
set_option maxRecDepth 100000
set_option maxHeartbeats 400000
set_option linter.all false
namespace Mine

local macro_rules | `(tactic| walk_at "mem") => `(tactic| first | assumption | exact List.Mem.head _ | (refine List.Mem.tail _ ?_; walk_at "mem") | (refine List.mem_append_right _ ?_; walk_at "mem"))
local macro_rules | `(tactic| walk_at "mn") => `(tactic| first | with_reducible exact List.mem_cons_self | ((with_reducible refine List.mem_cons_of_mem _ ?_); walk_at "mn"))
local macro_rules | `(tactic| walk_at "upd") => `(tactic| first | exact Upd.head | ((with_reducible apply Upd.tail); walk_at "upd"))
local macro_rules | `(tactic| walk_at "set") => `(tactic| first | with_reducible exact SetN.nil | ((with_reducible refine SetN.hit ?_); kernel_rfl) | ((with_reducible apply SetN.skip); kernel_rfl; walk_at "set"))

/-- texts of at most c rows, each short -/
def Tx (c : Nat) (tx : List (List Str)) : Prop := ∀ y ∈ tx, y.length ≤ c ∧ ∀ z ∈ y, Good 5 z
theorem Tx.mono {c d : Nat} {tx : List (List Str)} (h : Tx c tx) (hc : c ≤ d) : Tx d tx := fun y hy => ⟨Nat.le_trans (h y hy).1 hc, (h y hy).2⟩
theorem Tx.put {c : Nat} {tx : List (List Str)} (h : Tx c tx) {k : Nat} {y : List Str} {z : Str} (hy : tx[k]? = some y) (hz : Good 5 z) : Tx (c + 1) (tx.set k (y ++ [z])) := by
  intro q hq
  rcases List.mem_or_eq_of_mem_set hq with hq | rfl
  · exact (h.mono (Nat.le_succ c)) q hq
  · have := h y (List.mem_of_getElem? hy)
    refine ⟨by rw [List.length_append]; simp only [List.length_cons, List.length_nil]; omega, fun x hx => ?_⟩
    rcases List.mem_append.mp hx with hx | hx
    · exact this.2 x hx
    · rw [List.mem_singleton] at hx; subst hx; exact hz
theorem kinds_good : ∀ y ∈ kindsL, Good 5 y := by unfold Good; decide +kernel
theorem rngI_mem {n : Nat} {k : Int} (h : k ∈ rngI 0 1 n) : 0 ≤ k ∧ k < n := by
  unfold rngI at h
  obtain ⟨i, hi, rfl⟩ := List.mem_map.mp h
  rw [List.mem_range] at hi
  omega
theorem fmod_range (x : Int) {m : Int} (hm : 0 < m) : 0 ≤ x.fmod m ∧ x.fmod m < m := by
  rw [Int.fmod_eq_emod_of_nonneg _ (by omega)]
  exact ⟨Int.emod_nonneg _ (by omega), Int.emod_lt_of_pos _ hm⟩

section
variable {prog : Program} {w : World} {A : Around} {E : Value → Shared → Prop} {b s : Shared} {R : Ledger} {G : GLedger} {mg mb : Str → Option Value} {names : List Str} {Q : Flow → Shared → Prop} {C f : Addr} {cd : Value} {l kn T : Addr}

abbrev f4 (l kn T : Addr) (x : Int) : List (Str × VP) := [(("script" : Str), vE (.ref l)), (("kinds" : Str), vE (.ref kn)), (("texts" : Str), vE (.ref T)), (("x" : Str), vI x)]
theorem f4_f3 {l kn T : Addr} {x : Int} {o : Obj} (h : frC (f4 l kn T x) o) : frC (f3 l kn T) o := frC_sub (fun q hq => by
  simp only [f3, List.mem_cons, List.not_mem_nil, or_false] at hq
  rcases hq with rfl | rfl | rfl <;> walk_at "mn") h
theorem f4k_f4 {l kn T : Addr} {x : Int} {k : VP} {o : Obj} (h : frC (f4 l kn T x ++ [(("k" : Str), k)]) o) : frC (f4 l kn T x) o := frC_sub (fun q hq => List.mem_append_left _ hq) h
theorem f3k_f3 {l kn T : Addr} {k : VP} {o : Obj} (h : frC (f3 l kn T ++ [(("k" : Str), k)]) o) : frC (f3 l kn T) o := frC_sub (fun q hq => List.mem_append_left _ hq) h

theorem w_fill (B : Bs b mg mb names) (hr : ("range" : Str) ∉ names) (hA : Ar A 0) (hp : ∀ s, (∀ a o, b.heap.get? a = some o → s.heap.get? a = some o) → PylongRoom (model prog w) A s)
    {vs : List Value} {ns : List Int} (hL : b.heap.IsList l vs.toArray) (hI : IntsAre vs ns) (hlen : ns.length ≤ 63) {as : List Addr} (h8 : as.length = 8) {tx : List (List Str)} (ht8 : tx.length = 8) (htx : Tx 1 tx)
    (S : St b s ((C, frC (f3 l kn T)) :: (cellsOf as tx ++ ((T, lstV (as.map .ref)) :: (kn, lstS kindsL) :: R))) G)
    (h : ∀ tx s', tx.length = 8 → Tx 505 tx → St b s' ((C, frC (f3 l kn T)) :: (cellsOf as tx ++ ((T, lstV (as.map .ref)) :: (kn, lstS kindsL) :: R))) G → Q .next s') :
    wpAny (model prog w) A (exec (lAt 2) (lEnv C f cd)) Q NoE s := by
  conv in lAt 2 => whnf
  refine r_forj (b := b) ?_
  refine r_nameE S (by walk_at "mem") (by walk_at "mn") ?_
  refine ⟨[], 0, ns.map vI, [], (C, frC (f3 l kn T)) :: cellsOf as tx, (T, lstV (as.map .ref)) :: (kn, lstS kindsL) :: R, [], G, fun pre F => ∃ tx, tx.length = 8 ∧ Tx (1 + 8 * pre.length) tx ∧ F = (C, frC (f3 l kn T)) :: cellsOf as tx,
    givesI_list (hasL_base hL hI), hA, S, ⟨tx, ht8, htx, rfl⟩, fun _ _ _ p hp => (nomatch hp), ?_, ?_⟩
  · rintro pre P rest u F L₂ G₂ s e hu ⟨tx, ht8, htx, rfl⟩ S
    have hpl : pre.length + 1 ≤ 63 := by
      have := congrArg List.length e
      simp only [List.length_map, List.length_append, List.length_cons] at this
      omega
    obtain ⟨x, rfl⟩ : ∃ x, P = vI x := by
      have : P ∈ ns.map vI := by rw [e]; simp
      obtain ⟨x, _, rfl⟩ := List.mem_map.mp this
      exact ⟨x, rfl⟩
    simp only [List.cons_append] at S
    refine wpAny_assign_Name (r_store (P := vI x) S (by walk_at "mem") hu (by walk_at "set") (by walk_at "upd") fun s₁ S₁ => ?_)
    refine r_seq ?_
    refine r_forj (b := b) ?_
    refine r_callT1 (T := "range") B S₁ (by decide +kernel) ?_ (hfree := hr)
    refine r_int S₁ fun t s₂ S₂ => ?_
    refine r_range1 S₂ fun r s₃ S₃ => ?_
    refine ⟨[(r, rngC 0 8 1)], 0, (rngI 0 1 8).map vI, [], (r, rngC 0 8 1) :: (C, frC (f4 l kn T x)) :: cellsOf as tx, L₂ ++ ((T, lstV (as.map .ref)) :: (kn, lstS kindsL) :: R), [], G₂ ++ G,
      fun pre' F => ∃ tx, tx.length = 8 ∧ Tx (1 + 8 * pre.length + pre'.length) tx ∧ F = (r, rngC 0 8 1) :: (C, frC (f4 l kn T x)) :: cellsOf as tx,
      givesI_rng (.head _) (by decide) (by decide), hA, S₃, ⟨tx, ht8, htx, rfl⟩, ?_, ?_, ?_⟩
    · rintro _ _ ⟨_, _, _, rfl⟩ p hp
      rw [List.mem_singleton] at hp
      subst hp
      exact .head _
    · rintro pre' P' rest' u' F' L₃ G₃ s e' hu' ⟨tx, ht8, htx, rfl⟩ S
      obtain ⟨k, hk, rfl⟩ : ∃ k ∈ rngI 0 1 8, P' = vI k := by
        have : P' ∈ (rngI 0 1 8).map vI := by rw [e']; simp
        obtain ⟨k, h1, rfl⟩ := List.mem_map.mp this
        exact ⟨k, h1, rfl⟩
      obtain ⟨hk0, hk8⟩ := rngI_mem hk
      obtain ⟨a, ha⟩ : ∃ a, as[k.toNat]? = some a := ⟨_, List.getElem?_eq_getElem (by omega)⟩
      obtain ⟨y, hy⟩ : ∃ y, tx[k.toNat]? = some y := ⟨_, List.getElem?_eq_getElem (by omega)⟩
      simp only [List.cons_append] at S
      refine wpAny_assign_Name (r_store (P := vI k) S (by walk_at "mem") hu' (by walk_at "set") (by walk_at "upd") fun s₁ S₁ => ?_)
      refine r_seq ?_
      refine wpAny_If ?_
      refine wpAny_isTrue_Compare1 ?_ (by kernel_rfl)
      refine wpAny_BinOp ?_
      refine wpAny_BinOp ?_
      refine r_nameI S₁ (by walk_at "mem") (by walk_at "mn") fun t₁ => ?_
      refine wpAny_BinOp ?_
      refine r_int S₁ fun t₂ s₂ S₂ => ?_
      refine r_nameI S₂ (by walk_at "mem") (by walk_at "mn") fun t₃ => ?_
      refine r_pow S₂ hk0 (by omega) (by decide) fun t₄ s₃ S₃ => ?_
      refine r_fdiv S₃ (by exact Int.ne_of_gt (Int.pow_pos (by decide))) (hp _ S₃.keep) fun t₅ s₄ S₄ => ?_
      refine r_int S₄ fun t₆ s₅ S₅ => ?_
      refine r_mod S₅ (by decide) fun t₇ s₆ S₆ => ?_
      refine r_int S₆ fun t₈ s₇ S₇ => ?_
      refine r_eqI ?_
      refine wpAny_truthy_bool ?_
      split
      · refine r_seq ?_
        refine r_stmtE ?_
        refine r_methS (b := b) F.slot_list_append F.type_list_append ?_
        refine Subscript_ ?_
        refine r_nameE S₇ (by walk_at "mem") (by walk_at "mn") ?_
        refine r_nameI S₇ (by walk_at "mem") (by walk_at "mn") fun t₉ => ?_
        refine r_itemV S₇ (by walk_at "mem") hk0 (by omega) (v := .ref a) (by rw [List.getElem?_map, ha]; rfl) ?_
        have hm : ∀ {Z : Ledger}, (a, lstS y) ∈ cellsOf as tx ++ Z := fun {Z} => List.mem_append_left _ (cellsOf_at ha hy)
        refine ⟨_, _, _, _, rfl, S₇, .tail _ (.tail _ hm), ?_⟩
        refine r_appS (b := b) (ys := y) ?_
        refine Subscript_ ?_
        refine r_nameE S₇ (by walk_at "mem") (by walk_at "mn") ?_
        refine wpAny_BinOp ?_
        refine wpAny_BinOp ?_
        refine r_nameI S₇ (by walk_at "mem") (by walk_at "mn") fun t₁₀ => ?_
        refine r_int S₇ fun t₁₁ s₈ S₈ => ?_
        refine r_fdiv S₈ (by decide) (hp _ S₈.keep) fun t₁₂ s₉ S₉ => ?_
        refine r_int S₉ fun t₁₃ s₁₀ S₁₀ => ?_
        refine r_mod S₁₀ (by decide) fun t₁₄ s₁₁ S₁₁ => ?_
        obtain ⟨hq0, hq8⟩ := fmod_range (x.fdiv 256) (m := 8) (by decide)
        obtain ⟨z, hz⟩ : ∃ z, kindsL[((x.fdiv 256).fmod 8).toNat]? = some z := ⟨_, List.getElem?_eq_getElem (by show _ < 8; omega)⟩
        refine r_itemS S₁₁ (by walk_at "mem") hq0 (by omega) hz fun t₁₅ => ?_
        have hzl := htx y (List.mem_of_getElem? hy)
        have hsz : (505 : Nat) ≤ sizeLine := by decide
        refine ⟨z, t₁₅, _, _, _, rfl, S₁₁, .tail _ (.tail _ hm), .tail (.tail (cellsOf_upd _ ha hy)), by
          have h1 : pre'.length ≤ 8 := by
            have := congrArg List.length e'
            rw [List.length_map, List.length_append] at this
            have h9 : (rngI 0 1 8).length = 8 := rfl
            omega
          omega, fun s₁₂ S₁₂ => ⟨rfl, ?_⟩⟩
        refine then_next ?_
        refine wpAny_execs_nil ?_
        refine then_next ?_
        refine wpAny_execs_nil ?_
        refine turn_next ?_
        refine ⟨_, ⟨tx.set k.toNat (y ++ [z]), by rw [List.length_set]; exact ht8, ?_, rfl⟩, S₁₂.less (.tail _ (.head _)) (.tail .head) fun o ho => f4k_f4 ho⟩
        rw [List.length_append]
        exact htx.put hy (kinds_good z (List.mem_of_getElem? hz))
      · refine wpAny_execs_nil ?_
        refine then_next ?_
        refine wpAny_execs_nil ?_
        refine turn_next ?_
        refine ⟨_, ⟨tx, ht8, htx.mono (by rw [List.length_append]; omega), rfl⟩, S₇.less (.tail _ (.head _)) (.tail .head) fun o ho => f4k_f4 ho⟩
    · rintro F s₄ ⟨tx, ht8, htx, rfl⟩ S₄
      refine then_next ?_
      refine wpAny_execs_nil ?_
      refine turn_next ?_
      refine ⟨_, ⟨tx, ht8, ?_, rfl⟩, (S₄.sub (List.sublist_cons_self _ _)).less (.head _) .head fun o ho => f4_f3 ho⟩
      refine htx.mono ?_
      rw [List.length_append, List.length_map]
      have h9 : (rngI 0 1 8).length = 8 := rfl
      simp only [List.length_cons, List.length_nil]
      omega
  · rintro F s₄ ⟨tx, ht8, htx, rfl⟩ S₄
    exact h tx _ ht8 (htx.mono (by rw [List.length_map]; omega)) S₄
end
end Mine

-- part L3c
open PySem PySem.W PySem.W.X PyProof.Rows PySem.Calls PySem.Spec PySem.SeqAt
set_option Elab.async false
set_option maxRecDepth 100000
set_option maxHeartbeats 400000
set_option linter.all false
namespace Mine

local macro_rules | `(tactic| walk_at "mem") => `(tactic| first | assumption | exact List.Mem.head _ | (refine List.Mem.tail _ ?_; walk_at "mem") | (refine List.mem_append_right _ ?_; walk_at "mem"))
local macro_rules | `(tactic| walk_at "mn") => `(tactic| first | with_reducible exact List.mem_cons_self | ((with_reducible refine List.mem_cons_of_mem _ ?_); walk_at "mn"))
local macro_rules | `(tactic| walk_at "upd") => `(tactic| first | exact Upd.head | ((with_reducible apply Upd.tail); walk_at "upd"))
local macro_rules | `(tactic| walk_at "set") => `(tactic| first | with_reducible exact SetN.nil | ((with_reducible refine SetN.hit ?_); kernel_rfl) | ((with_reducible apply SetN.skip); kernel_rfl; walk_at "set"))

theorem rngI8 {k : Int} (h : k ∈ rngI 0 1 8) : k = 0 ∨ k = 1 ∨ k = 2 ∨ k = 3 ∨ k = 4 ∨ k = 5 ∨ k = 6 ∨ k = 7 := by
  have := rngI_mem h
  omega
theorem tail_good {k : Int} (h : k ∈ rngI 0 1 8) : Good 5 (("- " : Str) ++ (toString k : Str)) := by
  unfold Good
  rcases rngI8 h with rfl | rfl | rfl | rfl | rfl | rfl | rfl | rfl <;> decide +kernel
theorem str_small {k : Int} (h : k ∈ rngI 0 1 8) : ("- " : Str).length + (toString k : Str).length ≤ sizeLine := by
  rcases rngI8 h with rfl | rfl | rfl | rfl | rfl | rfl | rfl | rfl <;> decide +kernel

section
variable {prog : Program} {w : World} {A : Around} {E : Value → Shared → Prop} {b s : Shared} {R : Ledger} {G : GLedger} {mg mb : Str → Option Value} {names : List Str} {Q : Flow → Shared → Prop} {C f : Addr} {cd : Value} {l kn T : Addr}

theorem w_tails (B : Bs b mg mb names) (hr : ("range" : Str) ∉ names) (hst : ("str" : Str) ∉ names) (hA : Ar A 0) {as : List Addr} (h8 : as.length = 8) {tx : List (List Str)} (ht8 : tx.length = 8) (htx : Tx 505 tx)
    (S : St b s ((C, frC (f3 l kn T)) :: (cellsOf as tx ++ ((T, lstV (as.map .ref)) :: (kn, lstS kindsL) :: R))) G)
    (h : ∀ tx s', tx.length = 8 → Tx 513 tx → St b s' ((C, frC (f3 l kn T)) :: (cellsOf as tx ++ ((T, lstV (as.map .ref)) :: (kn, lstS kindsL) :: R))) G → Q .next s') :
    wpAny (model prog w) A (exec (lAt 3) (lEnv C f cd)) Q NoE s := by
  conv in lAt 3 => whnf
  refine r_forj (b := b) ?_
  refine r_callT1 (T := "range") B S (by decide +kernel) ?_ (hfree := hr)
  refine r_int S fun t s₂ S₂ => ?_
  refine r_range1 S₂ fun r s₃ S₃ => ?_
  refine ⟨[(r, rngC 0 8 1)], 0, (rngI 0 1 8).map vI, [], (r, rngC 0 8 1) :: (C, frC (f3 l kn T)) :: cellsOf as tx, (T, lstV (as.map .ref)) :: (kn, lstS kindsL) :: R, [], G,
    fun pre' F => ∃ tx, tx.length = 8 ∧ Tx (505 + pre'.length) tx ∧ F = (r, rngC 0 8 1) :: (C, frC (f3 l kn T)) :: cellsOf as tx,
    givesI_rng (.head _) (by decide) (by decide), hA, S₃, ⟨tx, ht8, htx, rfl⟩, ?_, ?_, ?_⟩
  · rintro _ _ ⟨_, _, _, rfl⟩ p hp
    rw [List.mem_singleton] at hp
    subst hp
    exact .head _
  · rintro pre' P' rest' u' F' L₃ G₃ s e' hu' ⟨tx, ht8, htx, rfl⟩ S
    obtain ⟨k, hk, rfl⟩ : ∃ k ∈ rngI 0 1 8, P' = vI k := by
      have : P' ∈ (rngI 0 1 8).map vI := by rw [e']; simp
      obtain ⟨k, h1, rfl⟩ := List.mem_map.mp this
      exact ⟨k, h1, rfl⟩
    obtain ⟨hk0, hk8⟩ := rngI_mem hk
    obtain ⟨a, ha⟩ : ∃ a, as[k.toNat]? = some a := ⟨_, List.getElem?_eq_getElem (by omega)⟩
    obtain ⟨y, hy⟩ : ∃ y, tx[k.toNat]? = some y := ⟨_, List.getElem?_eq_getElem (by omega)⟩
    have h1 : pre'.length ≤ 8 := by
      have := congrArg List.length e'
      rw [List.length_map, List.length_append] at this
      have h9 : (rngI 0 1 8).length = 8 := rfl
      omega
    have hsz : (513 : Nat) ≤ sizeLine := by decide
    have hzl := htx y (List.mem_of_getElem? hy)
    simp only [List.cons_append] at S
    refine wpAny_assign_Name (r_store (P := vI k) S (by walk_at "mem") hu' (by walk_at "set") (by walk_at "upd") fun s₁ S₁ => ?_)
    refine r_seq ?_
    refine r_stmtE ?_
    refine r_methS (b := b) F.slot_list_append F.type_list_append ?_
    refine Subscript_ ?_
    refine r_nameE S₁ (by walk_at "mem") (by walk_at "mn") ?_
    refine r_nameI S₁ (by walk_at "mem") (by walk_at "mn") fun t₉ => ?_
    refine r_itemV S₁ (by walk_at "mem") hk0 (by omega) (v := .ref a) (by rw [List.getElem?_map, ha]; rfl) ?_
    have hm : ∀ {Z : Ledger}, (a, lstS y) ∈ cellsOf as tx ++ Z := fun {Z} => List.mem_append_left _ (cellsOf_at ha hy)
    refine ⟨_, _, _, _, rfl, S₁, .tail _ (.tail _ hm), ?_⟩
    refine r_appS (b := b) (ys := y) ?_
    refine wpAny_BinOp ?_
    refine r_str S₁ fun t₂ s₂ S₂ => ?_
    refine r_callT1 (T := "str") B S₂ (by decide +kernel) ?_ (hfree := hst)
    refine r_nameI S₂ (by walk_at "mem") (by walk_at "mn") fun t₃ => ?_
    refine r_strI S₂ (by rcases rngI8 hk with rfl | rfl | rfl | rfl | rfl | rfl | rfl | rfl <;> decide +kernel) fun t₄ s₃ S₃ => ?_
    refine r_addS S₃ (str_small hk) fun t₅ s₄ S₄ => ?_
    refine ⟨_, _, _, _, _, rfl, S₄, .tail _ (.tail _ hm), .tail (.tail (cellsOf_upd _ ha hy)), by omega, fun s₁₂ S₁₂ => ⟨rfl, ?_⟩⟩
    refine then_next ?_
    refine wpAny_execs_nil ?_
    refine turn_next ?_
    refine ⟨_, ⟨tx.set k.toNat (y ++ [_]), by rw [List.length_set]; exact ht8, ?_, rfl⟩, S₁₂.less (.tail _ (.head _)) (.tail .head) fun o ho => f3k_f3 ho⟩
    rw [List.length_append]
    exact htx.put hy (tail_good hk)
  · rintro F s₄ ⟨tx, ht8, htx, rfl⟩ S₄
    exact h tx _ ht8 (htx.mono (by decide)) (S₄.sub (List.sublist_cons_self _ _))

/-! the deltas, pair by pair -/
def dPairs : List (List Str) → List (List Str)
  | x :: y :: r => deltaS x y :: dPairs r
  | _ => []
theorem dPairs_len : ∀ (m : Nat) (ds : List (List Str)), ds.length = 2 * m → (dPairs ds).length = m
  | 0, [], _ => rfl
  | 0, _ :: _, h => by simp at h
  | m + 1, [], h => by simp at h
  | m + 1, [_], h => by simp at h; omega
  | m + 1, x :: y :: r, h => by
    simp only [dPairs, List.length_cons]
    rw [dPairs_len m r (by simp only [List.length_cons] at h; omega)]
theorem dPairs_at : ∀ (i : Nat) (ds : List (List Str)) (x y : List Str), ds[2 * i]? = some x → ds[2 * i + 1]? = some y → (dPairs ds)[i]? = some (deltaS x y)
  | 0, [], _, _, h, _ => by simp at h
  | 0, [_], _, _, _, h => by simp at h
  | 0, a :: c :: r, x, y, h1, h2 => by
    simp only [Nat.mul_zero, List.getElem?_cons_zero, Option.some.injEq, Nat.zero_add, List.getElem?_cons_succ] at h1 h2
    subst h1 h2
    rfl
  | i + 1, [], _, _, h, _ => by simp at h
  | i + 1, [_], _, _, h, _ => by simp at h
  | i + 1, a :: c :: r, x, y, h1, h2 => by
    rw [show 2 * (i + 1) = 2 * i + 1 + 1 by omega] at h1 h2
    simp only [List.getElem?_cons_succ] at h1 h2
    exact dPairs_at i r x y h1 h2
/-- rows fit -/
def Fits (m k : Nat) (ds : List (List Str)) : Prop := ∀ y ∈ ds, y.length ≤ m ∧ ∀ z ∈ y, Good k z
theorem Fits.pairs {m k : Nat} (hk : 2 ≤ k) : ∀ {ds : List (List Str)}, Fits m k ds → Fits (3 * m) (2 + k) (dPairs ds)
  | [], _ => fun _ h => (nomatch h)
  | [_], _ => fun _ h => (nomatch h)
  | x :: y :: r, h => by
    intro z hz
    simp only [dPairs] at hz
    rcases List.mem_cons.mp hz with rfl | hz
    · have h1 := h x (.head _)
      have h2 := h y (.tail _ (.head _))
      have := delta_len x y
      exact ⟨by omega, delta_good hk h1.2 h2.2⟩
    · exact Fits.pairs hk (fun q hq => h q (.tail _ (.tail _ hq))) z hz
end
end Mine

-- part L3d
open PySem PySem.W PySem.W.X PyProof.Rows PySem.Calls PySem.Spec PySem.SeqAt
set_option Elab.async false
set_option maxRecDepth 100000
set_option maxHeartbeats 400000
set_option linter.all false
namespace Mine

local macro_rules | `(tactic| walk_at "mem") => `(tactic| first | assumption | exact List.Mem.head _ | (refine List.Mem.tail _ ?_; walk_at "mem") | (refine List.mem_append_right _ ?_; walk_at "mem"))
local macro_rules | `(tactic| walk_at "mn") => `(tactic| first | with_reducible exact List.mem_cons_self | ((with_reducible refine List.mem_cons_of_mem _ ?_); walk_at "mn"))
local macro_rules | `(tactic| walk_at "upd") => `(tactic| first | exact Upd.head | ((with_reducible apply Upd.tail); walk_at "upd"))
local macro_rules | `(tactic| walk_at "set") => `(tactic| first | with_reducible exact SetN.nil | ((with_reducible refine SetN.hit ?_); kernel_rfl) | ((with_reducible apply SetN.skip); kernel_rfl; walk_at "set"))

def lRound : Stmt := match lAt 5 with | .While _ [x] _ _ => x | _ => .Pass default

section
variable {prog : Program} {w : World} {A : Around} {E : Value → Shared → Prop} {b s : Shared} {Y : Ledger} {G : GLedger} {mg mb : Str → Option Value} {names : List Str} {Q : Flow → Shared → Prop} {C f : Addr} {cd : Value} {l kn T : Addr}

theorem r_range3 {L : Ledger} {Q : Value → Shared → Prop} {x y z : Int} {t u v : Tok} (S : St b s L G) (hz : z ≠ 0) (hp : PylongRoom (model prog w) A s) (h : ∀ a s', St b s' ((a, rngC x y z) :: L) G → Q (.ref a) s') : wpAny (model prog w) A (call (.type "range") [.int x t, .int y u, .int z v]) Q E s :=
  call_range_3 hz (h _ _ (S.alloc ⟨_, _, _, rfl⟩ _)) (.inr hp)
theorem rng2_size (m : Nat) : Builtin.Range.rangeSize 0 ((2 * m : Nat) : Int) 2 = (m : Int) := by
  unfold Builtin.Range.rangeSize
  split <;> omega

theorem r_comp {env : Env} {Q : Value → Shared → Prop} {elt iter : Expr} {x : Str} {px : Pos} {ifs : List Expr} {scope : Scope} {cl : List (Str × Addr)} {pos : Pos}
    (hiter : wpAny (model prog w) A (eval iter env) (fun v s₁ => ∃ Lr d Ps L₁ F₀ X G₁ G J, CompJob prog w A E b env elt x ifs scope cl none Q v s₁ Lr d Ps L₁ F₀ X G₁ G J) NoE s)
    (hclos : closureFor scope env = pure cl := by kernel_rfl) (hkind : scope.kind = .function := by kernel_rfl) (hnames : ∀ y ∈ scope.names, y.2 = .local → scope.names.lookup y.1 = some .local := by decide)
    (hcell : ∀ y ∈ scope.names, y.2 ≠ .cell := by decide) (hx : scope.names.lookup x = some .local := by kernel_rfl) (hs : ∀ v, foldedSetIterable iter env v = pure v := by intro _; kernel_rfl) :
    wpAny (model prog w) A (eval (.ListComp elt [⟨.Name x px, iter, ifs, 0⟩] scope pos) env) Q E s := by
  rw [eval_ListComp]
  exact comp_job (b := b) (cl := cl) hiter hclos hkind hnames hcell hx hs

theorem w_round (B : Bs b mg mb names) (hr : ("range" : Str) ∉ names) (hln : ("len" : Str) ∉ names) {fd : Addr} {cdl : Value} (Fd : FnAt b mg fd "_law_delta" dParams dBody dScope cdl) (hA : Ar A 1)
    (hp : ∀ s, (∀ a o, b.heap.get? a = some o → s.heap.get? a = some o) → PylongRoom (model prog w) A s)
    {as : List Addr} {ds : List (List Str)} {D : Addr} {m M K : Nat} (hm : ds.length = 2 * m) (hm' : m ≤ 4) (hal : as.length = ds.length) (hD : (D, lstV (as.map .ref)) ∈ Y) (has : ∀ (i : Nat) (a : Addr) (y : List Str), as[i]? = some a → ds[i]? = some y → (a, lstS y) ∈ Y)
    (hF : Fits M K ds) (hM : 3 * M + 2 ≤ sizeLine) (hK : K + 2 ≤ sizeLine)
    (S : St b s ((C + 1, celV (vE (.ref D))) :: Y) G)
    (h : ∀ D' bs s', bs.length = m → St b s' ((C + 1, celV (vE (.ref D'))) :: (D', lstV (bs.map .ref)) :: (cellsOf bs (dPairs ds) ++ Y)) G → Q .next s') :
    wpAny (model prog w) A (exec lRound (lEnv C f cd)) Q NoE s := by
  conv in lRound => whnf
  refine wpAny_Assign_Name ?_ (by kernel_rfl)
  refine r_comp (b := b) (cl := [(("deltas" : Str), C + 1)]) ?_
  refine r_callT3 (T := "range") B S (by decide +kernel) ?_ (hfree := hr)
  refine r_int S fun t s₁ S₁ => ?_
  refine r_callB1 (id := "len") B S₁ (by decide +kernel) ?_ (hfree := hln)
  refine r_nameC (c := C + 1) S₁ (by walk_at "mem") fun v hv => ?_
  obtain rfl : v = .ref D := hv
  have h9 : sizeLine = 16777216 := by decide
  refine r_lenV S₁ (by walk_at "mem") (by rw [List.length_map]; omega) fun t₂ s₂ S₂ => ?_
  refine r_int S₂ fun t₃ s₃ S₃ => ?_
  rw [List.length_map, hal, hm]
  refine r_range3 S₃ (by decide) (hp _ S₃.keep) fun r s₄ S₄ => ?_
  have hpl := dPairs_len m ds hm
  refine ⟨[(r, rngC 0 ((2 * m : Nat) : Int) 2)], 0, (rngI 0 2 m).map vI, [], [(r, rngC 0 ((2 * m : Nat) : Int) 2)], (C + 1, celV (vE (.ref D))) :: Y, [], G,
    fun pre acc F => ∃ bs F₁, acc = bs.map .ref ∧ bs.length = pre.length ∧ F = (r, rngC 0 ((2 * m : Nat) : Int) 2) :: F₁ ∧ F₁.Perm (cellsOf bs ((dPairs ds).take bs.length)),
    givesI_rng (.head _) (by
      have : m = 0 ∨ m = 1 ∨ m = 2 ∨ m = 3 ∨ m = 4 := by omega
      rcases this with rfl | rfl | rfl | rfl | rfl <;> decide) (rng2_size m), hA.mono (by omega), S₄, ⟨[], [], rfl, rfl, rfl, .nil⟩, ?_, ?_, ?_, ?_, ?_⟩
  · rintro _ _ _ ⟨_, _, _, _, rfl, _⟩ p hp
    rw [List.mem_singleton] at hp
    subst hp
    exact .head _
  · rintro _ _ _ ⟨as, _, rfl, h1, _⟩
    rw [List.length_map]; omega
  · rw [List.length_map]; unfold rngI; rw [List.length_map, List.length_range]; omega
  · rintro pre P r' u acc F C' D' L₂ G₂ s e hu ⟨bs, F₁, rfl, h1, rfl, hpm⟩ S
    refine wpAny_pure ?_
    rw [if_pos rfl]
    have hlt : bs.length < m := by
      have := congrArg List.length e
      rw [List.length_map, List.length_append, List.length_cons] at this
      unfold rngI at this
      rw [List.length_map, List.length_range] at this
      omega
    obtain rfl : P = vI ((2 * bs.length : Nat) : Int) := by
      have : ((rngI 0 2 m).map vI)[bs.length]? = some P := by rw [e, List.getElem?_append_right (by omega), h1]; simp
      unfold rngI at this
      rw [List.map_map, List.getElem?_map, List.getElem?_range hlt] at this
      simp only [Option.map_some, Function.comp, Option.some.injEq] at this
      rw [← this]
      congr 1
      omega
    obtain ⟨t', rfl⟩ := hu
    obtain ⟨x, hx⟩ : ∃ x, ds[2 * bs.length]? = some x := ⟨_, List.getElem?_eq_getElem (by omega)⟩
    obtain ⟨y, hy⟩ : ∃ y, ds[2 * bs.length + 1]? = some y := ⟨_, List.getElem?_eq_getElem (by omega)⟩
    obtain ⟨a, ha⟩ : ∃ a, as[2 * bs.length]? = some a := ⟨_, List.getElem?_eq_getElem (by omega)⟩
    obtain ⟨c, hc⟩ : ∃ c, as[2 * bs.length + 1]? = some c := ⟨_, List.getElem?_eq_getElem (by omega)⟩
    have fx := hF x (List.mem_of_getElem? hx)
    have fy := hF y (List.mem_of_getElem? hy)
    have mx := has _ _ _ ha hx
    have my := has _ _ _ hc hy
    simp only [List.cons_append] at S
    refine r_callD2 B Fd S ?_
    refine Subscript_ ?_
    refine r_nameC (c := C + 1) S (by walk_at "mem") fun v hv => ?_
    obtain rfl : v = .ref D := hv
    refine r_nameE S (by walk_at "mem") (by walk_at "mn") ?_
    refine r_itemV S (by walk_at "mem") (by omega) (by omega) (v := .ref a) (by rw [Int.toNat_natCast, List.getElem?_map, ha]; rfl) ?_
    refine Subscript_ ?_
    refine r_nameC (c := C + 1) S (by walk_at "mem") fun v hv => ?_
    obtain rfl : v = .ref D := hv
    refine wpAny_BinOp ?_
    refine r_nameE S (by walk_at "mem") (by walk_at "mn") ?_
    refine r_int S fun t₅ s₅ S₅ => ?_
    refine r_add S₅ fun t₆ s₆ S₆ => ?_
    refine r_itemV S₆ (by walk_at "mem") (by omega) (by omega) (v := .ref c) (by
      rw [show (((2 * bs.length : Nat) : Int) + 1).toNat = 2 * bs.length + 1 by omega, List.getElem?_map, hc]; rfl) ?_
    refine ⟨⟨_, _, S₆⟩, ?_⟩
    refine r_delta B hln Fd hA (by walk_at "mem") (by walk_at "mem") (by omega) (fun z hz => by have := (fx.2 z hz).1; omega) (fun z hz => by have := (fy.2 z hz).1; omega) S₆ fun q s₇ S₇ => ?_
    refine ⟨(r, rngC 0 ((2 * m : Nat) : Int) 2) :: (q, lstS (deltaS x y)) :: F₁, ⟨bs ++ [q], _, by simp, by simp [h1], rfl, ?_⟩, S₇.perm ?_⟩
    · rw [show (bs ++ [q]).length = bs.length + 1 by simp, List.take_add_one, dPairs_at _ _ _ _ hx hy]
      show List.Perm _ (cellsOf (bs ++ [q]) (List.take bs.length (dPairs ds) ++ [deltaS x y]))
      rw [cellsOf_snoc (by rw [List.length_take]; omega)]
      exact (List.Perm.cons _ hpm).trans (List.perm_append_singleton _ _).symm
    · exact List.perm_middle (l₁ := [(C', _), (D', lstV (bs.map .ref)), (r, rngC 0 ((2 * m : Nat) : Int) 2)])
  · rintro acc F C' D' s' ⟨bs, F₁, rfl, h1, rfl, hpm⟩ S
    have h8 : bs.length = m := by rw [h1, List.length_map]; unfold rngI; rw [List.length_map, List.length_range]
    refine comp_end (b := b) S fun s₀ S₀ => ?_
    simp only [List.cons_append] at S₀
    refine r_storeC (c := C + 1) (P := vE (.ref D')) S₀ (by walk_at "mem") (fun _ h => celV_N h) rfl (Upd.tail (Upd.tail (Upd.left Upd.head F₁))) fun s₁ S₁ => ?_
    refine h D' bs s₁ h8 (S₁.sub (List.Sublist.cons_cons _ (List.sublist_cons_self _ _)) |>.perm ?_)
    rw [List.take_of_length_le (by omega)] at hpm
    refine (List.Perm.swap _ _ _).trans (.cons _ ?_)
    exact List.perm_middle.symm.trans ((hpm.symm.append_right _).trans .rfl)
end
end Mine

-- part L3e
open PySem PySem.W PySem.W.X PyProof.Rows PySem.Calls PySem.Spec PySem.SeqAt
set_option Elab.async false
set_option maxRecDepth 100000
set_option maxHeartbeats 400000
set_option linter.all false
namespace Mine

local macro_rules | `(tactic| walk_at "mem") => `(tactic| first | assumption | exact List.Mem.head _ | (refine List.Mem.tail _ ?_; walk_at "mem") | (refine List.mem_append_right _ ?_; walk_at "mem"))
local macro_rules | `(tactic| walk_at "mn") => `(tactic| first | with_reducible exact List.mem_cons_self | ((with_reducible refine List.mem_cons_of_mem _ ?_); walk_at "mn"))
local macro_rules | `(tactic| walk_at "upd") => `(tactic| first | exact Upd.head | ((with_reducible apply Upd.tail); walk_at "upd"))
local macro_rules | `(tactic| walk_at "set") => `(tactic| first | with_reducible exact SetN.nil | ((with_reducible refine SetN.hit ?_); kernel_rfl) | ((with_reducible apply SetN.skip); kernel_rfl; walk_at "set"))

def lvl : Nat → List (List Str) → List (List Str)
  | 0, tx => tx
  | j + 1, tx => dPairs (lvl j tx)
theorem lvl_len {tx : List (List Str)} (h : tx.length = 8) : (lvl 1 tx).length = 4 ∧ (lvl 2 tx).length = 2 ∧ (lvl 3 tx).length = 1 := by
  have h1 : (lvl 1 tx).length = 4 := dPairs_len 4 tx h
  have h2 : (lvl 2 tx).length = 2 := dPairs_len 2 _ h1
  exact ⟨h1, h2, dPairs_len 1 _ h2⟩
theorem lvl_len' {tx : List (List Str)} (h : tx.length = 8) {n : Nat} (hn : n ≤ 3) : (lvl (3 - n) tx).length = 2 ^ n := by
  obtain ⟨h1, h2, h3⟩ := lvl_len h
  have : n = 0 ∨ n = 1 ∨ n = 2 ∨ n = 3 := by omega
  rcases this with rfl | rfl | rfl | rfl
  · exact h3
  · exact h2
  · exact h1
  · exact h
theorem lvl_fits {tx : List (List Str)} {M K : Nat} (hK : 2 ≤ K) (h : Fits M K tx) : ∀ j, Fits (3 ^ j * M) (K + 2 * j) (lvl j tx)
  | 0 => by simpa [lvl] using h
  | j + 1 => by
    have := (lvl_fits hK h j).pairs (by omega)
    rw [show 3 ^ (j + 1) * M = 3 * (3 ^ j * M) by rw [Nat.pow_succ, Nat.mul_comm (3 ^ j) 3, Nat.mul_assoc], show K + 2 * (j + 1) = 2 + (K + 2 * j) by omega]
    exact this

section
variable {prog : Program} {w : World} {A : Around} {E : Value → Shared → Prop} {b s : Shared} {Y : Ledger} {G : GLedger} {mg mb : Str → Option Value} {names : List Str} {Q : Flow → Shared → Prop} {C f : Addr} {cd : Value} {l kn T : Addr}

theorem lWhile_eq : ∃ t p, lAt 5 = .While t [lRound] [] p := ⟨_, _, rfl⟩

theorem cellsOf_map {as : List Addr} {tx : List (List Str)} {i : Nat} {a : Addr} {y : List Str} {Z : Ledger} (ha : as[i]? = some a) (hy : tx[i]? = some y) : (a, lstS y) ∈ cellsOf as tx ++ Z := List.mem_append_left _ (cellsOf_at ha hy)

theorem w_rounds (B : Bs b mg mb names) (hr : ("range" : Str) ∉ names) (hln : ("len" : Str) ∉ names) {fd : Addr} {cdl : Value} (Fd : FnAt b mg fd "_law_delta" dParams dBody dScope cdl) (hA : Ar A 1)
    (hp : ∀ s, (∀ a o, b.heap.get? a = some o → s.heap.get? a = some o) → PylongRoom (model prog w) A s)
    {as : List Addr} {tx : List (List Str)} (h8 : as.length = 8) (ht8 : tx.length = 8) (hT : (T, lstV (as.map .ref)) ∈ Y) (has : ∀ (i : Nat) (a : Addr) (y : List Str), as[i]? = some a → tx[i]? = some y → (a, lstS y) ∈ Y)
    (hF : Fits 513 5 tx)
    (S : St b s ((C + 1, celV (vE (.ref T))) :: Y) G)
    (h : ∀ D a Z s' whole, lvl 3 tx = [whole] → (D, lstV [.ref a]) ∈ Z ++ Y → (a, lstS whole) ∈ Z ++ Y → St b s' ((C + 1, celV (vE (.ref D))) :: (Z ++ Y)) G → Q .next s') :
    wpAny (model prog w) A (exec (lAt 5) (lEnv C f cd)) Q NoE s := by
  conv in lAt 5 => whnf
  refine r_while (fun n s => n ≤ 3 ∧ ∃ as D Z, as.length = 2 ^ n ∧ (D, lstV (as.map .ref)) ∈ Z ++ Y ∧ (∀ (i : Nat) (a : Addr) (y : List Str), as[i]? = some a → (lvl (3 - n) tx)[i]? = some y → (a, lstS y) ∈ Z ++ Y) ∧ St b s ((C + 1, celV (vE (.ref D))) :: (Z ++ Y)) G) 3 ⟨by omega, as, T, [], h8, hT, has, S⟩ ?_
  rintro n s ⟨hn, as, D, Z, hal, hD, has, S⟩
  have hll := lvl_len' ht8 hn
  have h9 : sizeLine = 16777216 := by decide
  refine wpAny_isTrue_Compare1 ?_ (by kernel_rfl)
  refine r_callB1 (id := "len") B S (by decide +kernel) ?_ (hfree := hln)
  refine r_nameC (c := C + 1) S (by walk_at "mem") fun v hv => ?_
  obtain rfl : v = .ref D := hv
  have h2n : 2 ^ n ≤ 8 := by
    have : n = 0 ∨ n = 1 ∨ n = 2 ∨ n = 3 := by omega
    rcases this with rfl | rfl | rfl | rfl <;> decide
  refine r_lenV S (.tail _ hD) (by rw [List.length_map]; omega) fun t₂ s₂ S₂ => ?_
  refine r_int S₂ fun t₃ s₃ S₃ => ?_
  refine r_gt ?_
  refine wpAny_truthy_bool ?_
  rw [List.length_map, hal]
  by_cases h0 : n = 0
  · subst h0
    rw [if_neg (by decide)]
    obtain ⟨a, rfl⟩ : ∃ a, as = [a] := by
      match as, hal with
      | [a], _ => exact ⟨a, rfl⟩
    obtain ⟨whole, hw⟩ : ∃ y, lvl 3 tx = [y] := by
      match hq : lvl 3 tx, hll with
      | [y], _ => exact ⟨y, rfl⟩
    exact h D a Z _ whole hw hD (has 0 a whole rfl (by rw [show (3 - 0 : Nat) = 3 from rfl, hw]; rfl)) S₃
  · obtain ⟨m, rfl⟩ : ∃ m, n = m + 1 := ⟨n - 1, by omega⟩
    rw [if_pos (by
      have : m = 0 ∨ m = 1 ∨ m = 2 := by omega
      rcases this with rfl | rfl | rfl <;> decide)]
    refine r_seq ?_
    have hfit := lvl_fits (by omega) hF (3 - (m + 1))
    have hm2 : (2 : Nat) ^ m ≤ 4 := by
      have : m = 0 ∨ m = 1 ∨ m = 2 := by omega
      rcases this with rfl | rfl | rfl <;> decide
    have hM : 3 * (3 ^ (3 - (m + 1)) * 513) + 2 ≤ sizeLine ∧ 5 + 2 * (3 - (m + 1)) + 2 ≤ sizeLine := by
      have : m = 0 ∨ m = 1 ∨ m = 2 := by omega
      rcases this with rfl | rfl | rfl <;> decide
    refine w_round (m := 2 ^ m) B hr hln Fd hA hp (by rw [hll, Nat.pow_succ]; omega) hm2 (by rw [hal, hll]) hD has hfit hM.1 hM.2 S₃ fun D' bs s₄ hbl S₄ => ?_
    refine then_next ?_
    refine wpAny_execs_nil ?_
    refine turn_next ?_
    refine ⟨m, by omega, by omega, bs, D', (D', lstV (bs.map .ref)) :: (cellsOf bs (dPairs (lvl (3 - (m + 1)) tx)) ++ Z), hbl, .head _, fun i a y ha hy => ?_, by simpa using S₄⟩
    rw [show 3 - m = (3 - (m + 1)) + 1 by omega] at hy
    refine .tail _ (List.mem_append_left _ (List.mem_append_left _ (cellsOf_at ha hy)))
end
end Mine

-- part L3f
open PySem PySem.W PySem.W.X PyProof.Rows PySem.Calls PySem.Spec PySem.SeqAt
set_option Elab.async false
set_option maxRecDepth 100000
set_option maxHeartbeats 400000
set_option linter.all false
namespace Mine

local macro_rules | `(tactic| walk_at "mem") => `(tactic| first | assumption | exact List.Mem.head _ | (refine List.Mem.tail _ ?_; walk_at "mem") | (refine List.mem_append_right _ ?_; walk_at "mem"))
local macro_rules | `(tactic| walk_at "mn") => `(tactic| first | with_reducible exact List.mem_cons_self | ((with_reducible refine List.mem_cons_of_mem _ ?_); walk_at "mn"))
local macro_rules | `(tactic| walk_at "upd") => `(tactic| first | exact Upd.head | ((with_reducible apply Upd.tail); walk_at "upd"))
local macro_rules | `(tactic| walk_at "set") => `(tactic| first | with_reducible exact SetN.nil | ((with_reducible refine SetN.hit ?_); kernel_rfl) | ((with_reducible apply SetN.skip); kernel_rfl; walk_at "set"))

theorem readS_long {n : Int} {xs : List Str} {N : Nat} (h : ∀ x ∈ xs, x.length ≤ N) : ∀ x ∈ readS n xs, x.length ≤ N := by
  intro x hx
  unfold readS at hx
  obtain ⟨y, hy, rfl⟩ := List.mem_map.mp hx
  exact Nat.le_trans (cut_len y) (h y (List.mem_filter.mp hy).1)

theorem read_three {tx : List (List Str)} (h8 : tx.length = 8) {whole : List Str} (hw : lvl 3 tx = [whole]) {k : Int} (hk : k ∈ rngI 0 1 8) {y : List Str} (hy : tx[k.toNat]? = some y) :
    readS (1 + k.fmod 2) (readS (1 + (k.fdiv 2).fmod 2) (readS (1 + k.fdiv 4) whole)) = y := by
  match tx, h8 with
  | [a, c, d, e, f, g, i, j], _ =>
    simp only [lvl, dPairs, List.cons.injEq, and_true] at hw
    subst hw
    rcases rngI8 hk with rfl | rfl | rfl | rfl | rfl | rfl | rfl | rfl
    all_goals
      simp only [Int.toNat_zero, List.getElem?_cons_zero, Option.some.injEq, Int.reduceToNat, List.getElem?_cons_succ] at hy
      subst hy
    · show readS 1 (readS 1 (readS 1 _)) = _; rw [delta_one, delta_one, delta_one]
    · show readS 2 (readS 1 (readS 1 _)) = _; rw [delta_one, delta_one, delta_two]
    · show readS 1 (readS 2 (readS 1 _)) = _; rw [delta_one, delta_two, delta_one]
    · show readS 2 (readS 2 (readS 1 _)) = _; rw [delta_one, delta_two, delta_two]
    · show readS 1 (readS 1 (readS 2 _)) = _; rw [delta_two, delta_one, delta_one]
    · show readS 2 (readS 1 (readS 2 _)) = _; rw [delta_two, delta_one, delta_two]
    · show readS 1 (readS 2 (readS 2 _)) = _; rw [delta_two, delta_two, delta_one]
    · show readS 2 (readS 2 (readS 2 _)) = _; rw [delta_two, delta_two, delta_two]
theorem whichs {k : Int} (hk : k ∈ rngI 0 1 8) : (1 + k.fdiv 4 = 1 ∨ 1 + k.fdiv 4 = 2) ∧ (1 + (k.fdiv 2).fmod 2 = 1 ∨ 1 + (k.fdiv 2).fmod 2 = 2) ∧ (1 + k.fmod 2 = 1 ∨ 1 + k.fmod 2 = 2) := by
  rcases rngI8 hk with rfl | rfl | rfl | rfl | rfl | rfl | rfl | rfl <;> decide

section
variable {prog : Program} {w : World} {A : Around} {E : Value → Shared → Prop} {b s : Shared} {X : Ledger} {G : GLedger} {mg mb : Str → Option Value} {names : List Str} {Q : Flow → Shared → Prop} {C f : Addr} {cd : Value} {l kn T : Addr}

abbrev f5 (l kn T W : Addr) : List (Str × VP) := [(("script" : Str), vE (.ref l)), (("kinds" : Str), vE (.ref kn)), (("texts" : Str), vE (.ref T)), (("whole" : Str), vE (.ref W))]
theorem f5_sub {l kn T W : Addr} {r : List (Str × VP)} {o : Obj} (h : frC (f5 l kn T W ++ r) o) : frC (f5 l kn T W) o := frC_sub (fun q hq => List.mem_append_left _ hq) h

theorem w_final (B : Bs b mg mb names) (hr : ("range" : Str) ∉ names) (hls : ("list" : Str) ∉ names) (hint : ("int" : Str) ∉ names) {fr : Addr} {cr : Value} (Fr : FnAt b mg fr "restore" rParams rBody rScope cr) (hA : Ar A 3) (hu : A.units + 64 < cLine)
    (hp : ∀ s, (∀ a o, b.heap.get? a = some o → s.heap.get? a = some o) → PylongRoom (model prog w) A s)
    {as : List Addr} {tx : List (List Str)} (h8 : as.length = 8) (ht8 : tx.length = 8) (hT : (T, lstV (as.map .ref)) ∈ X) (has : ∀ (i : Nat) (a : Addr) (y : List Str), as[i]? = some a → tx[i]? = some y → (a, lstS y) ∈ X)
    (hF : Fits 513 5 tx) {W : Addr} {whole : List Str} (hw : lvl 3 tx = [whole]) (hW : (W, lstS whole) ∈ X)
    (S : St b s ((C, frC (f5 l kn T W)) :: X) G)
    (h : ∀ s', St b s' ((C, frC (f5 l kn T W)) :: X) G → Q .next s') :
    wpAny (model prog w) A (exec (lAt 7) (lEnv C f cd)) Q NoE s := by
  conv in lAt 7 => whnf
  have h9 : sizeLine = 16777216 := by decide
  have hroom : A.depth < recursionLimit := by have := hA.2; omega
  have hwl : ∀ x ∈ whole, x.length ≤ sizeLine := by
    intro x hx
    have := lvl_fits (by omega) hF 3 whole (by rw [hw]; exact .head _)
    have := (this.2 x hx).1
    omega
  refine r_forj (b := b) ?_
  refine r_callT1 (T := "range") B S (by decide +kernel) ?_ (hfree := hr)
  refine r_int S fun t s₂ S₂ => ?_
  refine r_range1 S₂ fun r s₃ S₃ => ?_
  refine ⟨[(r, rngC 0 8 1)], 0, (rngI 0 1 8).map vI, [], [(r, rngC 0 8 1), (C, frC (f5 l kn T W))], X, [], G, fun pre F => F = [(r, rngC 0 8 1), (C, frC (f5 l kn T W))],
    givesI_rng (.head _) (by decide) (by decide), hA.mono (by omega), S₃, rfl, ?_, ?_, ?_⟩
  · rintro _ _ rfl p hp
    rw [List.mem_singleton] at hp
    subst hp
    exact .head _
  · rintro pre' P' rest' u' F' L₃ G₃ s e' hu' rfl S
    obtain ⟨k, hk, rfl⟩ : ∃ k ∈ rngI 0 1 8, P' = vI k := by
      have : P' ∈ (rngI 0 1 8).map vI := by rw [e']; simp
      obtain ⟨k, h1, rfl⟩ := List.mem_map.mp this
      exact ⟨k, h1, rfl⟩
    obtain ⟨hk0, hk8⟩ := rngI_mem hk
    obtain ⟨a, ha⟩ : ∃ a, as[k.toNat]? = some a := ⟨_, List.getElem?_eq_getElem (by omega)⟩
    obtain ⟨y, hy⟩ : ∃ y, tx[k.toNat]? = some y := ⟨_, List.getElem?_eq_getElem (by omega)⟩
    have hay := has _ _ _ ha hy
    have hfy := hF y (List.mem_of_getElem? hy)
    obtain ⟨hn1, hn2, hn3⟩ := whichs hk
    simp only [List.cons_append, List.nil_append] at S
    refine wpAny_assign_Name (r_store (P := vI k) S (by walk_at "mem") hu' (by walk_at "set") (by walk_at "upd") fun s₁ S₁ => ?_)
    refine r_seq ?_
    refine wpAny_Assign_Name ?_ (by kernel_rfl)
    refine r_callD2 B Fr S₁ ?_
    refine r_nameE S₁ (by walk_at "mem") (by walk_at "mn") ?_
    refine wpAny_BinOp ?_
    refine r_int S₁ fun t₁ s₂ S₂ => ?_
    refine wpAny_BinOp ?_
    refine r_nameI S₂ (by walk_at "mem") (by walk_at "mn") fun t₂ => ?_
    refine r_int S₂ fun t₃ s₃ S₃ => ?_
    refine r_fdiv S₃ (by decide) (hp _ S₃.keep) fun t₄ s₄ S₄ => ?_
    refine r_add S₄ fun t₅ s₅ S₅ => ?_
    refine ⟨⟨_, _, S₅⟩, ?_⟩
    refine r_restore B Fr S₅ hroom fun a1 C1 g1 s₆ S₆ => ?_
    refine r_store (P := vE (.ref a1)) S₆ (by walk_at "mem") rfl (by walk_at "set") (by walk_at "upd") fun s₇ S₇ => ?_
    refine then_next ?_
    refine r_seq ?_
    refine wpAny_Assign_Name ?_ (by kernel_rfl)
    refine r_callD2 B Fr S₇ ?_
    refine r_nameE S₇ (by walk_at "mem") (by walk_at "mn") ?_
    refine wpAny_BinOp ?_
    refine r_int S₇ fun t₆ s₈ S₈ => ?_
    refine wpAny_BinOp ?_
    refine wpAny_BinOp ?_
    refine r_nameI S₈ (by walk_at "mem") (by walk_at "mn") fun t₇ => ?_
    refine r_int S₈ fun t₈ s₉ S₉ => ?_
    refine r_fdiv S₉ (by decide) (hp _ S₉.keep) fun t₉ s₁₀ S₁₀ => ?_
    refine r_int S₁₀ fun t₁₀ s₁₁ S₁₁ => ?_
    refine r_mod S₁₁ (by decide) fun t₁₁ s₁₂ S₁₂ => ?_
    refine r_add S₁₂ fun t₁₂ s₁₃ S₁₃ => ?_
    refine ⟨⟨_, _, S₁₃⟩, ?_⟩
    refine r_restore B Fr S₁₃ hroom fun a2 C2 g2 s₁₄ S₁₄ => ?_
    refine r_store (P := vE (.ref a2)) S₁₄ (by walk_at "mem") rfl (by walk_at "set") (by walk_at "upd") fun s₁₅ S₁₅ => ?_
    refine then_next ?_
    refine r_seq ?_
    refine wpAny_If ?_
    refine wpAny_isTrue_Compare1 ?_ (by kernel_rfl)
    refine r_callT1 (T := "list") B S₁₅ (by decide +kernel) ?_ (hfree := hls)
    refine r_callD2 B Fr S₁₅ ?_
    refine r_nameE S₁₅ (by walk_at "mem") (by walk_at "mn") ?_
    refine wpAny_BinOp ?_
    refine r_int S₁₅ fun t₁₃ s₁₆ S₁₆ => ?_
    refine wpAny_BinOp ?_
    refine r_nameI S₁₆ (by walk_at "mem") (by walk_at "mn") fun t₁₄ => ?_
    refine r_int S₁₆ fun t₁₅ s₁₇ S₁₇ => ?_
    refine r_mod S₁₇ (by decide) fun t₁₆ s₁₈ S₁₈ => ?_
    refine r_add S₁₈ fun t₁₇ s₁₉ S₁₉ => ?_
    refine ⟨⟨_, _, S₁₉⟩, ?_⟩
    refine r_restore B Fr S₁₉ hroom fun a3 C3 g3 s₂₀ S₂₀ => ?_
    have q1 := gives_fresh (prog := prog) (w := w) (Lr := [(W, lstS whole)]) (d := 0) (a := a1) (C := C1) (f := fr) (cd := cr) (g := g1) B hint hn1 (intTo_int (t := t₅)) hwl (givesI_list (hasL_S (.head _)))
    have q2 := gives_fresh (a := a2) (C := C2) (f := fr) (cd := cr) (g := g2) B hint hn2 (intTo_int (t := t₁₂)) (readS_long hwl) (givesI_gen q1)
    have q3 := gives_fresh (a := a3) (C := C3) (f := fr) (cd := cr) (g := g3) B hint hn3 (intTo_int (t := t₁₇)) (readS_long (readS_long hwl)) (givesI_gen q2)
    have hrd := read_three ht8 hw hk hy
    rw [hrd] at q3
    refine r_list_gives q3 hA ?_ S₂₀ (by omega) fun z s₂₁ S₂₁ => ?_
    · intro p hp
      rw [List.mem_singleton] at hp
      subst hp
      walk_at "mem"
    refine Subscript_ ?_
    refine r_nameE S₂₁ (by walk_at "mem") (by walk_at "mn") ?_
    refine r_nameI S₂₁ (by walk_at "mem") (by walk_at "mn") fun t₁₈ => ?_
    refine r_itemV S₂₁ (by walk_at "mem") hk0 (by omega) (v := .ref a) (by rw [List.getElem?_map, ha]; rfl) ?_
    have hok : OkS y := fun z hz => (hfy.2 z hz).2
    refine r_neLS S₂₁ (.head _) (by walk_at "mem") hok hok hu ?_
    refine wpAny_truthy_bool ?_
    rw [if_neg (by simp)]
    refine wpAny_execs_nil ?_
    refine then_next ?_
    refine wpAny_execs_nil ?_
    refine turn_next ?_
    refine ⟨_, rfl, ?_⟩
    refine (S₂₁.sub (List.sublist_cons_self _ _)).less (.tail _ (.head _)) (.tail .head) fun o ho => f5_sub (r := [_, _, _]) ho
  · rintro F s₄ rfl S₄
    exact h _ (S₄.sub (List.sublist_cons_self _ _))
end
end Mine

-- part HD03
open PySem PySem.W PyProof.Rows
set_option Elab.async false
namespace Mine
set_option maxRecDepth 100000
set_option maxHeartbeats 8000000
open_top hd for PySem.Challenge.rw_dm0050_03
end Mine

-- part L3g
open PySem PySem.W PySem.W.X PyProof.Rows PySem.Calls PySem.Spec PySem.SeqAt
set_option Elab.async false
set_option maxRecDepth 100000
set_option maxHeartbeats 4000000
set_option linter.all false
namespace Mine

local macro_rules | `(tactic| walk_at "mem") => `(tactic| first | assumption | exact List.Mem.head _ | (refine List.Mem.tail _ ?_; walk_at "mem") | (refine List.mem_append_right _ ?_; walk_at "mem"))
local macro_rules | `(tactic| walk_at "mn") => `(tactic| first | with_reducible exact List.mem_cons_self | ((with_reducible refine List.mem_cons_of_mem _ ?_); walk_at "mn"))
local macro_rules | `(tactic| walk_at "upd") => `(tactic| first | exact Upd.head | ((with_reducible apply Upd.tail); walk_at "upd"))
local macro_rules | `(tactic| walk_at "set") => `(tactic| first | with_reducible exact SetN.nil | ((with_reducible refine SetN.hit ?_); kernel_rfl) | ((with_reducible apply SetN.skip); kernel_rfl; walk_at "set"))

theorem lBody_eq : lBody = [lAt 0, lAt 1, lAt 2, lAt 3, lAt 4, lAt 5, lAt 6, lAt 7, lAt 8] := rfl
theorem tx0 : Tx 1 (List.replicate 8 ["  "]) := by
  intro y hy
  obtain ⟨_, rfl⟩ := List.mem_replicate.mp hy
  refine ⟨by decide, fun z hz => ?_⟩
  rw [List.mem_singleton] at hz
  subst hz
  exact good_sp.mono (by decide)

theorem law03 {w : World} {b : Shared} {mg mb : Str → Option Value} {names : List Str} {fr fd fl : Addr} {cr cdl cl : Value} {l : Addr} {vs : List Value} {ns : List Int} {Q E : Value → Shared → Prop} (B : Bs b mg mb names)
    (hn : ∀ x ∈ ([("len" : Str), "range", "str", "list", "int"] : List Str), x ∉ names)
    (Fr : FnAt b mg fr "restore" rParams rBody rScope cr) (Fd : FnAt b mg fd "_law_delta" dParams dBody dScope cdl) (Fl : FnAt b mg fl "law" lParams lBody lScope cl) (hN : b.heap.NoSeer)
    (hL : b.heap.IsList l vs.toArray) (hI : IntsAre vs ns) (hlen : ns.length ≤ 63) (S : St b b [] []) (h : ∀ s', St b s' [] [] → Q (.bool true) s') :
    wpAny (model PySem.Challenge.pw_dm0050_03 w) callerA (call (.ref fl) [.ref l]) Q E b := by
  have hln := hn "len" (.head _)
  have hr := hn "range" (.tail _ (.head _))
  have hst := hn "str" (.tail _ (.tail _ (.head _)))
  have hls := hn "list" (.tail _ (.tail _ (.tail _ (.head _))))
  have hin := hn "int" (.tail _ (.tail _ (.tail _ (.tail _ (.head _)))))
  refine r_callCell1 (x := "script") (y := "deltas") B Fl S (by decide +kernel) (fun pm doc => rfl) rfl (fun n => rfl) (fun C s₁ S₁ => ?_) rfl rfl rfl
  have hA : Ar (callerA.deeper (lEnv C fl cl)) 3 := ⟨rfl, by show callerA.depth + 1 + 3 < recursionLimit; decide +kernel⟩
  have hp : ∀ s : Shared, (∀ a o, b.heap.get? a = some o → s.heap.get? a = some o) → PylongRoom (model PySem.Challenge.pw_dm0050_03 w) (callerA.deeper (lEnv C fl cl)) s := fun s hk =>
    PylongRoom.of (B.nolimit.keeps hk) (by show callerA.depth + 1 + Builtin.pylongFrames < recursionLimit; decide +kernel) (SeerAt.of (env := lEnv C fl cl) (l := []) (hN.keeps hk) rfl rfl rfl rfl rfl rfl)
  have hu : (callerA.deeper (lEnv C fl cl)).units + 64 < cLine := by show callerA.units + 3 + 64 < cLine; decide +kernel
  generalize callerA.deeper (lEnv C fl cl) = A at hA hp hu ⊢
  rw [lBody_eq]
  refine r_seq (w_kinds S₁ fun kn s₂ S₂ => then_next ?_)
  refine r_seq (w_texts B hr (hA.mono (by decide)) S₂ fun T as s₃ h8 S₃ => then_next ?_)
  replace S₃ := S₃.perm (L' := (C, frC (f3 l kn T)) :: (cellsOf as (List.replicate 8 ["  "]) ++ ((T, lstV (as.map .ref)) :: (kn, lstS kindsL) :: [(C + 1, celN)]))) (.cons _ List.perm_middle)
  refine r_seq (w_fill B hr (hA.mono (by decide)) hp hL hI hlen h8 rfl tx0 S₃ fun tx s₄ ht8 htx S₄ => then_next ?_)
  refine r_seq (w_tails B hr hst (hA.mono (by decide)) h8 ht8 htx S₄ fun tx s₅ ht8 htx S₅ => then_next ?_)
  -- deltas = texts
  refine r_seq ?_
  conv in lAt 4 => whnf
  refine wpAny_Assign_Name ?_ (by kernel_rfl)
  refine r_nameE S₅ (by walk_at "mem") (by walk_at "mn") ?_
  refine r_storeC (c := C + 1) (P := vE (.ref T)) S₅ (by walk_at "mem") (fun _ h => h) rfl (.tail (Upd.left (.tail (.tail .head)) (cellsOf as tx))) fun s₆ S₆ => then_next ?_
  replace S₆ := S₆.perm (L' := (C + 1, celV (vE (.ref T))) :: (C, frC (f3 l kn T)) :: (cellsOf as tx ++ ((T, lstV (as.map .ref)) :: [(kn, lstS kindsL)]))) (by
    have := List.perm_append_comm (l₁ := [(C + 1, celV (vE (.ref T)))]) (l₂ := (C, frC (f3 l kn T)) :: (cellsOf as tx ++ ((T, lstV (as.map .ref)) :: [(kn, lstS kindsL)])))
    simpa using this)
  have hF : Fits 513 5 tx := htx
  refine r_seq ?_
  refine w_rounds B hr hln Fd (hA.mono (by decide)) hp h8 ht8 (Y := (C, frC (f3 l kn T)) :: (cellsOf as tx ++ ((T, lstV (as.map .ref)) :: [(kn, lstS kindsL)]))) (by walk_at "mem") (fun i a y ha hy => .tail _ (cellsOf_map ha hy)) hF S₆ fun D a Z s₇ whole hw hD haw S₇ => ?_
  refine then_next ?_
  have hperm : ((C, frC (f3 l kn T)) :: (C + 1, celV (vE (.ref D))) :: (Z ++ (cellsOf as tx ++ ((T, lstV (as.map .ref)) :: [(kn, lstS kindsL)])))).Perm ((C + 1, celV (vE (.ref D))) :: (Z ++ ((C, frC (f3 l kn T)) :: (cellsOf as tx ++ ((T, lstV (as.map .ref)) :: [(kn, lstS kindsL)]))))) :=
    (List.Perm.swap _ _ _).trans (.cons _ List.perm_middle.symm)
  replace S₇ := S₇.perm hperm
  have hD' := hperm.symm.subset (List.Mem.tail _ hD)
  have haw' := hperm.symm.subset (List.Mem.tail _ haw)
  have tl : ∀ {x : Addr} {P : Cell}, (x, P) ∈ ((C, frC (f3 l kn T)) :: (C + 1, celV (vE (.ref D))) :: (Z ++ (cellsOf as tx ++ ((T, lstV (as.map .ref)) :: [(kn, lstS kindsL)])))) → P ≠ frC (f3 l kn T) → (x, P) ∈ ((C + 1, celV (vE (.ref D))) :: (Z ++ (cellsOf as tx ++ ((T, lstV (as.map .ref)) :: [(kn, lstS kindsL)])))) := by
    intro x P hm hne
    rcases List.mem_cons.mp hm with e | e
    · exact absurd (Prod.mk.inj e).2 hne
    · exact e
  refine r_seq ?_
  conv in lAt 6 => whnf
  refine wpAny_Assign_Name ?_ (by kernel_rfl)
  refine Subscript_ ?_
  refine r_nameC (c := C + 1) S₇ (by walk_at "mem") fun v hv => ?_
  obtain rfl : v = .ref D := hv
  refine r_int S₇ fun t s₈ S₈ => ?_
  refine r_itemV S₈ hD' (by decide) (by decide) (v := .ref a) rfl ?_
  refine r_store (P := vE (.ref a)) S₈ (by walk_at "mem") rfl (by walk_at "set") (by walk_at "upd") fun s₉ S₉ => ?_
  refine then_next ?_
  refine r_seq ?_
  refine w_final B hr hls hin Fr hA hu hp h8 ht8 (X := (C + 1, celV (vE (.ref D))) :: (Z ++ (cellsOf as tx ++ ((T, lstV (as.map .ref)) :: [(kn, lstS kindsL)])))) (by walk_at "mem") (fun i a y ha hy => .tail _ (List.mem_append_right _ (cellsOf_map ha hy))) hF hw ?_ S₉ fun s₁₀ S₁₀ => ?_
  · refine tl haw' fun e => ?_
    obtain ⟨o, _, hP⟩ := S₇.get haw'
    have hP2 := hP
    rw [e] at hP2
    obtain ⟨vs, n, rfl, _⟩ := hP
    obtain ⟨es, ep, hd, _⟩ := hP2
    cases hd
  refine then_next ?_
  refine r_seq ?_
  conv in lAt 8 => whnf
  refine wpAny_Return_some ?_
  refine wpAny_Constant_bool ?_
  refine then_ret ?_
  exact h _ (S₁₀.sub (List.nil_sublist _))

theorem fnAt_of {p : Program} {loose : List Str} {mean : ExcName → Option Value} {mg mb : Str → Option Value} {s : Shared} (T : Top p loose mean mg mb s.heap) {name : Str} {params : Arguments} {body : List Stmt} {scope : Scope}
    (h : ∃ d ∈ recsOf p, d.name = name ∧ d.params = params ∧ d.body = body ∧ d.scope = scope) : ∃ a cd, FnAt s mg a name params body scope cd := by
  obtain ⟨d, hd, rfl, rfl, rfl, rfl⟩ := h
  obtain ⟨a, o, pm, code, doc, h1, h2, h3, h4⟩ := T.fn d hd
  exact ⟨a, code, h1, ⟨o, pm, doc, h2, h3⟩, h4⟩
theorem bs_of {p : Program} {loose : List Str} {mean : ExcName → Option Value} {mg mb : Str → Option Value} {s : Shared} (T : Top p loose mean mg mb s.heap) :
    Bs s mg mb (startupNames ++ loose ++ (recsOf p).map (·.name) ++ (PyProof.Rows.litsOf p).map (·.1) ++ (clssOf p loose).map (·.name)) :=
  ⟨T.g, T.b, T.nolimit, T.builtins, fun x hx => by
    simp only [List.mem_append, not_or] at hx
    exact T.free x hx.1.1.1.1 hx.1.1.1.2 hx.1.1.2 hx.1.2 hx.2⟩

theorem holds : PySem.Challenge.rw_dm0050_03.Holds := hd (by
  k_fill
  intro w s₀ s₁ mg mb G Y fa o pm cd doc dV kV ho hd hcd hD hmg hg args vals as hpre hlay hrd hwl hlo
  refine Ground.open G ?_
  intro T B D TE TW
  wrow_args hpre hlay hrd hwl hlo
  rename_i hL _ _ _ hI _ hlen _
  obtain ⟨fr, cr, Fr⟩ := fnAt_of T (name := "restore") (params := rParams) (body := rBody) (scope := rScope) ⟨_, List.mem_of_getElem? (i := 0) rfl, rfl, rfl, rfl, rfl⟩
  obtain ⟨fd, cdl, Fd⟩ := fnAt_of T (name := "_law_delta") (params := dParams) (body := dBody) (scope := dScope) ⟨_, List.mem_of_getElem? (i := 1) rfl, rfl, rfl, rfl, rfl⟩
  obtain ⟨fl, cl, Fl⟩ := fnAt_of T (name := "law") (params := lParams) (body := lBody) (scope := lScope) ⟨_, List.mem_of_getElem? (i := 2) rfl, rfl, rfl, rfl, rfl⟩
  obtain rfl : fl = fa := by
    have := Fl.at_.symm.trans hmg
    cases this; rfl
  refine law03 (bs_of T) (by decide +kernel) Fr Fd Fl (T.seer (by decide +kernel)) hL hI (by omega) ?_ ?_
  · exact ⟨fun _ _ e => e, fun _ h => (nomatch h), List.Pairwise.nil, rfl, .of_eq hg, fun _ h => (nomatch h), List.Pairwise.nil⟩
  · intro s' S'
    exact ⟨.inl ⟨_, .bool true, [], rfl, fun _ => rfl, .bool true, by kernel_rfl, fun _ => ⟨List.Pairwise.nil, fun _ h => (nomatch h)⟩⟩, .of_keep S'.keep, S'.os, S'.bare⟩)
end Mine

open PySem PySem.W PyProof.Rows
theorem PySem.Challenge.cw_dm0050_03_holds : PySem.Challenge.rw_dm0050_03.Holds :=
  Mine.holds
