import PyProof.Rows.All
import Wide.All
import OpenK.AllK
import Wide.FinOn
import PySem.Challenge.RW_dm0064_04
open PySem PySem.W PyProof.Rows
set_option Elab.async false
section
namespace Mine
set_option maxRecDepth 100000 in
set_option maxHeartbeats 8000000 in
open_top hd for PySem.Challenge.rw_dm0064_04
end Mine
end
section
namespace Mine
inductive AV where
  | none
  | bool (b : Bool)
  | int (i : Int)
  | str (s : Str)
  | bytes (b : Array UInt8)
  | tup (l : List AV)
  | lst (l : List AV)
  | inst (c : Addr) (fs : List (Str × AV))
  | raw (v : Value)
structure OL where
  place : Option Addr
  items : List AV
inductive SV where
  | val (v : AV)
  | own (l : OL)
abbrev Slots := Str → Option SV
def Slots.set (ρ : Slots) (x : Str) (v : SV) : Slots := fun y => if y = x then some v else ρ y
abbrev AddrSet := Addr → Prop
mutual
inductive RepV (Z : AddrSet) (h : Heap) : Value → AV → Prop where
  | none : RepV Z h .none .none
  | bool (b : Bool) : RepV Z h (.bool b) (.bool b)
  | int (i : Int) (t : Tok) : RepV Z h (.int i t) (.int i)
  | str (x : Str) (t : Tok) : RepV Z h (.str x t) (.str x)
  | bytes (b : Array UInt8) (t : Tok) : RepV Z h (.bytes b t) (.bytes b)
  | tup {a : Addr} {vs : List Value} {l : List AV} : Z a → IsTup h a vs.toArray → RepVs Z h vs l → RepV Z h (.ref a) (.tup l)
  | lst {a : Addr} {vs : List Value} {l : List AV} : Z a → h.IsList a vs.toArray → RepVs Z h vs l → RepV Z h (.ref a) (.lst l)
  | inst {x dx c : Addr} {es : List DictEntry} {n : Nat} {fs : List (Str × AV)} : Z x → Z dx → h.get? x = some (instObj c dx) → h.get? dx = some (dictOf es n) →
      RepEs Z h es fs → RepV Z h (.ref x) (.inst c fs)
  | raw (v : Value) : RepV Z h v (.raw v)
inductive RepVs (Z : AddrSet) (h : Heap) : List Value → List AV → Prop where
  | nil : RepVs Z h [] []
  | cons {v : Value} {vs : List Value} {a : AV} {l : List AV} : RepV Z h v a → RepVs Z h vs l → RepVs Z h (v :: vs) (a :: l)
inductive RepEs (Z : AddrSet) (h : Heap) : List DictEntry → List (Str × AV) → Prop where
  | nil : RepEs Z h [] []
  | cons {hs : Int} {x : Str} {t : Tok} {v : Value} {es : List DictEntry} {a : AV} {fs : List (Str × AV)} : RepV Z h v a → RepEs Z h es fs → RepEs Z h (⟨hs, .str x t, v⟩ :: es) ((x, a) :: fs)
end
section
variable {Z Z' : AddrSet} {h h' : Heap}
theorem RepV.mono (hz : ∀ a, Z a → Z' a) (hk : ∀ a o, Z a → h.get? a = some o → h'.get? a = some o) {v : Value} {a : AV} (r : RepV Z h v a) : RepV Z' h' v a :=
  RepV.rec (motive_1 := fun v a _ => RepV Z' h' v a) (motive_2 := fun vs l _ => RepVs Z' h' vs l) (motive_3 := fun es fs _ => RepEs Z' h' es fs)
    .none .bool .int .str .bytes (fun z ho _ rs => .tup (hz _ z) (let ⟨o, ho, r⟩ := ho; ⟨o, hk _ _ z ho, r⟩) rs) (fun z ho _ rs => .lst (hz _ z) (let ⟨o, ho, r⟩ := ho; ⟨o, hk _ _ z ho, r⟩) rs)
    (fun z1 z2 h1 h2 _ rs => .inst (hz _ z1) (hz _ z2) (hk _ _ z1 h1) (hk _ _ z2 h2) rs) .raw .nil (fun _ _ r rs => .cons r rs) .nil (fun _ _ r rs => .cons r rs) r
theorem RepVs.mono (hz : ∀ a, Z a → Z' a) (hk : ∀ a o, Z a → h.get? a = some o → h'.get? a = some o) {vs : List Value} {l : List AV} (r : RepVs Z h vs l) : RepVs Z' h' vs l :=
  RepVs.rec (motive_1 := fun v a _ => RepV Z' h' v a) (motive_2 := fun vs l _ => RepVs Z' h' vs l) (motive_3 := fun es fs _ => RepEs Z' h' es fs)
    .none .bool .int .str .bytes (fun z ho _ rs => .tup (hz _ z) (let ⟨o, ho, r⟩ := ho; ⟨o, hk _ _ z ho, r⟩) rs) (fun z ho _ rs => .lst (hz _ z) (let ⟨o, ho, r⟩ := ho; ⟨o, hk _ _ z ho, r⟩) rs)
    (fun z1 z2 h1 h2 _ rs => .inst (hz _ z1) (hz _ z2) (hk _ _ z1 h1) (hk _ _ z2 h2) rs) .raw .nil (fun _ _ r rs => .cons r rs) .nil (fun _ _ r rs => .cons r rs) r
theorem RepEs.mono (hz : ∀ a, Z a → Z' a) (hk : ∀ a o, Z a → h.get? a = some o → h'.get? a = some o) {vs : List DictEntry} {l : List (Str × AV)} (r : RepEs Z h vs l) : RepEs Z' h' vs l :=
  RepEs.rec (motive_1 := fun v a _ => RepV Z' h' v a) (motive_2 := fun vs l _ => RepVs Z' h' vs l) (motive_3 := fun es fs _ => RepEs Z' h' es fs)
    .none .bool .int .str .bytes (fun z ho _ rs => .tup (hz _ z) (let ⟨o, ho, r⟩ := ho; ⟨o, hk _ _ z ho, r⟩) rs) (fun z ho _ rs => .lst (hz _ z) (let ⟨o, ho, r⟩ := ho; ⟨o, hk _ _ z ho, r⟩) rs)
    (fun z1 z2 h1 h2 _ rs => .inst (hz _ z1) (hz _ z2) (hk _ _ z1 h1) (hk _ _ z2 h2) rs) .raw .nil (fun _ _ r rs => .cons r rs) .nil (fun _ _ r rs => .cons r rs) r
theorem RepV.none' {v : Value} (r : RepV Z h v .none) : v = .none := by cases r; rfl
theorem RepV.bool' {v : Value} {b : Bool} (r : RepV Z h v (.bool b)) : v = .bool b := by cases r; rfl
theorem RepV.int' {v : Value} {i : Int} (r : RepV Z h v (.int i)) : ∃ t, v = .int i t := by cases r; exact ⟨_, rfl⟩
theorem RepV.str' {v : Value} {x : Str} (r : RepV Z h v (.str x)) : ∃ t, v = .str x t := by cases r; exact ⟨_, rfl⟩
theorem RepV.tup' {v : Value} {l : List AV} (r : RepV Z h v (.tup l)) : ∃ a vs, v = .ref a ∧ Z a ∧ IsTup h a vs.toArray ∧ RepVs Z h vs l := by cases r with | tup z i rs => exact ⟨_, _, rfl, z, i, rs⟩
theorem RepV.lst' {v : Value} {l : List AV} (r : RepV Z h v (.lst l)) : ∃ a vs, v = .ref a ∧ Z a ∧ h.IsList a vs.toArray ∧ RepVs Z h vs l := by cases r with | lst z i rs => exact ⟨_, _, rfl, z, i, rs⟩
theorem RepVs.nil' {vs : List Value} (r : RepVs Z h vs []) : vs = [] := by cases r; rfl
theorem RepVs.cons' {vs : List Value} {a : AV} {l : List AV} (r : RepVs Z h vs (a :: l)) : ∃ v ws, vs = v :: ws ∧ RepV Z h v a ∧ RepVs Z h ws l := by cases r with | cons r rs => exact ⟨_, _, rfl, r, rs⟩
theorem RepVs.length {vs : List Value} {l : List AV} (r : RepVs Z h vs l) : vs.length = l.length := by
  induction l generalizing vs with
  | nil => rw [r.nil']; rfl
  | cons a l ih => obtain ⟨v, ws, rfl, _, rs⟩ := r.cons'; exact congrArg (· + 1) (ih rs)
theorem RepVs.get {vs : List Value} {l : List AV} (r : RepVs Z h vs l) {i : Nat} {a : AV} (e : l[i]? = some a) : ∃ v, vs[i]? = some v ∧ RepV Z h v a := by
  induction l generalizing vs i with
  | nil => cases e
  | cons b l ih =>
    obtain ⟨v, ws, rfl, r, rs⟩ := r.cons'
    cases i with
    | zero => cases e; exact ⟨v, rfl, r⟩
    | succ i => exact ih rs e
theorem RepVs.append {vs : List Value} {l : List AV} {ws : List Value} {m : List AV} (r : RepVs Z h vs l) (k : RepVs Z h ws m) : RepVs Z h (vs ++ ws) (l ++ m) := by
  induction l generalizing vs with
  | nil => rw [r.nil']; exact k
  | cons b l ih => obtain ⟨v, us, rfl, r, rs⟩ := r.cons'; exact .cons r (ih rs)
theorem RepVs.snoc {vs : List Value} {l : List AV} {v : Value} {a : AV} (r : RepVs Z h vs l) (q : RepV Z h v a) : RepVs Z h (vs ++ [v]) (l ++ [a]) := r.append (.cons q .nil)
theorem RepVs.take (n : Nat) {vs : List Value} {l : List AV} (r : RepVs Z h vs l) : RepVs Z h (vs.take n) (l.take n) := by
  induction n generalizing vs l with
  | zero => exact .nil
  | succ n ih =>
    cases l with
    | nil => rw [r.nil']; exact .nil
    | cons a l => obtain ⟨v, us, rfl, r, rs⟩ := r.cons'; exact .cons r (ih rs)
theorem RepVs.drop (n : Nat) {vs : List Value} {l : List AV} (r : RepVs Z h vs l) : RepVs Z h (vs.drop n) (l.drop n) := by
  induction n generalizing vs l with
  | zero => exact r
  | succ n ih =>
    cases l with
    | nil => rw [r.nil']; exact .nil
    | cons a l => obtain ⟨v, us, rfl, r, rs⟩ := r.cons'; exact ih rs
theorem RepVs.reverse {vs : List Value} {l : List AV} (r : RepVs Z h vs l) : RepVs Z h vs.reverse l.reverse := by
  induction l generalizing vs with
  | nil => rw [r.nil']; exact .nil
  | cons a l ih => obtain ⟨v, us, rfl, r, rs⟩ := r.cons'; rw [List.reverse_cons, List.reverse_cons]; exact (ih rs).snoc r
end
end Mine
end
section
namespace Mine
structure Wd where
  prog : Program
  w : World
  K : Frag
  h₀ : Heap
  mg : Str → Option Value
  mb : Str → Option Value
  os : OsState
  X : AddrSet
abbrev Wd.M (W : Wd) : Model := model W.prog W.w
structure Wd.Ok (W : Wd) : Prop where
  g : W.h₀.Ns mainGlobals W.mg
  b : W.h₀.Ns builtinsNs W.mb
  nolimit : W.h₀.NoLimit
  nodigits : ∃ mc, W.h₀.Ns cStatics mc ∧ mc "sys.int_max_str_digits" = none
  builtins : ∀ x : Str, x ≠ "__name__" → W.mb x = bootBuiltins x
  kin : W.K.In W.h₀
  xk : ∀ a, W.X a → W.K.lookup a = none ∧ a ≠ mainGlobals ∧ a ≠ builtinsNs ∧ a ≠ cStatics
structure Inv (W : Wd) (Z : AddrSet) (s : Shared) : Prop where
  ok : W.Ok
  base : ∀ b o, W.h₀.get? b = some o → ¬ W.X b → s.heap.get? b = some o
  xs : ∀ b, W.X b → ∃ o, s.heap.get? b = some o
  zin : ∀ a, Z a → ∃ o, s.heap.get? a = some o
  os : s.os = W.os
  bare : AllBare s.gens
namespace Inv
variable {W : Wd} {Z : AddrSet} {s : Shared}
theorem ns_of (I : Inv W Z s) {a : Addr} {m : Str → Option Value} (hn : W.h₀.Ns a m) (hx : ¬ W.X a) : s.heap.Ns a m := by
  obtain ⟨o, es, ep, ho, r⟩ := hn
  exact ⟨o, es, ep, I.base _ _ ho hx, r⟩
theorem g (I : Inv W Z s) : s.heap.Ns mainGlobals W.mg := I.ns_of I.ok.g fun h => (I.ok.xk _ h).2.1 rfl
theorem b (I : Inv W Z s) : s.heap.Ns builtinsNs W.mb := I.ns_of I.ok.b fun h => (I.ok.xk _ h).2.2.1 rfl
theorem nolimit (I : Inv W Z s) : s.heap.NoLimit := by
  obtain ⟨mc, h1, h2⟩ := I.ok.nolimit
  exact ⟨mc, I.ns_of h1 fun h => (I.ok.xk _ h).2.2.2 rfl, h2⟩
theorem kin (I : Inv W Z s) : W.K.In s.heap := fun a o e => I.base _ _ (I.ok.kin a o e) fun h => by rw [(I.ok.xk _ h).1] at e; cases e
theorem fresh_z (I : Inv W Z s) {a : Addr} (h : s.heap.get? a = none) : ¬ Z a := fun z => by obtain ⟨o, e⟩ := I.zin a z; rw [h] at e; cases e
theorem fresh_b (I : Inv W Z s) {a : Addr} (h : s.heap.get? a = none) : W.h₀.get? a = none := by
  cases e : W.h₀.get? a with
  | none => rfl
  | some o =>
    by_cases hx : W.X a
    · obtain ⟨o, e⟩ := I.xs a hx; rw [h] at e; cases e
    · have := I.base a o e hx; rw [h] at this; cases this
theorem fresh_x (I : Inv W Z s) {a : Addr} (h : s.heap.get? a = none) : ¬ W.X a := fun hx => by obtain ⟨o, e⟩ := I.xs a hx; rw [h] at e; cases e
end Inv
structure Own where
  a : Addr → Prop
  g : Nat → Prop
def Own.none : Own := ⟨fun _ => False, fun _ => False⟩
def Own.addrs (p : Addr → Prop) : Own := ⟨p, fun _ => False⟩
structure Step (W : Wd) (O : Own) (Z : AddrSet) (s : Shared) (Z' : AddrSet) (s' : Shared) : Prop where
  inv : Inv W Z' s'
  keep : ∀ b o, ¬ O.a b → s.heap.get? b = some o → s'.heap.get? b = some o
  zsub : ∀ a, Z a → Z' a
  znew : ∀ a, Z' a → Z a ∨ O.a a ∨ s.heap.get? a = none
  gens : ∀ i x, ¬ O.g i → s.gens[i]? = some x → s'.gens[i]? = some x
namespace Step
variable {W : Wd} {O O₁ : Own} {Z Z₁ Z₂ : AddrSet} {s s₁ s₂ : Shared}
theorem none_back (p : Step W O Z s Z₁ s₁) {a : Addr} (h : s₁.heap.get? a = none) : O.a a ∨ s.heap.get? a = none := by
  by_cases ho : O.a a
  · exact .inl ho
  · refine .inr ?_
    cases e : s.heap.get? a with
    | none => rfl
    | some o => rw [p.keep a o ho e] at h; cases h
theorem id (I : Inv W Z s) : Step W O Z s Z s := ⟨I, fun _ _ _ e => e, fun _ h => h, fun _ h => .inl h, fun _ _ _ e => e⟩
theorem trans (p : Step W O Z s Z₁ s₁) (q : Step W O₁ Z₁ s₁ Z₂ s₂) (ho : ∀ a, O₁.a a → O.a a ∨ s.heap.get? a = none) (hg : ∀ i, O₁.g i → O.g i ∨ s.gens[i]? = none) : Step W O Z s Z₂ s₂ where
  inv := q.inv
  keep b o hb e := q.keep b o (fun h => (ho b h).elim hb fun h' => by rw [h'] at e; cases e) (p.keep b o hb e)
  zsub a h := q.zsub a (p.zsub a h)
  znew a h := by
    rcases q.znew a h with h | h | h
    · exact p.znew a h
    · exact .inr (ho a h)
    · exact .inr (p.none_back h)
  gens i x hi e := q.gens i x (fun h => (hg i h).elim hi fun h' => by rw [h'] at e; cases e) (p.gens i x hi e)
theorem tr (p : Step W .none Z s Z₁ s₁) (q : Step W .none Z₁ s₁ Z₂ s₂) : Step W .none Z s Z₂ s₂ := p.trans q (fun _ h => .inl h) (fun _ h => .inl h)
theorem trO (p : Step W O Z s Z₁ s₁) (q : Step W O Z₁ s₁ Z₂ s₂) : Step W O Z s Z₂ s₂ := p.trans q (fun _ h => .inl h) (fun _ h => .inl h)
theorem mono (p : Step W O Z s Z₁ s₁) (ho : ∀ a, O.a a → O₁.a a ∨ s.heap.get? a = none) (hg : ∀ i, O.g i → O₁.g i ∨ s.gens[i]? = none) : Step W O₁ Z s Z₁ s₁ where
  inv := p.inv
  keep b o hb e := p.keep b o (fun h => (ho b h).elim hb fun h' => by rw [h'] at e; cases e) e
  zsub := p.zsub
  znew a h := (p.znew a h).imp (fun h => h) fun h => h.elim (ho a) .inr
  gens i x hi e := p.gens i x (fun h => (hg i h).elim hi fun h' => by rw [h'] at e; cases e) e
theorem weak (p : Step W .none Z s Z₁ s₁) : Step W O Z s Z₁ s₁ := p.mono (fun _ h => h.elim) (fun _ h => h.elim)
theorem toks (I : Inv W Z s) (tk : Nat) : Step W O Z s Z { s with toks := tk } := ⟨⟨I.ok, I.base, I.xs, I.zin, I.os, I.bare⟩, fun _ _ _ e => e, fun _ h => h, fun _ h => .inl h, fun _ _ _ e => e⟩
theorem grow (I : Inv W Z s) {h' : Heap} {tk : Nat} (hk : ∀ b o, s.heap.get? b = some o → h'.get? b = some o) : Step W O Z s Z { s with heap := h', toks := tk } :=
  ⟨⟨I.ok, fun b o e x => hk _ _ (I.base b o e x), fun b x => let ⟨o, e⟩ := I.xs b x; ⟨o, hk _ _ e⟩, fun a z => let ⟨o, e⟩ := I.zin a z; ⟨o, hk _ _ e⟩, I.os, I.bare⟩, fun b o _ e => hk b o e, fun _ h => h, fun _ h => .inl h, fun _ _ _ e => e⟩
theorem grow1 (I : Inv W Z s) {h' : Heap} {tk : Nat} {a : Addr} {oa : Obj} (hk : ∀ b o, s.heap.get? b = some o → h'.get? b = some o) (hn : s.heap.get? a = none) (ha : h'.get? a = some oa) :
    Step W O Z s (fun b => Z b ∨ b = a) { s with heap := h', toks := tk } :=
  ⟨⟨I.ok, fun b o e x => hk _ _ (I.base b o e x), fun b x => let ⟨o, e⟩ := I.xs b x; ⟨o, hk _ _ e⟩, fun b z => z.elim (fun z => let ⟨o, e⟩ := I.zin b z; ⟨o, hk _ _ e⟩) fun e => ⟨oa, e ▸ ha⟩, I.os, I.bare⟩,
    fun b o _ e => hk b o e, fun _ h => .inl h, fun _ h => h.elim .inl fun e => .inr (.inr (e ▸ hn)), fun _ _ _ e => e⟩
theorem rep (p : Step W O Z s Z₁ s₁) (ho : ∀ a, Z a → ¬ O.a a) {v : Value} {a : AV} (r : RepV Z s.heap v a) : RepV Z₁ s₁.heap v a := r.mono p.zsub fun a o z e => p.keep a o (ho a z) e
theorem reps (p : Step W O Z s Z₁ s₁) (ho : ∀ a, Z a → ¬ O.a a) {v : List Value} {a : List AV} (r : RepVs Z s.heap v a) : RepVs Z₁ s₁.heap v a := r.mono p.zsub fun a o z e => p.keep a o (ho a z) e
theorem rep0 (p : Step W .none Z s Z₁ s₁) {v : Value} {a : AV} (r : RepV Z s.heap v a) : RepV Z₁ s₁.heap v a := p.rep (fun _ _ h => h) r
theorem reps0 (p : Step W .none Z s Z₁ s₁) {v : List Value} {a : List AV} (r : RepVs Z s.heap v a) : RepVs Z₁ s₁.heap v a := p.reps (fun _ _ h => h) r
end Step
structure Room (A : Around) (d : Nat) : Prop where
  handled : A.handled = none
  depth : A.depth + 2 * d + 10 < recursionLimit
  units : A.units + 30 * d + 100 < cLine
theorem Room.deeper {A : Around} {d : Nat} (r : Room A (d + 1)) (env : Env) : Room (A.deeper env) d := ⟨r.handled, by have h : A.depth + 2 * (d + 1) + 10 < recursionLimit := r.depth; show A.depth + 1 + 2 * d + 10 < recursionLimit; (first | lia | omega), by have h : A.units + 30 * (d + 1) + 100 < cLine := r.units; show A.units + 3 + 30 * d + 100 < cLine; (first | lia | omega)⟩
theorem Room.lt {A : Around} {d : Nat} (r : Room A d) : A.depth < recursionLimit := by have := r.depth; (first | lia | omega)
theorem Room.ult {A : Around} {d : Nat} (r : Room A d) : A.units + 50 < cLine := by have := r.units; (first | lia | omega)
theorem Room.le {A : Around} {d e : Nat} (r : Room A d) (h : e ≤ d) : Room A e := ⟨r.handled, Nat.lt_of_le_of_lt (Nat.add_le_add_right (Nat.add_le_add_left (Nat.mul_le_mul_left 2 h) _) _) r.depth, Nat.lt_of_le_of_lt (Nat.add_le_add_right (Nat.add_le_add_left (Nat.mul_le_mul_left 30 h) _) _) r.units⟩
structure EnvOk (env : Env) (sc : Scope) : Prop where
  scope : env.scope = sc
  globals : env.globals = mainGlobals
  builtins : env.builtins = builtinsNs
  fn : sc.kind = .function
  cells : ∀ x, sc.names.lookup x = some .cell ∨ sc.names.lookup x = some .free → ∃ c, env.cells.lookup x = some c
def At (h : Heap) (env : Env) (m : Str → Option Value) (x : Str) (v : Value) : Prop :=
  (env.kindOf x = some .local ∧ m x = some v) ∨ ((env.kindOf x = some .cell ∨ env.kindOf x = some .free) ∧ ∃ c, env.cells.lookup x = some c ∧ h.IsCell c (some v))
def SRep (Z : AddrSet) (h : Heap) (a : Addr) (v : Value) : SV → Prop
  | .val av => RepV Z h v av
  | .own l => v = .ref a ∧ ∃ vs : List Value, h.PlainList a vs.toArray ∧ RepVs Z h vs l.items
def FOwn (env : Env) (ρ : Slots) (α : Str → Addr) (a : Addr) : Prop := a = env.locals ∨ (∃ x, env.cells.lookup x = some a) ∨ ∃ x l, ρ x = some (.own l) ∧ α x = a
structure Loc (W : Wd) (Z : AddrSet) (h : Heap) (env : Env) (ρ : Slots) (α : Str → Addr) : Prop where
  ns : ∃ m, h.Ns env.locals m ∧ ∀ x sv, ρ x = some sv → ∃ v, At h env m x v ∧ SRep Z h (α x) v sv
  nz : ∀ a, FOwn env ρ α a → ¬ Z a
  nb : ∀ a, FOwn env ρ α a → W.h₀.get? a = none ∧ ¬ W.X a
  fix : ∀ x l b, ρ x = some (.own l) → l.place = some b → α x = b
  inj : ∀ x y l l', ρ x = some (.own l) → ρ y = some (.own l') → α x = α y → x = y
  cell : ∀ x c, env.cells.lookup x = some c → ∃ v, h.IsCell c v
  cinj : ∀ x y c, env.cells.lookup x = some c → env.cells.lookup y = some c → x = y
end Mine
end
section
namespace Mine
section
variable {W : Wd} {Z Z' Z₁ : AddrSet} {s s' s₁ : Shared} {h h' : Heap} {env : Env} {sc : Scope} {ρ ρ' ρ₁ : Slots} {α α' α₁ : Str → Addr} {A : Around} {E' : Value → Shared → Prop}
theorem EnvOk.kind (E : EnvOk env sc) (x : Str) : env.kindOf x = sc.names.lookup x := by unfold Env.kindOf; rw [E.scope]
theorem EnvOk.kfn (E : EnvOk env sc) : env.scope.kind = .function := by rw [E.scope]; exact E.fn
theorem At.mono {m : Str → Option Value} {x : Str} {v : Value} (a : At h env m x v) (hk : ∀ x c o, env.cells.lookup x = some c → h.get? c = some o → h'.get? c = some o) : At h' env m x v := by
  rcases a with a | ⟨k, c, hc, o, ho, hd⟩
  · exact .inl a
  · exact .inr ⟨k, c, hc, o, hk _ _ _ hc ho, hd⟩
theorem Loc.alive (L : Loc W Z h env ρ α) {a : Addr} (ha : FOwn env ρ α a) : ∃ o, h.get? a = some o := by
  obtain ⟨m, ⟨o, es, ep, ho, _⟩, hv⟩ := L.ns
  rcases ha with rfl | ⟨x, hx⟩ | ⟨x, l, hx, rfl⟩
  · exact ⟨o, ho⟩
  · obtain ⟨v, o, ho, _⟩ := L.cell _ _ hx; exact ⟨o, ho⟩
  · obtain ⟨v, _, _, vs, ⟨n, hn⟩, _⟩ := hv x _ hx; exact ⟨_, hn⟩
theorem Loc.step {O : Own} (L : Loc W Z s.heap env ρ α) (p : Step W O Z s Z' s') (ho : ∀ a, O.a a → ¬ FOwn env ρ α a ∧ ¬ Z a) : Loc W Z' s'.heap env ρ α := by
  have hk : ∀ a o, FOwn env ρ α a → s.heap.get? a = some o → s'.heap.get? a = some o := fun a o f e => p.keep a o (fun h => (ho a h).1 f) e
  have hz : ∀ a o, Z a → s.heap.get? a = some o → s'.heap.get? a = some o := fun a o f e => p.keep a o (fun h => (ho a h).2 f) e
  refine ⟨?_, fun a f z => ?_, L.nb, L.fix, L.inj, fun x c hc => ?_, L.cinj⟩
  · obtain ⟨m, ⟨o, es, ep, e, r⟩, hv⟩ := L.ns
    refine ⟨m, ⟨o, es, ep, hk _ _ (.inl rfl) e, r⟩, fun x sv hx => ?_⟩
    obtain ⟨v, at', r⟩ := hv x sv hx
    refine ⟨v, at'.mono fun y c o hc e => hk _ _ (.inr (.inl ⟨y, hc⟩)) e, ?_⟩
    cases sv with
    | val av => exact r.mono p.zsub hz
    | own l => obtain ⟨e, vs, ⟨n, hn⟩, rs⟩ := r; exact ⟨e, vs, ⟨n, hk _ _ (.inr (.inr ⟨x, l, hx, rfl⟩)) hn⟩, rs.mono p.zsub hz⟩
  · obtain ⟨o, e⟩ := L.alive f
    rcases p.znew a z with z | z | z
    · exact L.nz a f z
    · exact (ho a z).1 f
    · rw [e] at z; cases z
  · obtain ⟨v, o, e, d⟩ := L.cell x c hc; exact ⟨v, o, hk _ _ (.inr (.inl ⟨x, hc⟩)) e, d⟩
theorem Loc.step0 (L : Loc W Z s.heap env ρ α) (p : Step W .none Z s Z' s') : Loc W Z' s'.heap env ρ α := L.step p fun _ h => h.elim
theorem Loc.load {x : Str} {sv : SV} {Q : Value → Shared → Prop} (L : Loc W Z s.heap env ρ α) (E : EnvOk env sc) (hx : ρ x = some sv) (h : ∀ v, SRep Z s.heap (α x) v sv → Q v s)
    (hn : (x == ("__classdict__" : Str)) = false) : wpAny W.M A (loadName env x) Q E' s := by
  obtain ⟨m, ns, hv⟩ := L.ns
  obtain ⟨v, at', r⟩ := hv x sv hx
  rcases at' with ⟨k, e⟩ | ⟨k | k, c, hc, e⟩
  · exact wpAny_loadName_local E.kfn k ns e (h v r)
  · exact wpAny_loadName_cell E.kfn k hc e (h v r)
  · exact wpAny_loadName_free E.kfn k hc e (h v r) hn
structure FStep (W : Wd) (env : Env) (Z : AddrSet) (s : Shared) (ρ : Slots) (α : Str → Addr) (Z' : AddrSet) (s' : Shared) (ρ' : Slots) (α' : Str → Addr) : Prop where
  step : Step W (.addrs (FOwn env ρ α)) Z s Z' s'
  fo : ∀ a, FOwn env ρ' α' a → FOwn env ρ α a ∨ s.heap.get? a = none
  loc : Loc W Z' s'.heap env ρ' α'
theorem FStep.id (I : Inv W Z s) (L : Loc W Z s.heap env ρ α) : FStep W env Z s ρ α Z s ρ α := ⟨.id I, fun _ h => .inl h, L⟩
theorem FStep.trans (p : FStep W env Z s ρ α Z₁ s₁ ρ₁ α₁) (q : FStep W env Z₁ s₁ ρ₁ α₁ Z' s' ρ' α') : FStep W env Z s ρ α Z' s' ρ' α' where
  step := p.step.trans q.step (fun a h => p.fo a h) (fun _ h => h.elim)
  fo a h := by
    rcases q.fo a h with h | h
    · exact p.fo a h
    · exact p.step.none_back h
  loc := q.loc
theorem FStep.pure (L : Loc W Z s.heap env ρ α) (p : Step W .none Z s Z' s') : FStep W env Z s ρ α Z' s' ρ α := ⟨p.weak, fun _ h => .inl h, L.step0 p⟩
def setA (α : Str → Addr) (x : Str) (a : Addr) : Str → Addr := fun y => if y = x then a else α y
theorem store_fo {x : Str} {sv : SV} {a : Addr} : ∀ b, FOwn env (ρ.set x sv) (setA α x a) b → FOwn env ρ α b ∨ ((∃ l, sv = .own l) ∧ b = a) := by
  rintro b (rfl | ⟨y, hy⟩ | ⟨y, l, hy, rfl⟩)
  · exact .inl (.inl rfl)
  · exact .inl (.inr (.inl ⟨y, hy⟩))
  · unfold Slots.set at hy
    unfold setA
    by_cases e : y = x
    · rw [if_pos e] at hy ⊢; exact .inr ⟨⟨l, Option.some.inj hy⟩, rfl⟩
    · rw [if_neg e] at hy ⊢; exact .inl (.inr (.inr ⟨y, l, hy, rfl⟩))
def StoreOk (W : Wd) (Z : AddrSet) (ρ : Slots) (α : Str → Addr) (x : Str) (a : Addr) (sv : SV) : Prop := ∀ l, sv = .own l → ¬ Z a ∧ W.h₀.get? a = none ∧ ¬ W.X a ∧ (∀ b, l.place = some b → a = b) ∧ ∀ y l', y ≠ x → ρ y = some (.own l') → α y ≠ a
theorem store_loc {x : Str} {v : Value} {sv : SV} {a b : Addr} {h' : Heap} {m m' : Str → Option Value} (L : Loc W Z h env ρ α) (fb : FOwn env ρ α b) (hm : ∀ x sv, ρ x = some sv → ∃ v, At h env m x v ∧ SRep Z h (α x) v sv) (r : SRep Z h a v sv) (hf : StoreOk W Z ρ α x a sv) (hs : Heap.SameBut b h h')
    (hns : h'.Ns env.locals m') (hat : ∀ y w, y ≠ x → At h env m y w → At h' env m' y w) (hatx : At h' env m' x v) (hc : ∀ y c, env.cells.lookup y = some c → ∃ w, h'.IsCell c w) (hnl : ∀ vs, ¬ h.PlainList b vs) : Loc W Z h' env (ρ.set x sv) (setA α x a) := by
  have kz : ∀ c o, Z c → h.get? c = some o → h'.get? c = some o := fun c o z e => (hs.2 c (fun q => L.nz b fb (q ▸ z))).trans e
  have ks : ∀ {c : Addr} {w : Value} {sv : SV}, SRep Z h c w sv → SRep Z h' c w sv := fun {c w sv} r => by
    cases sv with
    | val av => exact RepV.mono (fun _ z => z) kz r
    | own l => obtain ⟨e, vs, ⟨n, hn⟩, rs⟩ := r; exact ⟨e, vs, ⟨n, (hs.2 c (fun q => hnl vs.toArray ⟨n, by rw [← q]; exact hn⟩)).trans hn⟩, rs.mono (fun _ z => z) kz⟩
  refine ⟨⟨m', hns, fun y sv' hy => ?_⟩, fun b f => ?_, fun b f => ?_, fun y l b hy hb => ?_, fun y z l l' hy hz e => ?_, hc, L.cinj⟩
  · unfold Slots.set at hy
    unfold setA
    by_cases e : y = x
    · rw [if_pos e] at hy ⊢
      exact ⟨v, e ▸ hatx, Option.some.inj hy ▸ ks r⟩
    · rw [if_neg e] at hy ⊢
      obtain ⟨w, aw, rw'⟩ := hm y sv' hy
      exact ⟨w, hat y w e aw, ks rw'⟩
  · rcases store_fo b f with f | ⟨⟨l, e⟩, rfl⟩
    · exact L.nz b f
    · exact (hf l e).1
  · rcases store_fo b f with f | ⟨⟨l, e⟩, rfl⟩
    · exact L.nb b f
    · exact ⟨(hf l e).2.1, (hf l e).2.2.1⟩
  · unfold Slots.set at hy
    unfold setA
    by_cases e : y = x
    · rw [if_pos e] at hy ⊢; exact (hf l (Option.some.inj hy)).2.2.2.1 b hb
    · rw [if_neg e] at hy ⊢; exact L.fix y l b hy hb
  · unfold Slots.set at hy hz
    unfold setA at e
    by_cases ey : y = x <;> by_cases ez : z = x
    · rw [ey, ez]
    · rw [if_pos ey] at hy e; rw [if_neg ez] at hz e
      exact ((hf l (Option.some.inj hy)).2.2.2.2 z l' ez hz e.symm).elim
    · rw [if_neg ey] at hy e; rw [if_pos ez] at hz e
      exact ((hf l' (Option.some.inj hz)).2.2.2.2 y l ey hy e).elim
    · rw [if_neg ey] at hy e; rw [if_neg ez] at hz e
      exact L.inj y z l l' hy hz e
theorem store_step {b : Addr} {h' : Heap} {tk : Nat} (I : Inv W Z s) (L : Loc W Z s.heap env ρ α) (fb : FOwn env ρ α b) (hs : Heap.SameBut b s.heap h') : Step W (.addrs (· = b)) Z s Z { s with heap := h', toks := tk } := by
  have kz : ∀ c o, Z c → s.heap.get? c = some o → h'.get? c = some o := fun c o z e => (hs.2 c (fun q => L.nz b fb (q ▸ z))).trans e
  refine ⟨⟨I.ok, fun c o e x => ?_, fun c x => ?_, fun c z => let ⟨o, e⟩ := I.zin c z; ⟨o, kz c o z e⟩, I.os, I.bare⟩, fun c o hc e => (hs.2 c hc).trans e, fun _ z => z, fun _ z => .inl z, fun _ _ _ e => e⟩
  · exact (hs.2 c (fun q => by rw [q, (L.nb b fb).1] at e; cases e)).trans (I.base c o e x)
  · by_cases q : c = b
    · exact absurd (q ▸ x) (L.nb b fb).2
    · obtain ⟨o, e⟩ := I.xs c x; exact ⟨o, (hs.2 c q).trans e⟩
theorem ns_cell {c : Addr} {w : Option Value} {m : Str → Option Value} (hc : h.IsCell c w) (ns : h.Ns env.locals m) : c ≠ env.locals := fun q => by
  obtain ⟨o, e1, d1⟩ := hc
  obtain ⟨o', es, ep, e2, d2, _⟩ := ns
  rw [q, e2] at e1; cases e1; rw [d1] at d2; cases d2
theorem Loc.store' {x : Str} {v : Value} {sv : SV} {a : Addr} (I : Inv W Z s) (L : Loc W Z s.heap env ρ α) (E : EnvOk env sc) (hk : sc.names.lookup x = some .local ∨ sc.names.lookup x = some .cell)
    (r : SRep Z s.heap a v sv) (hf : ∀ l, sv = .own l → ¬ Z a ∧ W.h₀.get? a = none ∧ ¬ W.X a ∧ (∀ b, l.place = some b → a = b) ∧ ∀ y l', y ≠ x → ρ y = some (.own l') → α y ≠ a)
    {Q : Unit → Shared → Prop} (h : ∀ s' c, FOwn env ρ α c → (sc.names.lookup x = some .local → c = env.locals) → Step W (.addrs (· = c)) Z s Z s' → (∀ b, FOwn env (ρ.set x sv) (setA α x a) b → FOwn env ρ α b ∨ ((∃ l, sv = .own l) ∧ b = a)) → Loc W Z s'.heap env (ρ.set x sv) (setA α x a) → Q () s') :
    wpAny W.M A (storeName env x v) Q E' s := by
  obtain ⟨m, ns, hv⟩ := L.ns
  rcases hk with hk | hk
  · have k : env.kindOf x = some .local := (E.kind x).trans hk
    refine wpAny_storeName_local k ns (fun h' ns' hs => h _ env.locals (.inl rfl) (fun _ => rfl) (store_step I L (.inl rfl) hs) store_fo (store_loc L (.inl rfl) hv r hf hs ns' (fun y w hy aw => ?_) (.inl ⟨k, by simp⟩) (fun y c hc => ?_) ?_)) (by rw [E.kfn]; rfl)
    · rcases aw with ⟨k', e⟩ | ⟨k', c, hc, e⟩
      · exact .inl ⟨k', by simpa [hy] using e⟩
      · exact .inr ⟨k', c, hc, e.sameBut hs (ns_cell e ns)⟩
    · obtain ⟨w, hw⟩ := L.cell y c hc; exact ⟨w, hw.sameBut hs (ns_cell hw ns)⟩
    · rintro vs ⟨n, e⟩; obtain ⟨o', es, ep, e2, d2, _⟩ := ns; rw [e2] at e; cases e; cases d2
  · have k : env.kindOf x = some .cell := (E.kind x).trans hk
    obtain ⟨c, hc⟩ := E.cells x (.inl hk)
    obtain ⟨v₀, hv₀⟩ := L.cell x c hc
    refine wpAny_storeName_cell E.kfn k hc hv₀ (fun h' hc' hs => h _ c (.inr (.inl ⟨x, hc⟩)) (fun q => by rw [hk] at q; cases q) (store_step (tk := s.toks) I L (.inr (.inl ⟨x, hc⟩)) hs) store_fo (store_loc L (.inr (.inl ⟨x, hc⟩)) hv r hf hs (ns.sameBut hs (ns_cell hv₀ ns).symm) (fun y w hy aw => ?_) (.inr ⟨.inl k, c, hc, hc'⟩) (fun y c' hy => ?_) ?_))
    · rcases aw with ⟨k', e⟩ | ⟨k', c', hc'', e⟩
      · exact .inl ⟨k', e⟩
      · exact .inr ⟨k', c', hc'', e.sameBut hs fun q => hy (L.cinj y x c (q ▸ hc'') hc)⟩
    · by_cases q : c' = c
      · exact ⟨_, q ▸ hc'⟩
      · obtain ⟨w, hw⟩ := L.cell y c' hy; exact ⟨w, hw.sameBut hs q⟩
    · rintro vs ⟨n, e⟩; obtain ⟨o, e1, d1⟩ := hv₀; rw [e1] at e; cases e; cases d1
theorem Loc.store {x : Str} {v : Value} {sv : SV} {a : Addr} (I : Inv W Z s) (L : Loc W Z s.heap env ρ α) (E : EnvOk env sc) (hk : sc.names.lookup x = some .local ∨ sc.names.lookup x = some .cell)
    (r : SRep Z s.heap a v sv) (hf : ∀ l, sv = .own l → ¬ Z a ∧ W.h₀.get? a = none ∧ ¬ W.X a ∧ (∀ b, l.place = some b → a = b) ∧ ∀ y l', y ≠ x → ρ y = some (.own l') → α y ≠ a)
    {Q : Unit → Shared → Prop} (h : ∀ s', Step W (.addrs (FOwn env ρ α)) Z s Z s' → (∀ b, FOwn env (ρ.set x sv) (setA α x a) b → FOwn env ρ α b ∨ ((∃ l, sv = .own l) ∧ b = a)) → Loc W Z s'.heap env (ρ.set x sv) (setA α x a) → Q () s') :
    wpAny W.M A (storeName env x v) Q E' s :=
  L.store' I E hk r hf fun s' c fc _ p fo l => h s' (p.mono (fun b e => .inl (by rw [show b = c from e]; exact fc)) fun _ h => h.elim) fo l
end
end Mine
end
section
set_option linter.unusedVariables false
namespace Mine
section
variable {W : Wd} {Z Z' Z₁ : AddrSet} {s s' s₁ : Shared} {env : Env} {sc : Scope} {ρ : Slots} {α : Str → Addr} {A : Around} {d : Nat}
def Gives (W : Wd) (A : Around) (Z : AddrSet) (s : Shared) (t : Sem Value) (av : AV) : Prop :=
  ∀ (Q : Value → Shared → Prop) (E' : Value → Shared → Prop), (∀ rv s' Z', Step W .none Z s Z' s' → RepV Z' s'.heap rv av → Q rv s') → wpAny W.M A t Q E' s
def GivesB (W : Wd) (A : Around) (Z : AddrSet) (s : Shared) (t : Sem Bool) (b : Bool) : Prop :=
  ∀ (Q : Bool → Shared → Prop) (E' : Value → Shared → Prop), (∀ s' Z', Step W .none Z s Z' s' → Q b s') → wpAny W.M A t Q E' s
def DenP (W : Wd) (d : Nat) (sc : Scope) (e : Expr) (f : Slots → Option AV) : Prop :=
  ∀ (A : Around) (env : Env) (Z : AddrSet) (s : Shared) (ρ : Slots) (α : Str → Addr) (av : AV), Room A d → EnvOk env sc → Inv W Z s → Loc W Z s.heap env ρ α → f ρ = some av → Gives W A Z s (eval e env) av
def DenT (W : Wd) (d : Nat) (sc : Scope) (e : Expr) (f : Slots → Option Bool) : Prop :=
  ∀ (A : Around) (env : Env) (Z : AddrSet) (s : Shared) (ρ : Slots) (α : Str → Addr) (b : Bool), Room A d → EnvOk env sc → Inv W Z s → Loc W Z s.heap env ρ α → f ρ = some b → GivesB W A Z s (isTrue e env (eval e env)) b
theorem bindO {β γ : Type} {x : Option β} {f : β → Option γ} {c : γ} (h : (x >>= f) = some c) : ∃ b, x = some b ∧ f b = some c := by
  cases x with
  | none => cases h
  | some b => exact ⟨b, rfl, h⟩
theorem Gives.val (I : Inv W Z s) {t : Sem Value} {av : AV} (h : ∀ (Q : Value → Shared → Prop) E', (∀ v tk, RepV Z s.heap v av → Q v { s with toks := tk }) → wpAny W.M A t Q E' s) : Gives W A Z s t av :=
  fun Q E' q => h Q E' fun v tk r => q v _ Z (.toks I tk) r
theorem Gives.bind {t : Sem Value} {k : Value → Sem Value} {a b : AV} (h : Gives W A Z s t a) (hk : ∀ v s₁ Z₁, Step W .none Z s Z₁ s₁ → RepV Z₁ s₁.heap v a → Gives W A Z₁ s₁ (k v) b) : Gives W A Z s (t >>= k) b :=
  fun Q E' q => wpAny_bind (h _ _ fun v s₁ Z₁ p r => hk v s₁ Z₁ p r _ _ fun w s₂ Z₂ p₂ r₂ => q w s₂ Z₂ (p.tr p₂) r₂)
theorem Gives.seq {t : Sem Value} {Q : Value → Shared → Prop} {E' : Value → Shared → Prop} {a : AV} (h : Gives W A Z s t a) (q : ∀ rv s' Z', Step W .none Z s Z' s' → RepV Z' s'.heap rv a → Q rv s') : wpAny W.M A t Q E' s := h Q E' q
-- constants
theorem den_int (i : Int) (k : Nat) (pos : Pos) : DenP W d sc (.Constant (.int i) k pos) fun _ => some (.int i) := by
  intro A env Z s ρ α av hr hE I L hf; cases hf
  exact .val I fun Q E' q => wpAny_Constant_int (q _ _ (.int _ _))
theorem den_str (x : Str) (k : Nat) (pos : Pos) : DenP W d sc (.Constant (.str x) k pos) fun _ => some (.str x) := by
  intro A env Z s ρ α av hr hE I L hf; cases hf
  exact .val I fun Q E' q => wpAny_Constant_str (q _ _ (.str _ _))
theorem den_none (k : Nat) (pos : Pos) : DenP W d sc (.Constant .none k pos) fun _ => some .none := by
  intro A env Z s ρ α av hr hE I L hf; cases hf
  exact .val I fun Q E' q => wpAny_Constant_none (q _ s.toks .none)
theorem den_bool (b : Bool) (k : Nat) (pos : Pos) : DenP W d sc (.Constant (.bool b) k pos) fun _ => some (.bool b) := by
  intro A env Z s ρ α av hr hE I L hf; cases hf
  exact .val I fun Q E' q => wpAny_Constant_bool (q _ s.toks (.bool b))
-- names
def getV (ρ : Slots) (x : Str) : Option AV := match ρ x with | some (.val v) => some v | _ => none
theorem getV_eq {x : Str} {av : AV} (h : getV ρ x = some av) : ρ x = some (.val av) := by
  unfold getV at h
  split at h
  · cases h; assumption
  · cases h
theorem den_name (x : Str) (pos : Pos) (h1 : (x == ("__debug__" : Str)) = false) (h2 : (x == ("__classdict__" : Str)) = false) : DenP W d sc (.Name x pos) fun ρ => getV ρ x := by
  intro A env Z s ρ α av hr hE I L hf
  exact .val I fun Q E' q => wpAny_Name (L.load hE (getV_eq hf) (fun v r => q v s.toks r) h2) h1
def Wd.Glob (W : Wd) (x : Str) (v : Value) : Prop := nsIn W.K mainGlobals x = some (some v) ∨ (nsIn W.K mainGlobals x = some none ∧ bootBuiltins x = some v ∧ x ≠ "__name__")
theorem load_glob {x : Str} {pos : Pos} {v : Value} {Q : Value → Shared → Prop} {E' : Value → Shared → Prop} (hE : EnvOk env sc) (I : Inv W Z s) (hg : W.Glob x v) (hk : sc.names.lookup x = some .globalImplicit) (h1 : (x == ("__debug__" : Str)) = false) (q : Q v s) :
    wpAny W.M A (eval (.Name x pos) env) Q E' s := by
  refine Calls.Name_function_global hE.kfn ((hE.kind x).trans hk) ?_ h1
  rcases hg with e | ⟨e, hb, hn⟩
  · exact Calls.loadGlobal_global (hE.globals ▸ I.g) (mg_of I.ok.kin I.ok.g e) q
  · exact Calls.loadGlobal_builtin (hE.globals ▸ I.g) (mg_none_of I.ok.kin I.ok.g e) (hE.builtins ▸ I.b) ((I.ok.builtins x hn).trans hb) q
def repStr (x : Str) (n : Int) : Str := ⟨(List.replicate n.toNat x.cps.toList).flatten.toArray⟩
def AV.int? : AV → Option Int
  | .int i => some i
  | _ => Option.none
def AV.str? : AV → Option Str
  | .str i => some i
  | _ => Option.none
def AV.lst? : AV → Option (List AV)
  | .lst i => some i
  | _ => Option.none
theorem int?_eq {a : AV} {i : Int} (e : a.int? = some i) : a = .int i := by cases a <;> cases e; rfl
theorem str?_eq {a : AV} {i : Str} (e : a.str? = some i) : a = .str i := by cases a <;> cases e; rfl
theorem lst?_eq {a : AV} {i : List AV} (e : a.lst? = some i) : a = .lst i := by cases a <;> cases e; rfl
theorem int?_rep {h : Heap} {v : Value} {a : AV} {i : Int} (e : a.int? = some i) (r : RepV Z h v a) : ∃ t, v = .int i t := (int?_eq e ▸ r).int'
theorem str?_rep {h : Heap} {v : Value} {a : AV} {i : Str} (e : a.str? = some i) (r : RepV Z h v a) : ∃ t, v = .str i t := (str?_eq e ▸ r).str'
theorem lst?_rep {h : Heap} {v : Value} {a : AV} {l : List AV} (e : a.lst? = some l) (r : RepV Z h v a) : ∃ a vs, v = .ref a ∧ Z a ∧ h.IsList a vs.toArray ∧ RepVs Z h vs l := (lst?_eq e ▸ r).lst'
theorem iteO {β : Type} {p : Prop} [Decidable p] {x : Option β} {c : β} (h : (if p then x else none) = some c) : p ∧ x = some c := by
  by_cases hp : p
  · rw [if_pos hp] at h; exact ⟨hp, h⟩
  · rw [if_neg hp] at h; cases h
def addA : AV → AV → Option AV
  | .int a, y => y.int? >>= fun b => some (.int (a + b))
  | .str x, y => y.str? >>= fun y => if x.length + y.length ≤ 16777216 then some (.str (x ++ y)) else none
  | .lst x, y => y.lst? >>= fun y => if x.length + y.length ≤ 16777216 then some (.lst (x ++ y)) else none
  | _, _ => none
def multA : AV → AV → Option AV
  | .int a, y => y.int? >>= fun b => if a.natAbs < 1073741824 ∧ b.natAbs < 1073741824 then some (.int (a * b)) else none
  | .str x, y => y.int? >>= fun n => if n < 16777216 ∧ -16777216 < n ∧ x.length * n.toNat ≤ 16777216 then some (.str (repStr x n)) else none
  | .lst x, y => y.int? >>= fun n => if n < 16777216 ∧ -16777216 < n ∧ x.length * n.toNat ≤ 16777216 then some (.lst (List.replicate n.toNat x).flatten) else none
  | _, _ => none
def binA : Operator → AV → AV → Option AV
  | .Add, x, y => addA x y
  | .Sub, x, y => x.int? >>= fun a => y.int? >>= fun b => some (.int (a - b))
  | .FloorDiv, x, y => x.int? >>= fun a => y.int? >>= fun b => if b ≠ 0 ∧ b.natAbs < 1073741824 then some (.int (a.fdiv b)) else none
  | .Mod, x, y => x.int? >>= fun a => y.int? >>= fun b => if b ≠ 0 then some (.int (a.fmod b)) else none
  | .Mult, x, y => multA x y
  | _, _, _ => none
end
end Mine
end
section
set_option linter.unusedVariables false
namespace Mine
section
variable {W : Wd} {Z Z' Z₁ : AddrSet} {s s' s₁ : Shared} {env : Env} {sc : Scope} {ρ : Slots} {α : Str → Addr} {A : Around} {d : Nat}
theorem push_keep (h : Heap) (o : Obj) : ∀ b o', h.get? b = some o' → (h.push o).get? b = some o' := fun _ _ e => Heap.get?_push_of_some o e
theorem push_none (h : Heap) : h.get? h.objs.size = none := by
  cases e : h.get? h.objs.size with
  | none => rfl
  | some o => exact absurd (Heap.lt_size e) (Nat.lt_irrefl _)
theorem Gives.newLst (I : Inv W Z s) {t : Sem Value} {vs : List Value} {l : List AV} {n : Nat} (r : RepVs Z s.heap vs l)
    (h : ∀ (Q : Value → Shared → Prop) E', (∀ tk, Q (.ref s.heap.objs.size) { s with heap := s.heap.push { cls := .type "list", data := .seq vs.toArray n }, toks := tk }) → wpAny W.M A t Q E' s) : Gives W A Z s t (.lst l) :=
  fun Q E' q => h Q E' fun tk => by
    have hg := Heap.get?_push_size s.heap (o := { cls := .type "list", data := .seq vs.toArray n }) rfl
    exact q _ _ _ (.grow1 I (push_keep _ _) (push_none _) hg) (.lst (.inr rfl) ⟨_, hg, rfl, n, rfl⟩ (r.mono (fun _ z => .inl z) fun a o _ e => push_keep _ _ _ _ e))
theorem Gives.newTup (I : Inv W Z s) {t : Sem Value} {vs : List Value} {l : List AV} {n : Nat} (r : RepVs Z s.heap vs l)
    (h : ∀ (Q : Value → Shared → Prop) E', (∀ tk, Q (.ref s.heap.objs.size) { s with heap := s.heap.push { cls := .type "tuple", data := .seq vs.toArray n }, toks := tk }) → wpAny W.M A t Q E' s) : Gives W A Z s t (.tup l) :=
  fun Q E' q => h Q E' fun tk => by
    have hg := Heap.get?_push_size s.heap (o := { cls := .type "tuple", data := .seq vs.toArray n }) rfl
    exact q _ _ _ (.grow1 I (push_keep _ _) (push_none _) hg) (.tup (.inr rfl) ⟨_, hg, rfl, n, rfl⟩ (r.mono (fun _ z => .inl z) fun a o _ e => push_keep _ _ _ _ e))
theorem intBits_small {a : Int} (h : a.natAbs < 1073741824) : Builtin.Int.intBits a ≤ 64 := by
  unfold Builtin.Int.intBits
  split
  · (first | lia | omega)
  · have : a.natAbs.log2 < 30 := by
      rw [Nat.log2_lt (by rename_i q; intro e; exact q (by simpa using e))]; (first | lia | omega)
    (first | lia | omega)
theorem repStr_one (x : Str) : repStr x 1 = x := by
  obtain ⟨c⟩ := x
  simp [repStr]
theorem foldl_app (l : List (Array Nat)) (acc : Array Nat) : l.foldl (· ++ ·) acc = acc ++ (l.map Array.toList).flatten.toArray := by
  induction l generalizing acc with
  | nil => simp
  | cons a r ih => rw [List.foldl_cons, ih]; apply Array.toList_inj.mp; simp
theorem repStr_eq (x : Str) (n : Int) : (⟨(List.replicate n.toNat x.cps).foldl (· ++ ·) #[]⟩ : Str) = repStr x n := by
  rw [foldl_app]; simp [repStr]
theorem repStr_length (x : Str) (n : Int) : (repStr x n).length = n.toNat * x.length := by
  simp [repStr, Str.length]
theorem repStr_neg (x : Str) {n : Int} (h : n < 1) : repStr x n = Str.empty := by
  have : n.toNat = 0 := by (first | lia | omega)
  simp [repStr, this, Str.empty]
theorem foldl_appV (l : List (Array Value)) (acc : Array Value) : l.foldl (· ++ ·) acc = acc ++ (l.map Array.toList).flatten.toArray := by
  induction l generalizing acc with
  | nil => simp
  | cons a r ih => rw [List.foldl_cons, ih]; apply Array.toList_inj.mp; simp
theorem RepVs.rep {h : Heap} {vs : List Value} {l : List AV} (r : RepVs Z h vs l) : ∀ n : Nat, RepVs Z h (List.replicate n vs).flatten (List.replicate n l).flatten
  | 0 => .nil
  | n + 1 => by simp only [List.replicate_succ, List.flatten_cons]; exact r.append (r.rep n)
theorem mul_list_gives (I : Inv W Z s) {a : Addr} {vs : List Value} {l : List AV} {n : Int} {u : Tok} (hl : s.heap.IsList a vs.toArray) (r : RepVs Z s.heap vs l) (h1 : n < 16777216) (h2 : -16777216 < n) (h3 : vs.length * n.toNat ≤ 16777216) :
    Gives W A Z s (binaryOp .Mult (.ref a) (.int n u)) (.lst (List.replicate n.toNat l).flatten) := by
  obtain ⟨⟨cls, dd, data, sl⟩, ho, hc, k, hd⟩ := hl
  simp only at hc hd
  subst hc hd
  refine .newLst (vs := (List.replicate n.toNat vs).flatten) (n := 0) I (r.rep _) fun Q E' q => ?_
  refine wpAny_binaryOp_repeat_ref (T := "list") (U := "int") (by decide) ⟨_, ho, rfl⟩ (fun s' => typeIs_int s' n u) noFill_list_mul F.fills_int_mul F.slot_int_rmul repeat_list F.slot_int_index.lookup
    (call_meets F.slot_int_rmul (typeIs_int s n u) F.entry_int_rmul (F.args_int_rmul_2 _ _) (lm_int_rmul_list_any n u a vs.toArray k dd sl)
      ⟨ho, rfl, ⟨_, ho, rfl⟩, call_meets F.slot_list_mul ⟨_, ho, rfl⟩ F.entry_list_mul (F.args_list_mul_2 _ _)
        (lm_list_mul_any a vs.toArray k dd sl n u (by simp [Builtin.List.listFitsIndex]; (first | lia | omega)) (by simp only [List.size_toArray]; (first | lia | omega)) (by simp only [Builtin.List.listTooLong, sizeLine, List.size_toArray]; simp; (first | lia | omega))) ⟨ho, ?_⟩⟩)
  have e : List.foldl (fun x1 x2 => x1 ++ x2) #[] (List.replicate (if vs.toArray.isEmpty = true then 0 else n.toNat) vs.toArray) = (List.replicate n.toNat vs).flatten.toArray := by
    rw [foldl_appV]
    cases vs with
    | nil => simp
    | cons v r => simp
  rw [e]
  exact q _
theorem add_list_gives (I : Inv W Z s) {a b : Addr} {vs ws : List Value} {l m : List AV} (hl : s.heap.IsList a vs.toArray) (hb : s.heap.IsList b ws.toArray) (r : RepVs Z s.heap vs l) (r' : RepVs Z s.heap ws m) (hz : vs.length + ws.length ≤ 16777216) :
    Gives W A Z s (binaryOp .Add (.ref a) (.ref b)) (.lst (l ++ m)) := by
  obtain ⟨⟨cls, dd, data, sl⟩, ho, hc, k, hd⟩ := hl
  obtain ⟨⟨cls2, dd2, data2, sl2⟩, ho2, hc2, k2, hd2⟩ := hb
  simp only at hc hd hc2 hd2
  subst hc hd hc2 hd2
  refine .newLst (vs := vs ++ ws) (n := 0) I (r.append r') fun Q E' q => ?_
  refine concat_meets ⟨_, ho, rfl⟩ ⟨_, ho2, rfl⟩ noFill_list_add seq_list_add F.slot_list_add F.entry_list_add (F.args_list_add_2 _ _) (list_addW a b vs.toArray ws.toArray k k2 dd dd2 sl sl2 (by simpa [sizeLine] using hz)) ⟨ho, ho2, ?_⟩
  have e : vs.toArray ++ ws.toArray = (vs ++ ws).toArray := by simp
  rw [e]
  exact q _
theorem mul_str_gives (I : Inv W Z s) {x : Str} {n : Int} {t t' : Tok} (h1 : n < 16777216) (h2 : -16777216 < n) (h3 : x.length * n.toNat ≤ 16777216) : Gives W A Z s (binaryOp .Mult (.str x t) (.int n t')) (.str (repStr x n)) := by
  refine .val I fun Q E' q => P.mul_str (by rw [decide_eq_false (by (first | lia | omega)), decide_eq_false (by (first | lia | omega))]; rfl) (fun p1 p2 => ?_) (fun p1 p2 => ?_) ?_
  · have hx : (x.length : Int) * n ≤ 16777216 := by
      have hn : (n.toNat : Int) = n := by (first | lia | omega)
      have := Int.ofNat_le.mpr h3
      rw [Int.natCast_mul, hn] at this
      exact this
    have : (x.length : Int) ≤ (2 ^ 63 - 1) / n := by
      rw [Int.le_ediv_iff_mul_le (by (first | lia | omega))]; (first | lia | omega)
    (first | lia | omega)
  · unfold Builtin.Str.tooLong; exact decide_eq_false (by unfold sizeLine; (first | lia | omega))
  · split
    · rename_i hn; rw [repStr_neg x hn] at q; exact ⟨by decide, q _ _ (.str _ _)⟩
    · split
      · rename_i hn ho
        have e : repStr x n = x := by
          rcases Bool.or_eq_true_iff.mp ho with ho | ho
          · rw [show n = 1 by simpa using ho]; exact repStr_one x
          · have hx : x.cps = #[] := by simpa [Str.length] using ho
            obtain ⟨c⟩ := x
            simp at hx
            subst hx
            simp [repStr]
        rw [e] at q; exact q _ s.toks (.str _ _)
      · rw [repStr_eq]
        exact ⟨by rw [repStr_length]; unfold sizeLine; rw [Nat.mul_comm]; exact h3, q _ _ (.str _ _)⟩
theorem addA_ok (I : Inv W Z s) {a b c : AV} {va vb : Value} (ra : RepV Z s.heap va a) (rb : RepV Z s.heap vb b) (h : addA a b = some c) : Gives W A Z s (binaryOp .Add va vb) c := by
  cases a with
  | int i =>
    obtain ⟨j, hj, h⟩ := bindO h; cases h
    obtain ⟨t, rfl⟩ := ra.int'; obtain ⟨t', rfl⟩ := int?_rep hj rb
    exact .val I fun Q E' q => add_int (q _ _ (.int _ _))
  | str x =>
    obtain ⟨y, hj, h⟩ := bindO h; obtain ⟨hc, h⟩ := iteO h; cases h
    obtain ⟨t, rfl⟩ := ra.str'; obtain ⟨t', rfl⟩ := str?_rep hj rb
    exact .val I fun Q E' q => add_str (fun t' tk => q _ _ (.str _ _)) hc
  | lst x =>
    obtain ⟨y, hj, h⟩ := bindO h; obtain ⟨hc, h⟩ := iteO h; cases h
    obtain ⟨a, vs, rfl, z1, hl, rl⟩ := ra.lst'; obtain ⟨a', vs', rfl, z2, hm, rm⟩ := lst?_rep hj rb
    exact add_list_gives I hl hm rl rm (by rw [rl.length, rm.length]; exact hc)
  | _ => cases h
theorem multA_ok (I : Inv W Z s) {a b c : AV} {va vb : Value} (ra : RepV Z s.heap va a) (rb : RepV Z s.heap vb b) (h : multA a b = some c) : Gives W A Z s (binaryOp .Mult va vb) c := by
  cases a with
  | int i =>
    obtain ⟨j, hj, h⟩ := bindO h; obtain ⟨hc, h⟩ := iteO h; cases h
    obtain ⟨t, rfl⟩ := ra.int'; obtain ⟨t', rfl⟩ := int?_rep hj rb
    exact .val I fun Q E' q => mul_int (q _ _ (.int _ _)) (.of_left (intBits_small hc.1))
  | str x =>
    obtain ⟨y, hj, h⟩ := bindO h; obtain ⟨hc, h⟩ := iteO h; cases h
    obtain ⟨t, rfl⟩ := ra.str'; obtain ⟨t', rfl⟩ := int?_rep hj rb
    exact mul_str_gives I hc.1 hc.2.1 hc.2.2
  | lst x =>
    obtain ⟨y, hj, h⟩ := bindO h; obtain ⟨hc, h⟩ := iteO h; cases h
    obtain ⟨a, vs, rfl, z1, hl, rl⟩ := ra.lst'; obtain ⟨t', rfl⟩ := int?_rep hj rb
    exact mul_list_gives I hl rl hc.1 hc.2.1 (by rw [rl.length]; exact hc.2.2)
  | _ => cases h
theorem binA_ok (I : Inv W Z s) {op : Operator} {a b c : AV} {va vb : Value} (ra : RepV Z s.heap va a) (rb : RepV Z s.heap vb b) (h : binA op a b = some c) : Gives W A Z s (binaryOp op va vb) c := by
  have two : ∀ {f : Int → Int → Option AV}, (a.int? >>= fun i => b.int? >>= fun j => f i j) = some c → ∃ i j t t', va = .int i t ∧ vb = .int j t' ∧ f i j = some c := fun h => by
    obtain ⟨i, hi, h⟩ := bindO h
    obtain ⟨j, hj, h⟩ := bindO h
    obtain ⟨t, e⟩ := int?_rep hi ra
    obtain ⟨t', e'⟩ := int?_rep hj rb
    exact ⟨i, j, t, t', e, e', h⟩
  cases op with
  | Add => exact addA_ok I ra rb h
  | Mult => exact multA_ok I ra rb h
  | Sub => obtain ⟨i, j, t, t', rfl, rfl, h⟩ := two h; cases h; exact .val I fun Q E' q => sub_int (q _ _ (.int _ _))
  | FloorDiv => obtain ⟨i, j, t, t', rfl, rfl, h⟩ := two h; obtain ⟨hc, h⟩ := iteO h; cases h; exact .val I fun Q E' q => floordiv_int hc.1 (q _ _ (.int _ _)) (.inl (PyProof.noPylong_small hc.2))
  | Mod => obtain ⟨i, j, t, t', rfl, rfl, h⟩ := two h; obtain ⟨hc, h⟩ := iteO h; cases h; exact .val I fun Q E' q => mod_int' hc (q _ _ (.int _ _))
  | _ => cases h
theorem den_bin {l r : Expr} {op : Operator} {pos : Pos} {f g : Slots → Option AV} (hl : DenP W d sc l f) (hr : DenP W d sc r g) :
    DenP W d sc (.BinOp l op r pos) fun ρ => f ρ >>= fun a => g ρ >>= fun b => binA op a b := by
  intro A env Z s ρ α av R hE I L hf Q E' q
  obtain ⟨a, ha, hf⟩ := bindO hf
  obtain ⟨b, hb, hf⟩ := bindO hf
  exact wpAny_BinOp (hl A env Z s ρ α a R hE I L ha _ _ fun va s₁ Z₁ p₁ r₁ => hr A env Z₁ s₁ ρ α b R hE p₁.inv (L.step0 p₁) hb _ _ fun vb s₂ Z₂ p₂ r₂ =>
    binA_ok p₂.inv (p₂.rep0 r₁) r₂ hf _ _ fun v s₃ Z₃ p₃ r₃ => q v s₃ Z₃ (p₁.tr (p₂.tr p₃)) r₃)
end
end Mine
end
section
open PySem PySem.W PyProof.Rows PySem.SeqAt
set_option linter.unusedVariables false
namespace Mine
section
variable {W : Wd} {Z Z' Z₁ : AddrSet} {s s' s₁ : Shared} {env : Env} {sc : Scope} {ρ : Slots} {α : Str → Addr} {A : Around} {d : Nat}
def baseA : AV → Bool
  | .none => true
  | .bool _ => true
  | .int _ => true
  | .str _ => true
  | _ => false
def dat : Nat → AV → Bool
  | 0, a => baseA a
  | n + 1, a => match a with
    | .tup l => l.all (dat n)
    | .lst l => l.all (dat n)
    | a => baseA a
theorem RepVs.get2 {h : Heap} {vs ws : List Value} {l : List AV} (r : RepVs Z h vs l) (q : RepVs Z h ws l) {j : Nat} (h1 : j < vs.length) (h2 : j < ws.length) : ∃ a ∈ l, RepV Z h vs[j] a ∧ RepV Z h ws[j] a := by
  have hj : j < l.length := by rw [← r.length]; exact h1
  obtain ⟨v, e1, r1⟩ := r.get (List.getElem?_eq_getElem hj)
  obtain ⟨w, e2, r2⟩ := q.get (List.getElem?_eq_getElem hj)
  rw [List.getElem?_eq_getElem h1] at e1
  rw [List.getElem?_eq_getElem h2] at e2
  cases e1; cases e2
  exact ⟨_, List.getElem_mem hj, r1, r2⟩
theorem all_true (n : Nat) : (List.range n).all (fun _ => true) = true := by rw [List.all_eq_true]; exact fun _ _ => rfl
structure Same3 (A : Around) (s : Shared) (v w : Value) : Prop where
  eq : EqAt A s v w true
  rc : RcAt A s v w true
  ne : RcNeAt A s v w false
theorem base3 {A : Around} {a : AV} {v w : Value} (hd : baseA a = true) (r : RepV Z s.heap v a) (q : RepV Z s.heap w a) : Same3 A s v w := by
  cases a with
  | none => rw [r.none', q.none']; exact ⟨EqAt.same _, RcAt.none_none, RcNeAt.none_none⟩
  | bool b =>
    rw [r.bool', q.bool']
    have h1 := RcAt.bool_bool (A := A) (s := s) b b; have h2 := RcNeAt.bool_bool (A := A) (s := s) b b
    rw [beq_self_eq_true] at h1 h2
    exact ⟨EqAt.same _, h1, h2⟩
  | int i =>
    obtain ⟨t, rfl⟩ := r.int'; obtain ⟨u, rfl⟩ := q.int'
    have h0 := EqAt.int_int (A := A) (s := s) i t i u; have h1 := RcAt.int_int (A := A) (s := s) i t i u; have h2 := RcNeAt.int_int (A := A) (s := s) i t i u
    rw [beq_self_eq_true] at h0 h1 h2
    exact ⟨h0, h1, h2⟩
  | str i =>
    obtain ⟨t, rfl⟩ := r.str'; obtain ⟨u, rfl⟩ := q.str'
    have h0 := EqAt.str_str (A := A) (s := s) i t i u; have h1 := RcAt.str_str (A := A) (s := s) i t i u; have h2 := RcNeAt.str_str (A := A) (s := s) i t i u
    rw [beq_self_eq_true] at h0 h1 h2
    exact ⟨h0, h1, h2⟩
  | _ => cases hd
theorem tup3 {a1 a2 : Addr} {vs ws : List Value} (h1 : IsTup s.heap a1 vs.toArray) (h2 : IsTup s.heap a2 ws.toArray) (hl : vs.length = ws.length) (hu : A.units < cLine)
    (he : ∀ j, (g1 : j < vs.toArray.size) → (g2 : j < ws.toArray.size) → EqAt A.in1 s vs.toArray[j] ws.toArray[j] true) : Same3 A s (.ref a1) (.ref a2) := by
  have q1 := RcAt.tuples (A := A) (e := fun _ => true) h1 h2 hu he
  have q2 := RcNeAt.tuples (A := A) (e := fun _ => true) h1 h2 hu he
  simp only [List.size_toArray, hl, all_true, beq_self_eq_true, Bool.and_self, Bool.and_true, Nat.min_self, Bool.not_true] at q1 q2
  refine ⟨?_, q1, q2⟩
  by_cases e : a1 = a2
  · subst e; exact EqAt.same _
  · exact EqAt.of_refs e q1
theorem lst3 {a1 a2 : Addr} {vs ws : List Value} (h1 : s.heap.IsList a1 vs.toArray) (h2 : s.heap.IsList a2 ws.toArray) (hl : vs.toArray.size = ws.toArray.size) (hu : A.units < cLine)
    (he : ∀ j, (g1 : j < vs.toArray.size) → (g2 : j < ws.toArray.size) → EqAt A.in1 s vs.toArray[j] ws.toArray[j] true) : Same3 A s (.ref a1) (.ref a2) := by
  have q1 := RcAt.lists (A := A) (e := fun _ => true) h1 h2 hl hu he
  have q2 := RcNeAt.lists (A := A) (e := fun _ => true) h1 h2 hl hu he
  simp only [all_true, Bool.not_true] at q1 q2
  refine ⟨?_, q1, q2⟩
  by_cases e : a1 = a2
  · subst e; exact EqAt.same _
  · exact EqAt.of_refs e q1
theorem same3 (n : Nat) {A : Around} {a : AV} {v w : Value} (hd : dat n a = true) (r : RepV Z s.heap v a) (q : RepV Z s.heap w a) (hu : A.units + n + 1 < cLine) : Same3 A s v w := by
  induction n generalizing A a v w with
  | zero => exact base3 hd r q
  | succ n ih =>
    have el : ∀ {l : List AV} {vs ws : List Value}, l.all (dat n) = true → RepVs Z s.heap vs l → RepVs Z s.heap ws l → ∀ j, (g1 : j < vs.toArray.size) → (g2 : j < ws.toArray.size) → EqAt A.in1 s vs.toArray[j] ws.toArray[j] true := fun hd r1 r2 j g1 g2 => by
      obtain ⟨a, ha, ra, qa⟩ := r1.get2 r2 g1 g2
      exact (ih (List.all_eq_true.mp hd a ha) ra qa (by show A.units + 1 + n + 1 < cLine; (first | lia | omega))).eq
    cases a with
    | tup l =>
      obtain ⟨a1, vs, rfl, _, h1, r1⟩ := r.tup'
      obtain ⟨a2, ws, rfl, _, h2, r2⟩ := q.tup'
      exact tup3 h1 h2 (r1.length.trans r2.length.symm) (by (first | lia | omega)) (el hd r1 r2)
    | lst l =>
      obtain ⟨a1, vs, rfl, _, h1, r1⟩ := r.lst'
      obtain ⟨a2, ws, rfl, _, h2, r2⟩ := q.lst'
      exact lst3 h1 h2 (r1.length.trans r2.length.symm) (by (first | lia | omega)) (el hd r1 r2)
    | _ => refine base3 ?_ r q; exact hd
end
end Mine
end
section
open PySem PySem.W PyProof.Rows PySem.SeqAt
set_option linter.unusedVariables false
namespace Mine
section
variable {W : Wd} {Z Z' Z₁ : AddrSet} {s s' s₁ : Shared} {env : Env} {sc : Scope} {ρ : Slots} {α : Str → Addr} {A : Around} {d : Nat}
def inStr (y x : Str) : Bool := !(Builtin.Str.occurrences x y 0 x.length 1).isEmpty
def intsOf : List AV → Option (List Int)
  | [] => some []
  | .int i :: r => (intsOf r).map (i :: ·)
  | _ :: _ => none
def isNoneA : AV → Option Bool
  | .none => some true
  | .bool _ => some false
  | .int _ => some false
  | .str _ => some false
  | _ => none
def eqI (i : Int) : AV → Option Bool
  | .int j => some (i == j)
  | .str _ => some false
  | .none => some false
  | _ => none
def eqS (x : Str) : AV → Option Bool
  | .int _ => some false
  | .str y => some (x == y)
  | .none => some false
  | _ => none
def eqN : AV → Option Bool
  | .int _ => some false
  | .str _ => some false
  | .none => some true
  | _ => none
def eqB (p : Bool) : AV → Option Bool
  | .bool q => some (p == q)
  | _ => none
open Classical in
noncomputable def eqL (a : List AV) (y : AV) : Option Bool := y.lst? >>= fun b => if a = b ∧ dat 8 (.lst a) = true then some true else if a.length ≠ b.length then some false else none
open Classical in
noncomputable def sameA (a b : AV) : Option Bool := if a = b ∧ dat 8 a = true then some true else none
noncomputable def eqA : AV → AV → Option Bool
  | .int a, y => eqI a y
  | .str a, y => eqS a y
  | .bool a, y => eqB a y
  | .none, y => eqN y
  | .lst a, y => eqL a y
  | a, b => sameA a b
def inA : AV → AV → Option Bool
  | .str y, b => b.str? >>= fun x => some (inStr y x)
  | .int i, b => b.lst? >>= fun l => (intsOf l).map fun ns => decide (i ∈ ns)
  | _, _ => none
def ofNone (r : Option Bool) : AV → Option Bool
  | .none => r
  | _ => none
def int2 (a b : AV) (f : Int → Int → Bool) : Option Bool := a.int? >>= fun i => b.int? >>= fun j => some (f i j)
noncomputable def cmpA : CmpOp → AV → AV → Option Bool
  | .Eq, a, b => eqA a b
  | .NotEq, a, b => (eqA a b).map (!·)
  | .Lt, a, b => int2 a b fun a b => decide (a < b)
  | .LtE, a, b => int2 a b fun a b => decide (a ≤ b)
  | .Gt, a, b => int2 a b fun a b => decide (b < a)
  | .GtE, a, b => int2 a b fun a b => decide (b ≤ a)
  | .Is, a, b => ofNone (isNoneA a) b
  | .IsNot, a, b => ofNone ((isNoneA a).map (!·)) b
  | .In, a, b => inA a b
  | .NotIn, a, b => a.str? >>= fun y => b.str? >>= fun x => some (!inStr y x)
theorem eq_rc {Q : Value → Shared → Prop} {E' : Value → Shared → Prop} {v w : Value} {b : Bool} (h : RcAt A s v w b) (q : Q (.bool b) s) : wpAny W.M A (compareOp .Eq v w) Q E' s := h _ _ _ _ q
theorem ne_rc {Q : Value → Shared → Prop} {E' : Value → Shared → Prop} {v w : Value} {b : Bool} (h : RcNeAt A s v w b) (q : Q (.bool b) s) : wpAny W.M A (compareOp .NotEq v w) Q E' s := h _ _ _ _ q
def Rc2 (A : Around) (s : Shared) (v w : Value) (c : Bool) : Prop := RcAt A s v w c ∧ RcNeAt A s v w (!c)
theorem eqI_rc {i : Int} {t : Tok} {b : AV} {vb : Value} {c : Bool} (rb : RepV Z s.heap vb b) (h : eqI i b = some c) : Rc2 A s (.int i t) vb c := by
  cases b with
  | int j => cases h; obtain ⟨t', rfl⟩ := rb.int'; exact ⟨RcAt.int_int _ _ _ _, RcNeAt.int_int _ _ _ _⟩
  | str y => cases h; obtain ⟨t', rfl⟩ := rb.str'; exact ⟨RcAt.int_str _ _ _ _, RcNeAt.int_str _ _ _ _⟩
  | none => cases h; rw [rb.none']; exact ⟨RcAt.int_none _ _, RcNeAt.int_none _ _⟩
  | _ => cases h
theorem eqS_rc {i : Str} {t : Tok} {b : AV} {vb : Value} {c : Bool} (rb : RepV Z s.heap vb b) (h : eqS i b = some c) : Rc2 A s (.str i t) vb c := by
  cases b with
  | int j => cases h; obtain ⟨t', rfl⟩ := rb.int'; exact ⟨RcAt.str_int _ _ _ _, RcNeAt.str_int _ _ _ _⟩
  | str y => cases h; obtain ⟨t', rfl⟩ := rb.str'; exact ⟨RcAt.str_str _ _ _ _, RcNeAt.str_str _ _ _ _⟩
  | none => cases h; rw [rb.none']; exact ⟨RcAt.str_none _ _, RcNeAt.str_none _ _⟩
  | _ => cases h
theorem eqN_rc {b : AV} {vb : Value} {c : Bool} (rb : RepV Z s.heap vb b) (h : eqN b = some c) : Rc2 A s .none vb c := by
  cases b with
  | int j => cases h; obtain ⟨t', rfl⟩ := rb.int'; exact ⟨RcAt.none_int _ _, RcNeAt.none_int _ _⟩
  | str y => cases h; obtain ⟨t', rfl⟩ := rb.str'; exact ⟨RcAt.none_str _ _, RcNeAt.none_str _ _⟩
  | none => cases h; rw [rb.none']; exact ⟨RcAt.none_none, RcNeAt.none_none⟩
  | _ => cases h
theorem eqB_rc {p : Bool} {b : AV} {vb : Value} {c : Bool} (rb : RepV Z s.heap vb b) (h : eqB p b = some c) : Rc2 A s (.bool p) vb c := by
  cases b with
  | bool q => cases h; rw [rb.bool']; exact ⟨RcAt.bool_bool _ _, RcNeAt.bool_bool _ _⟩
  | _ => cases h
theorem same_rc {a : AV} {va vb : Value} (hu : A.units + 50 < cLine) (hd : dat 8 a = true) (ra : RepV Z s.heap va a) (rb : RepV Z s.heap vb a) : Rc2 A s va vb true :=
  have h := same3 8 hd ra rb (A := A) (by (first | lia | omega))
  ⟨h.rc, h.ne⟩
theorem eqL_rc {l : List AV} {b : AV} {va vb : Value} {c : Bool} (hu : A.units + 50 < cLine) (ra : RepV Z s.heap va (.lst l)) (rb : RepV Z s.heap vb b) (h : eqL l b = some c) : Rc2 A s va vb c := by
  obtain ⟨m, hm, h⟩ := bindO h
  by_cases hc : l = m ∧ dat 8 (.lst l) = true
  · rw [if_pos hc] at h; cases h
    have := lst?_eq hm
    subst this
    exact same_rc hu hc.2 ra (hc.1 ▸ rb)
  · rw [if_neg hc] at h
    obtain ⟨hl, h⟩ := iteO h; cases h
    obtain ⟨a1, vs, rfl, _, h1, r1⟩ := ra.lst'
    obtain ⟨a2, ws, rfl, _, h2, r2⟩ := lst?_rep hm rb
    have hn : (vs.toArray.size != ws.toArray.size) = true := by rw [List.size_toArray, List.size_toArray, r1.length, r2.length]; exact bne_iff_ne.mpr hl
    exact ⟨RcAt.lists_lengths h1 h2 hn (by (first | lia | omega)), RcNeAt.lists_lengths h1 h2 hn (by (first | lia | omega))⟩
theorem sameA_rc {a b : AV} {va vb : Value} {c : Bool} (hu : A.units + 50 < cLine) (ra : RepV Z s.heap va a) (rb : RepV Z s.heap vb b) (h : sameA a b = some c) : Rc2 A s va vb c := by
  by_cases hc : a = b ∧ dat 8 a = true
  · rw [sameA, if_pos hc] at h; cases h
    exact same_rc hu hc.2 ra (hc.1 ▸ rb)
  · rw [sameA, if_neg hc] at h; cases h
theorem eqA_rc {a b : AV} {va vb : Value} {c : Bool} (hu : A.units + 50 < cLine) (ra : RepV Z s.heap va a) (rb : RepV Z s.heap vb b) (h : eqA a b = some c) : RcAt A s va vb c ∧ RcNeAt A s va vb (!c) := by
  cases a with
  | int i => obtain ⟨t, rfl⟩ := ra.int'; exact eqI_rc rb h
  | str i => obtain ⟨t, rfl⟩ := ra.str'; exact eqS_rc rb h
  | none => rw [ra.none']; exact eqN_rc rb h
  | bool i => rw [ra.bool']; exact eqB_rc rb h
  | lst l => exact eqL_rc hu ra rb h
  | _ => exact sameA_rc hu ra rb h
theorem isNone_rep {a : AV} {v : Value} {b : Bool} {h : Heap} (r : RepV Z h v a) (e : isNoneA a = some b) : (v == .none) = b := by
  cases a with
  | none => cases e; rw [r.none']; rfl
  | bool => cases e; rw [r.bool']; rfl
  | int => cases e; obtain ⟨t, rfl⟩ := r.int'; rfl
  | str => cases e; obtain ⟨t, rfl⟩ := r.str'; rfl
  | _ => cases e
theorem ints_rep {h : Heap} {vs : List Value} {l : List AV} {ns : List Int} (r : RepVs Z h vs l) (e : intsOf l = some ns) : IntsAre vs ns := by
  induction l generalizing vs ns with
  | nil => cases e; rw [r.nil']; exact .nil
  | cons a l ih =>
    obtain ⟨v, ws, rfl, r, rs⟩ := r.cons'
    cases a with
    | int i =>
      obtain ⟨ns, hn, rfl⟩ := Option.map_eq_some_iff.mp e
      obtain ⟨t, rfl⟩ := r.int'
      exact .cons _ _ (ih rs hn)
    | _ => cases e
theorem in_ints {a : Addr} {vs : List Value} {ns : List Int} {i : Int} {t : Tok} {Q : Value → Shared → Prop} {E' : Value → Shared → Prop} (hl : s.heap.IsList a vs.toArray) (hi : IntsAre vs ns) (q : Q (.bool (decide (i ∈ ns))) s) :
    wpAny W.M A (compareOp .In (.int i t) (.ref a)) Q E' s := by
  have key : ∀ {vs : List Value} {ns : List Int}, IntsAre vs ns → vs.any (fun v => match v with | .int k _ => k == i | _ => false) = decide (i ∈ ns) := by
    intro vs ns h
    induction h with
    | nil => rfl
    | cons n t _ ih =>
      rw [List.any_cons, ih]
      by_cases e : n = i
      · subst e; simp
      · have e' : ¬ i = n := fun c => e c.symm
        simp [e, e']
  refine in_listAt (fun v => match v with | .int k _ => k == i | _ => false) hl (fun y hy => ?_) ?_
  · have hy' : y ∈ vs := by simpa using hy
    have : ∃ k u, y = .int k u := by
      clear hl q hy
      induction hi with
      | nil => cases hy'
      | cons n t _ ih =>
        rcases List.mem_cons.mp hy' with e | e
        · exact ⟨n, t, e⟩
        · exact ih e
    obtain ⟨k, u, rfl⟩ := this
    exact EqAt.int_int _ _ _ _
  · have := key hi
    simp only [List.any_toArray]
    rw [this]; exact q
theorem cmp_ints {op : CmpOp} {f : Int → Int → Bool} (hop : ∀ (i j : Int) (t t' : Tok) (Q : Value → Shared → Prop) (E' : Value → Shared → Prop), Q (.bool (f i j)) s → wpAny W.M A (compareOp op (.int i t) (.int j t')) Q E' s) {a b : AV} {c : Bool} {va vb : Value} (ra : RepV Z s.heap va a) (rb : RepV Z s.heap vb b) (h : int2 a b f = some c) {Q : Value → Shared → Prop} {E' : Value → Shared → Prop} (q : Q (.bool c) s) : wpAny W.M A (compareOp op va vb) Q E' s := by
  obtain ⟨i, hi, h⟩ := bindO h
  obtain ⟨j, hj, h⟩ := bindO h
  obtain ⟨t, e⟩ := int?_rep hi ra
  obtain ⟨t', e'⟩ := int?_rep hj rb
  rw [e, e']
  exact hop i j t t' Q E' (Option.some.inj h ▸ q)
theorem ofNone_rep {r : Option Bool} {b : AV} {c : Bool} {vb : Value} {h : Heap} (rb : RepV Z h vb b) (e : ofNone r b = some c) : vb = .none ∧ r = some c := by
  cases b with
  | none => exact ⟨rb.none', e⟩
  | _ => cases e
theorem inA_ok {a b : AV} {c : Bool} {va vb : Value} (ra : RepV Z s.heap va a) (rb : RepV Z s.heap vb b) (h : inA a b = some c) {Q : Value → Shared → Prop} {E' : Value → Shared → Prop} (q : Q (.bool c) s) : wpAny W.M A (compareOp .In va vb) Q E' s := by
  cases a with
  | str y =>
    obtain ⟨x, hx, h⟩ := bindO h
    obtain ⟨t, e⟩ := ra.str'; obtain ⟨t', e'⟩ := str?_rep hx rb
    rw [e, e']
    cases h
    exact in_str q
  | int i =>
    obtain ⟨l, hl, h⟩ := bindO h
    obtain ⟨ns, hn, hc⟩ := Option.map_eq_some_iff.mp h
    obtain ⟨t, e⟩ := ra.int'; obtain ⟨a, vs, e', _, hl, rl⟩ := lst?_rep hl rb
    rw [e, e']
    exact in_ints hl (ints_rep rl hn) (hc ▸ q)
  | _ => cases h
theorem cmpA_ok (hr : Room A d) (I : Inv W Z s) {op : CmpOp} {a b : AV} {c : Bool} {va vb : Value} (ra : RepV Z s.heap va a) (rb : RepV Z s.heap vb b) (h : cmpA op a b = some c) {Q : Value → Shared → Prop} {E' : Value → Shared → Prop} (q : Q (.bool c) s) :
    wpAny W.M A (compareOp op va vb) Q E' s := by
  have hu := hr.ult
  cases op with
  | Eq => exact eq_rc (eqA_rc hu ra rb h).1 q
  | NotEq =>
    obtain ⟨c', hc, e⟩ := Option.map_eq_some_iff.mp h
    exact ne_rc (eqA_rc hu ra rb hc).2 (e ▸ q)
  | Lt => exact cmp_ints (fun _ _ _ _ _ _ q => lt_int q) ra rb h q
  | LtE => exact cmp_ints (fun _ _ _ _ _ _ q => le_int q) ra rb h q
  | Gt => exact cmp_ints (fun _ _ _ _ _ _ q => gt_int q) ra rb h q
  | GtE => exact cmp_ints (fun _ _ _ _ _ _ q => ge_int q) ra rb h q
  | Is => obtain ⟨e, h⟩ := ofNone_rep rb h; rw [e]; exact is_none (by rw [isNone_rep ra h]; exact q)
  | IsNot =>
    obtain ⟨e, h⟩ := ofNone_rep rb h
    obtain ⟨c', hc, e'⟩ := Option.map_eq_some_iff.mp h
    rw [e]
    subst e'
    exact isNot_none (by rw [isNone_rep ra hc]; exact q)
  | NotIn =>
    obtain ⟨y, hy, h⟩ := bindO h
    obtain ⟨x, hx, h⟩ := bindO h
    obtain ⟨t, e⟩ := str?_rep hy ra; obtain ⟨t', e'⟩ := str?_rep hx rb
    rw [e, e']
    cases h
    exact notIn_str q
  | In => exact inA_ok ra rb h q
theorem den_cmp {l r : Expr} {op : CmpOp} {pos : Pos} {f g : Slots → Option AV} (hl : DenP W d sc l f) (hr : DenP W d sc r g) (hm : behindInMarks op r = false) :
    DenP W d sc (.Compare l [op] [r] pos) fun ρ => f ρ >>= fun a => g ρ >>= fun b => (cmpA op a b).map .bool := by
  intro A env Z s ρ α av R hE I L hf Q E' q
  obtain ⟨a, ha, hf⟩ := bindO hf
  obtain ⟨b, hb, hf⟩ := bindO hf
  obtain ⟨c, hc, rfl⟩ := Option.map_eq_some_iff.mp hf
  exact wpAny_Compare1 (hl A env Z s ρ α a R hE I L ha _ _ fun va s₁ Z₁ p₁ r₁ => hr A env Z₁ s₁ ρ α b R hE p₁.inv (L.step0 p₁) hb _ _ fun vb s₂ Z₂ p₂ r₂ =>
    cmpA_ok R p₂.inv (p₂.rep0 r₁) r₂ hc (q _ s₂ Z₂ (p₁.tr p₂) (.bool c))) hm
theorem denT_cmp {l r : Expr} {op : CmpOp} {pos : Pos} {f g : Slots → Option AV} (hl : DenP W d sc l f) (hr : DenP W d sc r g) (hm : behindInMarks op r = false) :
    DenT W d sc (.Compare l [op] [r] pos) fun ρ => f ρ >>= fun a => g ρ >>= fun b => cmpA op a b := by
  intro A env Z s ρ α av R hE I L hf Q E' q
  obtain ⟨a, ha, hf⟩ := bindO hf
  obtain ⟨b, hb, hf⟩ := bindO hf
  exact wpAny_isTrue_Compare1 (hl A env Z s ρ α a R hE I L ha _ _ fun va s₁ Z₁ p₁ r₁ => hr A env Z₁ s₁ ρ α b R hE p₁.inv (L.step0 p₁) hb _ _ fun vb s₂ Z₂ p₂ r₂ =>
    cmpA_ok R p₂.inv (p₂.rep0 r₁) r₂ hf (wpAny_truthy_bool (q s₂ Z₂ (p₁.tr p₂)))) hm
def truthA : AV → Option Bool
  | .none => some false
  | .bool b => some b
  | .int i => some (i != 0)
  | .str x => if x.length ≤ 16777216 then some (x.length != 0) else none
  | .lst l => if l.length ≤ 16777216 then some (!l.isEmpty) else none
  | _ => none
theorem truthA_ok (I : Inv W Z s) {a : AV} {v : Value} {b : Bool} (r : RepV Z s.heap v a) (h : truthA a = some b) : GivesB W A Z s (truthy v) b := by
  intro Q E' q
  cases a with
  | none => cases h; rw [r.none']; exact fun _ _ _ => q s Z (.id I)
  | bool b => cases h; rw [r.bool']; exact wpAny_truthy_bool (q s Z (.id I))
  | int i => cases h; obtain ⟨t, rfl⟩ := r.int'; exact truthy_int (q s Z (.id I))
  | str x =>
    obtain ⟨hx, h⟩ := iteO h; cases h
    obtain ⟨t, rfl⟩ := r.str'
    refine P.truthy_str (by (first | lia | omega)) ?_
    have : ((x.length : Int) != 0) = (x.length != 0) := by
      rw [Bool.eq_iff_iff]; simp
    rw [this]; exact q _ Z (.toks I _)
  | lst l =>
    obtain ⟨hl, h⟩ := iteO h; cases h
    obtain ⟨a, vs, rfl, z, hl', rl⟩ := r.lst'
    refine wpAny_truthy_list hl' (by rw [List.size_toArray, rl.length]; (first | lia | omega)) ?_
    have e : vs.toArray.isEmpty = l.isEmpty := by
      cases l with
      | nil => rw [rl.nil']; rfl
      | cons a l => obtain ⟨v, ws, rfl, _⟩ := rl.cons'; rfl
    rw [e]; exact q _ Z (.toks I _)
  | _ => cases h
theorem denT_not {x : Expr} {pos : Pos} {f : Slots → Option Bool} (hx : DenT W d sc x f) : DenT W d sc (.UnaryOp .Not x pos) fun ρ => (f ρ).map (!·) := by
  intro A env Z s ρ α av R hE I L hf Q E' q
  obtain ⟨b, hb, rfl⟩ := Option.map_eq_some_iff.mp hf
  exact wpAny_isTrue_Not (hx A env Z s ρ α b R hE I L hb _ _ fun s₁ Z₁ p₁ => q s₁ Z₁ p₁)
def DenTs (W : Wd) (d : Nat) (sc : Scope) (op : BoolOp) (es : List Expr) (f : Slots → Option Bool) : Prop :=
  ∀ (A : Around) (env : Env) (Z : AddrSet) (s : Shared) (ρ : Slots) (α : Str → Addr) (b : Bool), Room A d → EnvOk env sc → Inv W Z s → Loc W Z s.heap env ρ α → f ρ = some b → GivesB W A Z s (allTrue op es env) b
theorem denTs_and0 : DenTs W d sc .And [] fun _ => some true := by
  intro A env Z s ρ α av R hE I L hf Q E' q; cases hf; exact wpAny_allTrue_And_nil (q s Z (.id I))
theorem denTs_or0 : DenTs W d sc .Or [] fun _ => some false := by
  intro A env Z s ρ α av R hE I L hf Q E' q; cases hf; exact wpAny_allTrue_Or_nil (q s Z (.id I))
theorem denTs_and {x : Expr} {rest : List Expr} {f g : Slots → Option Bool} (hx : DenT W d sc x f) (hr : DenTs W d sc .And rest g) : DenTs W d sc .And (x :: rest) fun ρ => f ρ >>= fun b => if b = true then g ρ else some false := by
  intro A env Z s ρ α av R hE I L hf Q E' q
  obtain ⟨b, hb, hf⟩ := bindO hf
  refine wpAny_allTrue_And_cons (hx A env Z s ρ α b R hE I L hb _ _ fun s₁ Z₁ p₁ => ?_)
  cases b with
  | true => exact hr A env Z₁ s₁ ρ α av R hE p₁.inv (L.step0 p₁) hf _ _ fun s₂ Z₂ p₂ => q s₂ Z₂ (p₁.tr p₂)
  | false => cases hf; exact q s₁ Z₁ p₁
theorem denTs_or {x : Expr} {rest : List Expr} {f g : Slots → Option Bool} (hx : DenT W d sc x f) (hr : DenTs W d sc .Or rest g) : DenTs W d sc .Or (x :: rest) fun ρ => f ρ >>= fun b => if b = true then some true else g ρ := by
  intro A env Z s ρ α av R hE I L hf Q E' q
  obtain ⟨b, hb, hf⟩ := bindO hf
  refine wpAny_allTrue_Or_cons (hx A env Z s ρ α b R hE I L hb _ _ fun s₁ Z₁ p₁ => ?_)
  cases b with
  | true => cases hf; exact q s₁ Z₁ p₁
  | false => exact hr A env Z₁ s₁ ρ α av R hE p₁.inv (L.step0 p₁) hf _ _ fun s₂ Z₂ p₂ => q s₂ Z₂ (p₁.tr p₂)
theorem denT_bool {op : BoolOp} {es : List Expr} {pos : Pos} {f : Slots → Option Bool} (h : DenTs W d sc op es f) : DenT W d sc (.BoolOp op es pos) f := by
  intro A env Z s ρ α av R hE I L hf Q E' q
  exact wpAny_isTrue_BoolOp (h A env Z s ρ α av R hE I L hf _ _ q)
def DenB (W : Wd) (d : Nat) (sc : Scope) (op : BoolOp) (es : List Expr) (f : Slots → Option AV) : Prop :=
  ∀ (A : Around) (env : Env) (Z : AddrSet) (s : Shared) (ρ : Slots) (α : Str → Addr) (av : AV) (pos : Pos), Room A d → EnvOk env sc → Inv W Z s → Loc W Z s.heap env ρ α → f ρ = some av → Gives W A Z s (boolOp pos op (evalEach es env)) av
theorem denB_one {op : BoolOp} {x : Expr} {f : Slots → Option AV} (hx : DenP W d sc x f) : DenB W d sc op [x] f := by
  intro A env Z s ρ α av pos R hE I L hf
  exact hx A env Z s ρ α av R hE I L hf
theorem denB_and {x y : Expr} {rest : List Expr} {f g : Slots → Option AV} (hx : DenP W d sc x f) (hr : DenB W d sc .And (y :: rest) g) : DenB W d sc .And (x :: y :: rest) fun ρ => f ρ >>= fun a => truthA a >>= fun b => if b = true then g ρ else some a := by
  intro A env Z s ρ α av pos R hE I L hf Q E' q
  obtain ⟨a, ha, hf⟩ := bindO hf
  obtain ⟨b, hb, hf⟩ := bindO hf
  show wpAny _ _ (do let v ← eval x env; standAt pos; let t ← holding [v] (truthy v); match BoolOp.And, t with | .And, false | .Or, true => pure v | _, _ => boolOp pos .And (evalEach (y :: rest) env)) _ _ _
  refine wpAny_bind (hx A env Z s ρ α a R hE I L ha _ _ fun va s₁ Z₁ p₁ r₁ => wpAny_bind (wpAny_standAt (wpAny_bind (wpAny_holding (truthA_ok p₁.inv r₁ hb _ _ fun s₂ Z₂ p₂ => ?_)))))
  cases b with
  | true => exact hr A env Z₂ s₂ ρ α av pos R hE p₂.inv ((L.step0 p₁).step0 p₂) hf _ _ fun v s₃ Z₃ p₃ r₃ => q v s₃ Z₃ (p₁.tr (p₂.tr p₃)) r₃
  | false => cases hf; exact wpAny_pure (q va s₂ Z₂ (p₁.tr p₂) (p₂.rep0 r₁))
theorem den_bool' {op : BoolOp} {es : List Expr} {pos : Pos} {f : Slots → Option AV} (h : DenB W d sc op es f) : DenP W d sc (.BoolOp op es pos) f := by
  intro A env Z s ρ α av R hE I L hf
  show Gives W A Z s (boolOp pos op (evalEach es env)) av
  exact h A env Z s ρ α av pos R hE I L hf
theorem den_ite {t b o : Expr} {pos : Pos} {c : Slots → Option Bool} {f g : Slots → Option AV} (ht : DenT W d sc t c) (hb : DenP W d sc b f) (ho : DenP W d sc o g) :
    DenP W d sc (.IfExp t b o pos) fun ρ => c ρ >>= fun x => if x = true then f ρ else g ρ := by
  intro A env Z s ρ α av R hE I L hf Q E' q
  obtain ⟨x, hx, hf⟩ := bindO hf
  refine wpAny_IfExp (ht A env Z s ρ α x R hE I L hx _ _ fun s₁ Z₁ p₁ => ?_)
  cases x with
  | true => exact hb A env Z₁ s₁ ρ α av R hE p₁.inv (L.step0 p₁) hf _ _ fun v s₂ Z₂ p₂ r₂ => q v s₂ Z₂ (p₁.tr p₂) r₂
  | false => exact ho A env Z₁ s₁ ρ α av R hE p₁.inv (L.step0 p₁) hf _ _ fun v s₂ Z₂ p₂ r₂ => q v s₂ Z₂ (p₁.tr p₂) r₂
theorem den_not {x : Expr} {pos : Pos} {f : Slots → Option AV} (hx : DenP W d sc x f) : DenP W d sc (.UnaryOp .Not x pos) fun ρ => f ρ >>= fun a => (truthA a).map fun b => .bool (!b) := by
  intro A env Z s ρ α av R hE I L hf Q E' q
  obtain ⟨a, ha, hf⟩ := bindO hf
  obtain ⟨b, hb, rfl⟩ := Option.map_eq_some_iff.mp hf
  exact wpAny_UnaryOp (hx A env Z s ρ α a R hE I L ha _ _ fun va s₁ Z₁ p₁ r₁ => not_value (truthA_ok p₁.inv r₁ hb _ _ fun s₂ Z₂ p₂ => q _ s₂ Z₂ (p₁.tr p₂) (.bool _)))
def negA (a : AV) : Option AV := a.int? >>= fun i => some (.int (-i))
theorem den_neg {x : Expr} {pos : Pos} {f : Slots → Option AV} (hx : DenP W d sc x f) : DenP W d sc (.UnaryOp .USub x pos) fun ρ => f ρ >>= negA := by
  intro A env Z s ρ α av R hE I L hf Q E' q
  obtain ⟨a, ha, hf⟩ := bindO hf
  refine wpAny_UnaryOp (hx A env Z s ρ α a R hE I L ha _ _ fun va s₁ Z₁ p₁ r₁ => ?_)
  obtain ⟨i, hi, hf⟩ := bindO hf
  cases hf; obtain ⟨t, rfl⟩ := int?_rep hi r₁; exact neg_int (q _ _ Z₁ (p₁.tr (.toks p₁.inv _)) (.int _ _))
end
end Mine
end
section
set_option linter.unusedVariables false
namespace Mine
section
variable {W : Wd} {Z Z' Z₁ : AddrSet} {s s' s₁ : Shared} {env : Env} {sc : Scope} {ρ : Slots} {α : Str → Addr} {A : Around} {d : Nat}
def itemL {β : Type} (l : List β) (k : Int) : Option β := if 0 ≤ k then l[k.toNat]? else if -(l.length : Int) ≤ k then l[(k + l.length).toNat]? else none
def sign1 (c : Nat) : Str := ⟨#[c]⟩
def idxA : AV → AV → Option AV
  | .lst l, i => i.int? >>= fun k => if -1000000000 < k ∧ k < 1000000000 then itemL l k else none
  | .tup l, i => i.int? >>= fun k => if -1000000000 < k ∧ k < 1000000000 then itemL l k else none
  | .str x, i => i.int? >>= fun k => if -1000000000 < k ∧ k < 1000000000 then (itemL x.cps.toList k).map fun c => .str (sign1 c) else none
  | _, _ => none
theorem idxA_lst (l : List AV) (k : Int) : idxA (.lst l) (.int k) = if -1000000000 < k ∧ k < 1000000000 then itemL l k else none := rfl
theorem itemL_seq {β : Type} {l : List β} {k : Int} {b : β} (h : itemL l k = some b) : ∃ j, seqIndex? k l.length = some j ∧ l[j]? = some b := by
  unfold itemL at h
  unfold seqIndex?
  split at h
  · rename_i h0
    have hlt : k.toNat < l.length := by
      rcases Nat.lt_or_ge k.toNat l.length with e | e
      · exact e
      · rw [List.getElem?_eq_none e] at h; cases h
    refine ⟨k.toNat, ?_, h⟩
    have n0 : ¬ k < 0 := by (first | lia | omega)
    simp only [n0, if_false]
    have : (decide (0 ≤ k) && decide (k < (l.length : Int))) = true := by simp; (first | lia | omega)
    rw [if_pos this]
  · split at h
    · rename_i h0 h1
      have n0 : k < 0 := by (first | lia | omega)
      have hlt : (k + l.length).toNat < l.length := by (first | lia | omega)
      refine ⟨(k + l.length).toNat, ?_, h⟩
      simp only [n0, if_true]
      have : (decide (0 ≤ k + (l.length : Int)) && decide (k + (l.length : Int) < (l.length : Int))) = true := by simp; (first | lia | omega)
      rw [if_pos this]
    · cases h
theorem list_item_gives (I : Inv W Z s) {a : Addr} {vs : List Value} {l : List AV} {k : Int} {t : Tok} {av : AV} (hl : s.heap.IsList a vs.toArray) (rl : RepVs Z s.heap vs l) (hk : -1000000000 < k ∧ k < 1000000000) (h : itemL l k = some av) :
    ∃ v, RepV Z s.heap v av ∧ ∀ (Q : Value → Shared → Prop) E', Q v s → wpAny W.M A (getItem (.ref a) (.int k t)) Q E' s := by
  unfold itemL at h
  split at h
  · rename_i h0
    obtain ⟨v, hv, r⟩ := rl.get h
    exact ⟨v, r, fun Q E' q => wpAny_getItem_list hl h0 (by (first | lia | omega)) (by simpa using hv) q⟩
  · split at h
    · rename_i h0 h1
      obtain ⟨v, hv, r⟩ := rl.get h
      refine ⟨v, r, fun Q E' q => wpAny_getItem_list_neg hl (by (first | lia | omega)) (by simp only [List.size_toArray, rl.length]; exact h1) (by (first | lia | omega)) ?_ q⟩
      simp only [List.size_toArray, rl.length]
      simpa using hv
    · cases h
theorem idxA_ok (I : Inv W Z s) {value slice : Expr} {o i r : AV} {vo vi : Value} (ro : RepV Z s.heap vo o) (ri : RepV Z s.heap vi i) (h : idxA o i = some r)
    (hs : ∀ o i, subscripted slice false o i = operate [o, i] (getItem o i)) : Gives W A Z s (subscriptTail value slice vo vi) r := by
  intro Q E' q
  cases o with
  | lst l =>
    obtain ⟨k, hk', h⟩ := bindO h; obtain ⟨hk, h⟩ := iteO h
    obtain ⟨a, vs, rfl, z, hl, rl⟩ := ro.lst'; obtain ⟨t, rfl⟩ := int?_rep hk' ri
    obtain ⟨v, rv, g⟩ := list_item_gives (W := W) (A := A) I hl rl hk h
    exact tail_any hl.typeIs slot_list_getitem.lookup (g _ _ (q v s Z (.id I) rv)) (hs _ _)
  | tup l =>
    obtain ⟨k, hk', h⟩ := bindO h; obtain ⟨hk, h⟩ := iteO h
    obtain ⟨a, vs, rfl, z, ht, rl⟩ := ro.tup'; obtain ⟨t, rfl⟩ := int?_rep hk' ri
    obtain ⟨j, hj, hx⟩ := itemL_seq h
    obtain ⟨v, hv, rv⟩ := rl.get hx
    exact tail_any (T := "tuple") (let ⟨o, e, c, _⟩ := ht; ⟨o, e, c⟩) slot_tuple_getitem.lookup (PyProof.Rows.getItem_tuple ht (by (first | lia | omega)) (by (first | lia | omega)) (by rw [List.size_toArray, rl.length]; exact hj) (by rw [List.getElem?_toArray]; exact hv) (q v s Z (.id I) rv)) (hs _ _)
  | str x =>
    obtain ⟨k, hk', h⟩ := bindO h; obtain ⟨hk, h⟩ := iteO h
    obtain ⟨t, rfl⟩ := ro.str'; obtain ⟨u, rfl⟩ := int?_rep hk' ri
    obtain ⟨c, hc, rfl⟩ := Option.map_eq_some_iff.mp h
    obtain ⟨j, hj, hx⟩ := itemL_seq hc
    have e : Txt.charAt x k = some c := by
      unfold Txt.charAt
      rw [Array.length_toList] at hj
      show Option.bind (seqIndex? k x.cps.size) _ = _
      rw [hj]; rw [Array.getElem?_toList] at hx; exact hx
    have hf : fitsSsize k = true := by unfold fitsSsize; simp; (first | lia | omega)
    obtain ⟨T, id, hl, hT, hg⟩ := SB.item (prog := W.prog) (w := W.w) (A := A) (E := E') (s := s) (t := t) (u := u) hf (by rw [e]; rfl) (q _ _ Z (.toks I _) (by unfold Txt.item; rw [e]; exact .str _ _))
    exact tail_any hT hl hg (hs _ _)
  | _ => cases h
theorem den_idx {value slice : Expr} {pos : Pos} {f g : Slots → Option AV} (hv : DenP W d sc value f) (hi : DenP W d sc slice g) (hs : ∀ o i, subscripted slice false o i = operate [o, i] (getItem o i)) :
    DenP W d sc (.Subscript value slice pos) fun ρ => f ρ >>= fun o => g ρ >>= fun i => idxA o i := by
  intro A env Z s ρ α av R hE I L hf Q E' q
  obtain ⟨a, ha, hf⟩ := bindO hf
  obtain ⟨b, hb, hf⟩ := bindO hf
  exact Subscript_ (hv A env Z s ρ α a R hE I L ha _ _ fun va s₁ Z₁ p₁ r₁ => hi A env Z₁ s₁ ρ α b R hE p₁.inv (L.step0 p₁) hb _ _ fun vb s₂ Z₂ p₂ r₂ =>
    idxA_ok p₂.inv (p₂.rep0 r₁) r₂ hf hs _ _ fun v s₃ Z₃ p₃ r₃ => q v s₃ Z₃ (p₁.tr (p₂.tr p₃)) r₃)
-- slices
def cutL {β : Type} (l : List β) (lo hi : Option Int) : List β := (l.drop (lo.elim 0 (clipAt l.length))).take (hi.elim l.length (clipAt l.length) - lo.elim 0 (clipAt l.length))
def cutS (x : Str) (lo hi : Option Int) : Str := ⟨(cutL x.cps.toList lo hi).toArray⟩
def asInt : AV → Option Int
  | .int i => some i
  | _ => none
def cutA : AV → Option Int → Option Int → Option AV
  | .lst l, lo, hi => if l.length ≤ 16777216 then some (.lst (cutL l lo hi)) else none
  | .str x, lo, hi => if x.length ≤ 16777216 then some (.str (cutS x lo hi)) else none
  | _, _, _ => none
def DenPart (W : Wd) (d : Nat) (sc : Scope) (x : Option Expr) (g : Slots → Option (Option Int)) : Prop :=
  ∀ (A : Around) (env : Env) (Z : AddrSet) (s : Shared) (ρ : Slots) (α : Str → Addr) (oi : Option Int), Room A d → EnvOk env sc → Inv W Z s → Loc W Z s.heap env ρ α → g ρ = some oi →
    ∀ (Q : Value → Shared → Prop) E', (∀ v s' Z', Step W .none Z s Z' s' → IsPart v oi → Q v s') → wpAny W.M A (evalPart x env) Q E' s
theorem part_none : DenPart W d sc none fun _ => some none := by
  intro A env Z s ρ α oi R hE I L hf Q E' q; cases hf; exact wpAny_pure (q _ s Z (.id I) .none)
theorem part_some {e : Expr} {f : Slots → Option AV} (h : DenP W d sc e f) : DenPart W d sc (some e) fun ρ => f ρ >>= fun a => (asInt a).map some := by
  intro A env Z s ρ α oi R hE I L hf Q E' q
  obtain ⟨a, ha, hf⟩ := bindO hf
  obtain ⟨i, hi, rfl⟩ := Option.map_eq_some_iff.mp hf
  refine h A env Z s ρ α a R hE I L ha _ _ fun v s₁ Z₁ p r => q v s₁ Z₁ p ?_
  unfold asInt at hi
  split at hi
  · cases hi; cases r; exact .int _ _
  · cases hi
theorem part_of {v : Value} {oi : Option Int} (p : IsPart v oi) : ∃ l : Option (Int × Tok), v = partValue l ∧ l.map (·.1) = oi := by
  cases p with
  | none => exact ⟨none, rfl, rfl⟩
  | int i t => exact ⟨some (i, t), rfl, rfl⟩
theorem strSlice_plain (x : Str) (lo hi : Option Int) : ((Builtin.Str.strSliceIndices lo hi 1 x.length).filterMap (x.cps[·]?)) = cutL x.cps.toList lo hi := by
  have h : Builtin.Str.strSliceIndices lo hi 1 x.length = sliceRange (sliceBounds lo hi none x.length).1 (sliceBounds lo hi none x.length).2.1 (sliceBounds lo hi none x.length).2.2 := by
    unfold Builtin.Str.strSliceIndices sliceBounds
    rfl
  rw [h, sliceBounds_plain]
  simp only [sliceRange_one, pick_run]
  unfold cutL
  simp [Str.length]
theorem cutL_length_le {β : Type} (l : List β) (lo hi : Option Int) : (cutL l lo hi).length ≤ l.length := by
  unfold cutL; exact Nat.le_trans (List.length_take_le' _ _) (by rw [List.length_drop]; exact Nat.sub_le _ _)
theorem RepVs.cut {h : Heap} {vs : List Value} {l : List AV} (r : RepVs Z h vs l) (lo hi : Option Int) : RepVs Z h (cutL vs lo hi) (cutL l lo hi) := by
  unfold cutL; rw [r.length]; exact (r.drop _).take _
theorem cut_all {x : Str} {lo hi : Option Int} (hlen : (Builtin.Str.strSliceIndices lo hi 1 x.length).length = x.length) : cutS x lo hi = x := by
  have hb : Builtin.Str.strSliceIndices lo hi 1 x.length = (List.range (hi.elim x.length (clipAt x.length) - lo.elim 0 (clipAt x.length))).map (lo.elim 0 (clipAt x.length) + ·) := by
    have h : Builtin.Str.strSliceIndices lo hi 1 x.length = sliceRange (sliceBounds lo hi none x.length).1 (sliceBounds lo hi none x.length).2.1 (sliceBounds lo hi none x.length).2.2 := by
      unfold Builtin.Str.strSliceIndices sliceBounds; rfl
    rw [h, sliceBounds_plain]
    simp only [sliceRange_one]
  rw [hb, List.length_map, List.length_range] at hlen
  have hcl : ∀ i, clipAt x.length i ≤ x.length := fun i => Int.toNat_le.mpr (Int.max_le.mpr ⟨Int.natCast_nonneg _, Int.min_le_right _ _⟩)
  have hhi : hi.elim x.length (clipAt x.length) ≤ x.length := by
    cases hi with
    | none => exact Nat.le_refl _
    | some i => exact hcl i
  have hL : x.cps.toList.length = x.length := rfl
  unfold cutS cutL
  rw [hL]
  generalize hi.elim x.length (clipAt x.length) = u at *
  generalize lo.elim 0 (clipAt x.length) = l at *
  have h0 : l = 0 ∨ x.length = 0 := by
    rcases Nat.eq_zero_or_pos l with h | h
    · exact .inl h
    · rcases Nat.eq_zero_or_pos u with hu | hu
      · exact .inr (by rw [← hlen, hu, Nat.zero_sub])
      · exact absurd hlen (Nat.ne_of_lt (Nat.lt_of_lt_of_le (Nat.sub_lt hu h) hhi))
  rcases h0 with h0 | h0
  · rw [h0, List.drop_zero, List.take_of_length_le (by rw [hL]; (first | lia | omega))]
  · have : x.cps.toList = [] := List.length_eq_zero_iff.mp (hL.trans h0)
    rw [this, List.drop_nil, List.take_nil, ← this]
theorem cut_gives (I : Inv W Z s) {o r : AV} {vo : Value} {lo hi : Option Int} {sl : Addr} {vl vu : Value} {value slice : Expr} (ro : RepV Z s.heap vo o) (h : cutA o lo hi = some r) (pl : IsPart vl lo) (pu : IsPart vu hi) (hsl : s.heap.IsSliceOf sl vl vu .none)
    (hs : ∀ o i, subscripted slice false o i = operate [i, o] (getItem o i)) : Gives W A Z s (subscriptTail value slice vo (.ref sl)) r := by
  cases o with
  | lst l =>
    obtain ⟨hz, h⟩ := iteO h; cases h
    obtain ⟨a, vs, rfl, z, hl, rl⟩ := ro.lst'
    have e : slicePick vs.toArray lo hi none = (cutL vs lo hi).toArray := by
      rw [slicePick_plain]; unfold cutL; simp
    refine .newLst (n := 0) I (rl.cut lo hi) fun Q E' q => tail_any hl.typeIs slot_list_getitem.lookup (wpAny_getItem_list_slice hl hsl pl pu .none (by intro c; cases c) ?_ (by rw [List.size_toArray, rl.length, sizeLine]; exact hz)) (hs _ _)
    rw [e]; exact q s.toks
  | str x =>
    obtain ⟨hz, h⟩ := iteO h; cases h
    obtain ⟨t, rfl⟩ := ro.str'
    obtain ⟨l, rfl, e1⟩ := part_of pl
    obtain ⟨u, rfl, e2⟩ := part_of pu
    refine .val I fun Q E' q => tail_any (T := "str") (typeIs_str s x t) F.slot_str_getitem.lookup (wpAny_getItem_str_slice (st := none) hsl rfl ?_) (hs _ _)
    unfold sliceMade slicePicked
    rw [e1, e2]
    simp only [Option.map_none, Option.getD_none]
    rw [strSlice_plain x lo hi]
    split
    · rename_i hc
      rw [cut_all (by simpa using hc)] at q
      exact q _ s.toks (.str _ _)
    · refine ⟨?_, q _ _ (.str _ _)⟩
      have : (cutL x.cps.toList lo hi).length ≤ x.length := cutL_length_le x.cps.toList lo hi
      exact Nat.le_trans this hz
  | _ => cases h
theorem den_cut {value : Expr} {lo hi : Option Expr} {p pos : Pos} {f : Slots → Option AV} {g h : Slots → Option (Option Int)} (hv : DenP W d sc value f) (hl : DenPart W d sc lo g) (hh : DenPart W d sc hi h) :
    DenP W d sc (.Subscript value (.Slice lo hi none p) pos) fun ρ => f ρ >>= fun o => g ρ >>= fun i => h ρ >>= fun j => cutA o i j := by
  intro A env Z s ρ α av R hE I L hf Q E' q
  obtain ⟨a, ha, hf⟩ := bindO hf
  obtain ⟨i, hi, hf⟩ := bindO hf
  obtain ⟨j, hj, hf⟩ := bindO hf
  refine Subscript_ (hv A env Z s ρ α a R hE I L ha _ _ fun va s₁ Z₁ p₁ r₁ => wpAny_Slice (hl A env Z₁ s₁ ρ α i R hE p₁.inv (L.step0 p₁) hi _ _ fun vl s₂ Z₂ p₂ q₂ =>
    hh A env Z₂ s₂ ρ α j R hE p₂.inv ((L.step0 p₁).step0 p₂) hj _ _ fun vu s₃ Z₃ p₃ q₃ => ?_))
  have p₄ : Step W .none Z₃ s₃ Z₃ { s₃ with heap := s₃.heap.push { cls := .type "slice", data := .fields #[vl, vu, .none] } } := .grow p₃.inv (tk := s₃.toks) (push_keep _ _)
  refine wpAny_pure ?_
  exact cut_gives p₄.inv (p₄.rep0 (p₃.rep0 (p₂.rep0 r₁))) hf q₂ q₃ (Heap.IsSliceOf.new _ _ _ _) (fun _ _ => rfl) _ _ fun v s₅ Z₅ p₅ r₅ => q v s₅ Z₅ (p₁.tr (p₂.tr (p₃.tr (p₄.tr p₅)))) r₅
def DenPs (W : Wd) (d : Nat) (sc : Scope) (es : List Expr) (f : Slots → Option (List AV)) : Prop :=
  ∀ (A : Around) (env : Env) (Z : AddrSet) (s : Shared) (ρ : Slots) (α : Str → Addr) (l : List AV), Room A d → EnvOk env sc → Inv W Z s → Loc W Z s.heap env ρ α → f ρ = some l →
    ∀ (pos : Pos) (Q : List Value → Shared → Prop) E', (∀ vs s' Z', Step W .none Z s Z' s' → RepVs Z' s'.heap vs l → Q vs s') → wpAny W.M A (spliced (backTo pos (starEach es env))) Q E' s
theorem denPs_nil : DenPs W d sc [] fun _ => some [] := by
  intro A env Z s ρ α l R hE I L hf pos Q E' q; cases hf; exact wpAny_items_nil (q [] s Z (.id I) .nil)
theorem denPs_cons {e : Expr} {rest : List Expr} {f : Slots → Option AV} {g : Slots → Option (List AV)} (he : DenP W d sc e f) (hr : DenPs W d sc rest g) (hs : ∀ env, starEach (e :: rest) env = (false, eval e env) :: starEach rest env) :
    DenPs W d sc (e :: rest) fun ρ => f ρ >>= fun a => g ρ >>= fun l => some (a :: l) := by
  intro A env Z s ρ α l R hE I L hf pos Q E' q
  obtain ⟨a, ha, hf⟩ := bindO hf
  obtain ⟨m, hm, hf⟩ := bindO hf
  cases hf
  exact wpAny_items_cons (he A env Z s ρ α a R hE I L ha _ _ fun v s₁ Z₁ p₁ r₁ => hr A env Z₁ s₁ ρ α m R hE p₁.inv (L.step0 p₁) hm pos _ _ fun vs s₂ Z₂ p₂ r₂ => q _ s₂ Z₂ (p₁.tr p₂) (.cons (p₂.rep0 r₁) r₂)) (hs env)
theorem den_list {es : List Expr} {pos : Pos} {f : Slots → Option (List AV)} (h : DenPs W d sc es f) : DenP W d sc (.List es pos) fun ρ => f ρ >>= fun l => if l.length ≤ 1000000 then some (.lst l) else none := by
  intro A env Z s ρ α av R hE I L hf Q E' q
  obtain ⟨l, hl, hf⟩ := bindO hf
  split at hf
  · cases hf
    refine List_ (h A env Z s ρ α l R hE I L hl pos _ _ fun vs s₁ Z₁ p₁ r₁ => ?_)
    refine (Gives.newLst (n := 0) p₁.inv r₁ fun Q E' q => wpAny_newObj_type (q _) ?_) _ _ fun v s₂ Z₂ p₂ r₂ => q v s₂ Z₂ (p₁.tr p₂) r₂
    show vs.toArray.size ≤ sizeLine
    rw [List.size_toArray, r₁.length]; unfold sizeLine; (first | lia | omega)
  · cases hf
theorem den_tuple {es : List Expr} {k : Nat} {pos : Pos} {f : Slots → Option (List AV)} (h : DenPs W d sc es f) : DenP W d sc (.Tuple es k pos) fun ρ => f ρ >>= fun l => if l.length ≤ 1000000 then some (.tup l) else none := by
  intro A env Z s ρ α av R hE I L hf Q E' q
  obtain ⟨l, hl, hf⟩ := bindO hf
  split at hf
  · cases hf
    refine Tuple_ (h A env Z s ρ α l R hE I L hl pos _ _ fun vs s₁ Z₁ p₁ r₁ => ?_)
    refine (Gives.newTup (n := 0) p₁.inv r₁ fun Q E' q => wpAny_newObj_type (q _) ?_) _ _ fun v s₂ Z₂ p₂ r₂ => q v s₂ Z₂ (p₁.tr p₂) r₂
    show vs.toArray.size ≤ sizeLine
    rw [List.size_toArray, r₁.length]; unfold sizeLine; (first | lia | omega)
  · cases hf
end
end Mine
end
section
set_option linter.unusedVariables false
namespace Mine
section
variable {W : Wd} {Z Z' Z₁ : AddrSet} {s s' s₁ : Shared} {env : Env} {sc : Scope} {ρ : Slots} {α : Str → Addr} {A : Around} {d : Nat}
def FSpec (W : Wd) (d : Nat) (f : Value) (F : List AV → Option AV) : Prop :=
  ∀ (A : Around) (Z : AddrSet) (s : Shared) (vals : List Value) (args : List AV) (av : AV), Room A d → Inv W Z s → RepVs Z s.heap vals args → F args = some av → Gives W A Z s (call f vals) av
theorem RepVs.one {h : Heap} {vals : List Value} {a : AV} (r : RepVs Z h vals [a]) : ∃ v, vals = [v] ∧ RepV Z h v a := by
  cases r with | cons r1 r2 => cases r2; exact ⟨_, rfl, r1⟩
theorem RepVs.two {h : Heap} {vals : List Value} {a b : AV} (r : RepVs Z h vals [a, b]) : ∃ v w, vals = [v, w] ∧ RepV Z h v a ∧ RepV Z h w b := by
  cases r with | cons r1 r2 => obtain ⟨w, rfl, r⟩ := r2.one; exact ⟨_, w, rfl, r1, r⟩
def KeepOk (W : Wd) (f : Value) : Prop := ∀ h, W.K.In h → ∃ k, (k = Keeper.frame ∨ k = Keeper.machine ∨ k = Keeper.boundFrame) ∧ Looks W.M h (keeperOf f) k
theorem keep_builtin (id : String) : KeepOk W (.builtin id) := fun _ _ => ⟨.machine, .inr (.inl rfl), .of_pure rfl⟩
theorem keep_type (T : String) : KeepOk W (.type T) := fun _ _ => ⟨.machine, .inr (.inl rfl), .of_pure rfl⟩
theorem keep_K {f : Value} (h : keepIn W.K f = true) : KeepOk W f := fun g X => keeps_K h g X
theorem evalArgs_ns {M : Model} {E' : Value → Shared → Prop} {f : Value} {args : List (Bool × Sem Value)} {Q : Args → Shared → Prop} (hn : args.any (·.1) = false)
    (h : wpAny M A (spliced args) (fun vs s' => Q ⟨vs, []⟩ s') E' s) : wpAny M A (evalArgs f true args []) Q E' s := by
  cases args with
  | nil =>
    unfold evalArgs
    show wpAny M A (spliced [] >>= _) Q E' s
    refine wpAny_bind (wpAny_mono h (fun vs s' h' => wpAny_bind (wpAny_pure ?_)) fun _ _ x => x)
    refine wpAny_holding ?_
    exact wpAny_bind (wpAny_pure (wpAny_bind (wpAny_pure (wpAny_pure h'))))
  | cons x r =>
    obtain ⟨b, x⟩ := x
    have hb : b = false := by
      cases b with
      | false => rfl
      | true => simp at hn
    subst hb
    exact Calls.evalArgs_plain h
theorem callWith_den {f : Value} {first : List Value} {pos : Pos} {es : List Expr} {fs : Slots → Option (List AV)} {l : List AV} (hk : KeepOk W f) (ha : DenPs W d sc es fs) (hn : ∀ env pos, (backTo pos (starEach es env)).any (·.1) = false)
    (R : Room A d) (hE : EnvOk env sc) (I : Inv W Z s) (L : Loc W Z s.heap env ρ α) (hl : fs ρ = some l) {Q : Value → Shared → Prop} {E' : Value → Shared → Prop}
    (q : ∀ vs s₁ Z₁, Step W .none Z s Z₁ s₁ → RepVs Z₁ s₁.heap vs l → wpAny W.M A (call f (first ++ vs)) Q E' s₁) :
    wpAny W.M A (callWith pos f first (backTo pos (starEach es env)) []) Q E' s := by
  refine callWith_of (P := W.K.In) (by rw [hn]; rfl) hk (evalArgs_ns (hn _ _) (ha A env Z s ρ α l R hE I L hl pos _ _ fun vs s₁ Z₁ p r => ⟨p.inv.kin, q vs s₁ Z₁ p r⟩))
theorem den_call {x : Str} {np pos : Pos} {es : List Expr} {v : Value} {fs : Slots → Option (List AV)} {F : List AV → Option AV} (hg : W.Glob x v) (hk : sc.names.lookup x = some .globalImplicit) (h1 : (x == ("__debug__" : Str)) = false)
    (hko : KeepOk W v) (ha : DenPs W d sc es fs) (hn : ∀ env pos, (backTo pos (starEach es env)).any (·.1) = false) (hF : FSpec W d v F) : DenP W d sc (.Call (.Name x np) es [] pos) fun ρ => fs ρ >>= F := by
  intro A env Z s ρ α av R hE I L hf Q E' q
  obtain ⟨l, hl, hf⟩ := bindO hf
  show wpAny _ _ (do callWith pos (← eval (.Name x np) env) [] (backTo pos (starEach es env)) (backToKw pos (keywordEach [] env))) _ _ _
  refine wpAny_bind (load_glob hE I hg hk h1 (callWith_den hko ha hn R hE I L hl fun vs s₁ Z₁ p r => hF A Z₁ s₁ vs l av R p.inv r hf _ _ fun v s₂ Z₂ p₂ r₂ => q v s₂ Z₂ (p.tr p₂) r₂))
-- built-in functions
def arg1 (l : List AV) (f : AV → Option AV) : Option AV := match l with | [a] => f a | _ => none
def arg2 (l : List AV) (f : AV → AV → Option AV) : Option AV := match l with | [a, b] => f a b | _ => none
theorem arg1_rep {h : Heap} {vals : List Value} {l : List AV} {f : AV → Option AV} {c : AV} (e : arg1 l f = some c) (r : RepVs Z h vals l) : ∃ a v, vals = [v] ∧ RepV Z h v a ∧ f a = some c := by
  cases l with
  | nil => cases e
  | cons a l =>
    cases l with
    | nil => obtain ⟨v, ws, rfl, r1, rs⟩ := r.cons'; rw [rs.nil']; exact ⟨a, v, rfl, r1, e⟩
    | cons => cases e
theorem arg2_rep {h : Heap} {vals : List Value} {l : List AV} {f : AV → AV → Option AV} {c : AV} (e : arg2 l f = some c) (r : RepVs Z h vals l) : ∃ a b v w, vals = [v, w] ∧ RepV Z h v a ∧ RepV Z h w b ∧ f a b = some c := by
  cases l with
  | nil => cases e
  | cons a l =>
    cases l with
    | nil => cases e
    | cons b l =>
      cases l with
      | nil => obtain ⟨v, ws, rfl, r1, rs⟩ := r.cons'; obtain ⟨w, ws, rfl, r2, rs⟩ := rs.cons'; rw [rs.nil']; exact ⟨a, b, v, w, rfl, r1, r2, e⟩
      | cons => cases e
def len1 : AV → Option AV
  | .str x => if x.length ≤ 16777216 then some (.int x.length) else none
  | .lst l => if l.length ≤ 16777216 then some (.int l.length) else none
  | _ => none
def lenF (l : List AV) : Option AV := arg1 l len1
theorem spec_len : FSpec W d (.builtin "len") lenF := by
  intro A Z s vals args av R I r h
  obtain ⟨a, v, rfl, r1, h⟩ := arg1_rep h r
  cases a with
  | str x =>
    obtain ⟨hx, h⟩ := iteO h; cases h
    obtain ⟨t, rfl⟩ := r1.str'
    exact .val I fun Q E' q => len_str (by (first | lia | omega)) (q _ _ (.int _ _))
  | lst l =>
    obtain ⟨hx, h⟩ := iteO h; cases h
    obtain ⟨a, vs, rfl, z, hl, rl⟩ := r1.lst'
    have e : vs.toArray.size = l.length := rl.length
    refine .val I fun Q E' q => len_list hl (by (first | lia | omega)) ?_
    rw [e]
    exact q _ _ (.int _ _)
  | _ => cases h
def absF (l : List AV) : Option AV := arg1 l fun a => a.int? >>= fun i => some (.int (if i < 0 then -i else i))
theorem spec_abs : FSpec W d (.builtin "abs") absF := by
  intro A Z s vals args av R I r h
  obtain ⟨a, v, rfl, r1, h⟩ := arg1_rep h r
  obtain ⟨i, hi, h⟩ := bindO h
  cases h
  obtain ⟨t, rfl⟩ := int?_rep hi r1
  exact .val I fun Q E' q => call_abs_int fun u tk => q _ _ (.int _ _)
def ints2 (l : List AV) (f : Int → Int → Int) : Option AV := arg2 l fun a b => a.int? >>= fun i => b.int? >>= fun j => some (.int (f i j))
theorem ints2_rep {h : Heap} {vals : List Value} {l : List AV} {f : Int → Int → Int} {c : AV} (e : ints2 l f = some c) (r : RepVs Z h vals l) : ∃ i j t u, vals = [.int i t, .int j u] ∧ c = .int (f i j) := by
  obtain ⟨a, b, v, w, rfl, r1, r2, h⟩ := arg2_rep e r
  obtain ⟨i, hi, h⟩ := bindO h
  obtain ⟨j, hj, h⟩ := bindO h
  obtain ⟨t, rfl⟩ := int?_rep hi r1
  obtain ⟨u, rfl⟩ := int?_rep hj r2
  exact ⟨i, j, t, u, rfl, (Option.some.inj h).symm⟩
def maxF (l : List AV) : Option AV := ints2 l fun a b => if b > a then b else a
def minF (l : List AV) : Option AV := ints2 l fun a b => if b < a then b else a
theorem spec_max : FSpec W d (.builtin "max") maxF := by
  intro A Z s vals args av R I r h Q E' q
  obtain ⟨a, b, t, u, rfl, rfl⟩ := ints2_rep h r
  refine max_two_ints R.handled fun h' tk hk => ?_
  have p : Step W .none Z s Z { s with heap := h', toks := tk } := .grow I hk
  by_cases hc : b > a
  · rw [if_pos hc]; rw [if_pos hc] at q; exact q _ _ Z p (.int _ _)
  · rw [if_neg hc]; rw [if_neg hc] at q; exact q _ _ Z p (.int _ _)
theorem spec_min : FSpec W d (.builtin "min") minF := by
  intro A Z s vals args av R I r h Q E' q
  obtain ⟨a, b, t, u, rfl, rfl⟩ := ints2_rep h r
  refine min_two_ints R.handled fun h' tk hk => ?_
  have p : Step W .none Z s Z { s with heap := h', toks := tk } := .grow I hk
  by_cases hc : b < a
  · rw [if_pos hc]; rw [if_pos hc] at q; exact q _ _ Z p (.int _ _)
  · rw [if_neg hc]; rw [if_neg hc] at q; exact q _ _ Z p (.int _ _)
-- methods of str
def strArg : AV → Option Str
  | .str x => some x
  | _ => none
theorem den_meth_str {o : Expr} {name : Str} {apos pos : Pos} {es : List Expr} {f : Slots → Option AV} {fs : Slots → Option (List AV)} {id : String} {F : List AV → Option AV} (ho : DenP W d sc o f)
    (hbase : ∀ env, attributeBase o name env (eval o env) = eval o env)
    (hfew : ∀ env, ((backTo pos (starEach es env)).all (fun x => !x.1) && (backToKw pos (keywordEach [] env)).all (fun x => x.1.isSome) && decide (es.length + ([] : List Keyword).length + (if ([] : List Keyword).isEmpty then 0 else 1) < 30)) = true)
    (hline : (apos.endLine == pos.line) = true) (slot : Slot "str" name id) (hty : typeOf (.builtin id) = pure (.type "method_descriptor")) (ha : DenPs W d sc es fs) (hn : ∀ env pos, (backTo pos (starEach es env)).any (·.1) = false)
    (hF : FSpec W d (.builtin id) F) : DenP W d sc (.Call (.Attribute o name apos) es [] pos) fun ρ => f ρ >>= fun a => strArg a >>= fun x => fs ρ >>= fun l => F (.str x :: l) := by
  intro A env Z s ρ α av R hE I L hf Q E' q
  obtain ⟨a, ha', hf⟩ := bindO hf
  obtain ⟨x, hx, hf'⟩ := bindO hf
  obtain ⟨l, hl, hf''⟩ := bindO hf'
  have : a = .str x := by unfold strArg at hx; split at hx <;> cases hx; rfl
  subst this
  refine wpAny_Call_method (hbase env) (hfew env) hline PySem.F.plainAttrs_str slot hty (ho A env Z s ρ α _ R hE I L ha' _ _ fun ov s₁ Z₁ p₁ r₁ => ?_)
  cases r₁
  rename_i t
  refine ⟨typeIs_str _ _ _, fun a e => (by cases e), ?_⟩
  exact callWith_den (first := [.str x t]) (keep_builtin id) ha hn R hE p₁.inv (L.step0 p₁) hl fun vs s₂ Z₂ p₂ r₂ => hF A Z₂ s₂ (.str x t :: vs) (.str x :: l) av R p₂.inv (.cons (.str x t) r₂) hf'' _ _ fun v s₃ Z₃ p₃ r₃ => q v s₃ Z₃ (p₁.tr (p₂.tr p₃)) r₃
def countF (l : List AV) : Option AV := arg2 l fun a b => a.str? >>= fun x => b.str? >>= fun y => some (.int (Txt.count x y))
theorem strs2_rep {h : Heap} {vals : List Value} {l : List AV} {f : Str → Str → Option AV} {c : AV} (e : (arg2 l fun a b => a.str? >>= fun x => b.str? >>= fun y => f x y) = some c) (r : RepVs Z h vals l) : ∃ x y t u, vals = [.str x t, .str y u] ∧ f x y = some c := by
  obtain ⟨a, b, v, w, rfl, r1, r2, h⟩ := arg2_rep e r
  obtain ⟨i, hi, h⟩ := bindO h
  obtain ⟨j, hj, h⟩ := bindO h
  obtain ⟨t, rfl⟩ := str?_rep hi r1
  obtain ⟨u, rfl⟩ := str?_rep hj r2
  exact ⟨i, j, t, u, rfl, h⟩
theorem spec_count : FSpec W d (.builtin "str.count") countF := by
  intro A Z s vals args av R I r h
  obtain ⟨x, y, t, u, rfl, h⟩ := strs2_rep h r
  cases h
  exact .val I fun Q E' q => SC.count (q _ _ (.int _ _))
theorem RepVs.strs {h : Heap} : ∀ l : List (Str × Tok), RepVs Z h (strValues l) (l.map fun x => .str x.1)
  | [] => .nil
  | (x, t) :: r => .cons (.str x t) (RepVs.strs r)
def splitF (l : List AV) : Option AV := arg2 l fun a b => a.str? >>= fun x => b.str? >>= fun y => if y.length ≠ 0 ∧ x.length ≤ 16777216 ∧ (Builtin.Str.partsBetween x (Builtin.Str.occurrences x y 0 x.length (x.length + 1)) y.length).length ≤ 16777216 then some (.lst ((Txt.split x y).map .str)) else none
theorem spec_split : FSpec W d (.builtin "str.split") splitF := by
  intro A Z s vals args av R I r h Q E' q
  obtain ⟨x, y, t, u, rfl, h⟩ := strs2_rep h r
  obtain ⟨⟨hy, hz, hz2⟩, h⟩ := iteO h
  cases h
  have hy' : (y.length == 0) = false := by simpa using hy
  cases h1 : (decide (x.length < y.length) || decide (Builtin.Str.strKind x < Builtin.Str.strKind y))
  · cases hf : (Builtin.Str.occurrences x y 0 x.length (x.length + 1)).isEmpty
    · have e : Txt.split x y = Builtin.Str.partsBetween x (Builtin.Str.occurrences x y 0 x.length (x.length + 1)) y.length := (if_neg (ne_true_of_eq_false h1)).trans (if_neg (ne_true_of_eq_false hf))
      rw [e] at q
      refine (Gives.newLst (A := A) (l := (Builtin.Str.partsBetween x (Builtin.Str.occurrences x y 0 x.length (x.length + 1)) y.length).map .str) (n := 0) I ?_ fun Q E' q => call_meets F.slot_str_split (typeIs_str _ _ _) F.entry_str_split (F.args_str_split_2 _ _) (meets_str_split_sep x y t u h1 hy' hf hz hz2) (q _)) _ _ q
      rw [strsFrom_eq]
      have := RepVs.strs (Z := Z) (h := s.heap) (numbered s.toks (Builtin.Str.partsBetween x (Builtin.Str.occurrences x y 0 x.length (x.length + 1)) y.length))
      have e2 : ∀ l : List (Str × Tok), (l.map fun x => AV.str x.1) = (l.map (·.1)).map .str := fun l => by rw [List.map_map]; rfl
      rw [e2, numbered_texts] at this
      exact this
    · have e : Txt.split x y = [x] := (if_neg (ne_true_of_eq_false h1)).trans (if_pos hf)
      rw [e] at q
      exact (Gives.newLst (A := A) (l := [.str x]) (n := 0) I (.cons (.str x t) .nil) fun Q E' q => call_meets F.slot_str_split (typeIs_str _ _ _) F.entry_str_split (F.args_str_split_2 _ _) (meets_str_split_not_found x y t u h1 hy' hf) (q s.toks)) _ _ q
  · have e : Txt.split x y = [x] := if_pos h1
    rw [e] at q
    exact (Gives.newLst (A := A) (l := [.str x]) (n := 0) I (.cons (.str x t) .nil) fun Q E' q => call_meets F.slot_str_split (typeIs_str _ _ _) F.entry_str_split (F.args_str_split_2 _ _) (meets_str_split_cannot_occur x y t u h1) (q s.toks)) _ _ q
end
end Mine
end
section
set_option linter.unusedVariables false
namespace Mine
section
variable {W : Wd} {Z Z' Z₁ : AddrSet} {s s' s₁ : Shared} {env : Env} {sc : Scope} {ρ ρ' : Slots} {α α' : Str → Addr} {A : Around} {d : Nat}
theorem Loc.swap {y : Str} {l : OL} {l' : List AV} {vs' : List Value} (L : Loc W Z s.heap env ρ α) (hx : ρ y = some (.own l)) (p : Step W (.addrs (· = α y)) Z s Z' s') (hz : ¬ Z' (α y)) (hp : s'.heap.PlainList (α y) vs'.toArray) (r : RepVs Z' s'.heap vs' l') :
    FStep W env Z s ρ α Z' s' (ρ.set y (.own ⟨l.place, l'⟩)) α := by
  have fb : FOwn env ρ α (α y) := .inr (.inr ⟨y, l, hx, rfl⟩)
  have kz : ∀ c o, Z c → s.heap.get? c = some o → s'.heap.get? c = some o := fun c o z e => p.keep c o (fun q => L.nz _ fb (by rw [← show c = α y from q]; exact z)) e
  obtain ⟨m, ns, hv⟩ := L.ns
  obtain ⟨n₀, vs₀, hn₀⟩ : ∃ n vs, s.heap.get? (α y) = some { cls := .type "list", data := .seq vs n } := by
    obtain ⟨v, _, _, vs, ⟨n, hn⟩, _⟩ := hv y _ hx
    exact ⟨n, _, hn⟩
  have hloc : env.locals ≠ α y := fun q => by
    obtain ⟨o, es, ep, e, dd, _⟩ := ns
    rw [q, hn₀] at e; cases e; cases dd
  have hcell : ∀ c w, s.heap.IsCell c w → c ≠ α y := fun c w hc q => by
    obtain ⟨o, e, dd⟩ := hc
    rw [q, hn₀] at e; cases e; cases dd
  have hfo : ∀ b, FOwn env (ρ.set y (.own ⟨l.place, l'⟩)) α b → FOwn env ρ α b := by
    rintro b (rfl | ⟨z, hz⟩ | ⟨z, m, hz, rfl⟩)
    · exact .inl rfl
    · exact .inr (.inl ⟨z, hz⟩)
    · unfold Slots.set at hz
      by_cases e : z = y
      · rw [e]; exact fb
      · rw [if_neg e] at hz; exact .inr (.inr ⟨z, m, hz, rfl⟩)
  have sub : ∀ z m, (ρ.set y (.own ⟨l.place, l'⟩)) z = some (.own m) → ∃ m', ρ z = some (.own m') ∧ m.place = m'.place := fun z m hz => by
    unfold Slots.set at hz
    by_cases e : z = y
    · rw [if_pos e] at hz; cases hz; rw [e]; exact ⟨l, hx, rfl⟩
    · rw [if_neg e] at hz; exact ⟨m, hz, rfl⟩
  refine ⟨p.mono (fun a h => .inl (by rw [show a = α y from h]; exact fb)) fun _ h => h.elim, fun b f => .inl (hfo b f), ⟨⟨m, ?_, fun z sv hz => ?_⟩, fun b f z => ?_, fun b f => L.nb b (hfo b f), fun z m b hz hb => ?_, fun x z a b hx hz e => ?_, fun z c hc => ?_, L.cinj⟩⟩
  · obtain ⟨o, es, ep, e, rest⟩ := ns
    exact ⟨o, es, ep, p.keep _ _ (fun q => hloc q) e, rest⟩
  · unfold Slots.set at hz
    have am : ∀ v, At s.heap env m z v → At s'.heap env m z v := fun v a => a.mono fun w c o hc e => by
      obtain ⟨w, o', e', dd⟩ := L.cell w c hc
      exact p.keep c o (fun q => hcell c w ⟨o', e', dd⟩ q) e
    by_cases e : z = y
    · rw [if_pos e] at hz
      cases hz
      obtain ⟨v, a, hv', _⟩ := hv y _ hx
      subst e
      exact ⟨v, am v a, hv', vs', hp, r⟩
    · rw [if_neg e] at hz
      obtain ⟨v, a, rv⟩ := hv z sv hz
      refine ⟨v, am v a, ?_⟩
      cases sv with
      | val av => exact rv.mono p.zsub kz
      | own l'' =>
        obtain ⟨e1, vs, ⟨n, hn⟩, rs⟩ := rv
        exact ⟨e1, vs, ⟨n, p.keep _ _ (fun q => e (L.inj z y l'' l hz hx q)) hn⟩, rs.mono p.zsub kz⟩
  · by_cases hb : b = α y
    · exact hz (hb ▸ z)
    · rcases p.znew b z with h | h | h
      · exact L.nz b (hfo b f) h
      · exact hb h
      · obtain ⟨o, e⟩ := L.alive (hfo b f); rw [h] at e; cases e
  · obtain ⟨m1, h1, h2⟩ := sub z m hz
    exact L.fix z m1 b h1 (h2 ▸ hb)
  · obtain ⟨m1, h1, _⟩ := sub x a hx
    obtain ⟨m2, h2, _⟩ := sub z b hz
    exact L.inj x z m1 m2 h1 h2 e
  · obtain ⟨w, o, e, dd⟩ := L.cell z c hc; exact ⟨w, o, p.keep c o (fun q => hcell c w ⟨o, e, dd⟩ q) e, dd⟩
theorem Loc.upd {x : Str} {l : OL} {l' : List AV} {vs' : List Value} {h' : Heap} {tk : Nat} (I : Inv W Z s) (L : Loc W Z s.heap env ρ α) (hx : ρ x = some (.own l)) (hs : Heap.SameBut (α x) s.heap h') (hp : h'.PlainList (α x) vs'.toArray) (r : RepVs Z s.heap vs' l') :
    FStep W env Z s ρ α Z { s with heap := h', toks := tk } (ρ.set x (.own ⟨l.place, l'⟩)) α :=
  have fb : FOwn env ρ α (α x) := .inr (.inr ⟨x, l, hx, rfl⟩)
  have p : Step W (.addrs (· = α x)) Z s Z { s with heap := h', toks := tk } := store_step I L fb hs
  L.swap hx p (L.nz _ fb) hp (p.reps (fun b z q => L.nz _ fb (by rw [← show b = α x from q]; exact z)) r)
def freeze (x : Str) (ρ : Slots) : Slots := match ρ x with
  | some (.own l) => ρ.set x (.val (.lst l.items))
  | _ => ρ
theorem Loc.freeze (x : Str) (I : Inv W Z s) (L : Loc W Z s.heap env ρ α) : ∃ Z', FStep W env Z s ρ α Z' s (freeze x ρ) α := by
  unfold Mine.freeze
  split
  · rename_i l hx
    have fb : FOwn env ρ α (α x) := .inr (.inr ⟨x, l, hx, rfl⟩)
    obtain ⟨m, ns, hv⟩ := L.ns
    obtain ⟨v, a, hv', vs, ⟨n, hn⟩, rs⟩ := hv x _ hx
    have hloc : env.locals ≠ α x := fun q => by
      obtain ⟨o, es, ep, e, dd, _⟩ := ns
      rw [q, hn] at e; cases e; cases dd
    have hcell : ∀ c w, s.heap.IsCell c w → c ≠ α x := fun c w hc q => by
      obtain ⟨o, e, dd⟩ := hc
      rw [q, hn] at e; cases e; cases dd
    have hfo : ∀ b, FOwn env (ρ.set x (.val (.lst l.items))) α b → FOwn env ρ α b ∧ b ≠ α x := by
      rintro b (rfl | ⟨y, hy⟩ | ⟨y, m, hy, rfl⟩)
      · exact ⟨.inl rfl, hloc⟩
      · obtain ⟨w, hw⟩ := L.cell y _ hy; exact ⟨.inr (.inl ⟨y, hy⟩), hcell _ w hw⟩
      · unfold Slots.set at hy
        by_cases e : y = x
        · rw [if_pos e] at hy; cases hy
        · rw [if_neg e] at hy; exact ⟨.inr (.inr ⟨y, m, hy, rfl⟩), fun q => e (L.inj y x m l hy hx q)⟩
    have sub : ∀ y m, (ρ.set x (.val (.lst l.items))) y = some (.own m) → ρ y = some (.own m) := fun y m hy => by
      unfold Slots.set at hy
      by_cases e : y = x
      · rw [if_pos e] at hy; cases hy
      · rwa [if_neg e] at hy
    refine ⟨fun b => Z b ∨ b = α x, ⟨⟨I.ok, I.base, I.xs, fun b z => z.elim (I.zin b) fun e => ⟨_, e ▸ hn⟩, I.os, I.bare⟩, fun _ _ _ e => e, fun _ z => .inl z, fun b z => z.elim .inl fun e => .inr (.inl (e ▸ fb)), fun _ _ _ e => e⟩, fun b f => .inl (hfo b f).1,
      ⟨⟨m, ns, fun y sv hy => ?_⟩, fun b f z => z.elim (L.nz b (hfo b f).1) (hfo b f).2, fun b f => L.nb b (hfo b f).1, fun y m b hy hb => L.fix y m b (sub y m hy) hb, fun y z a b hy hz e => L.inj y z a b (sub y a hy) (sub z b hz) e, L.cell, L.cinj⟩⟩
    unfold Slots.set at hy
    by_cases e : y = x
    · rw [if_pos e] at hy
      cases hy
      subst e
      exact ⟨v, a, by rw [hv']; exact .lst (.inr rfl) ⟨_, hn, rfl, n, rfl⟩ (rs.mono (fun _ z => .inl z) fun _ _ _ e => e)⟩
    · rw [if_neg e] at hy
      obtain ⟨v, a, rv⟩ := hv y sv hy
      refine ⟨v, a, ?_⟩
      cases sv with
      | val av => exact rv.mono (fun _ z => .inl z) fun _ _ _ e => e
      | own l'' => obtain ⟨e1, vs, hn, rs⟩ := rv; exact ⟨e1, vs, hn, rs.mono (fun _ z => .inl z) fun _ _ _ e => e⟩
  · exact ⟨Z, .id I L⟩
inductive AFlow where
  | next | brk | cont
  | ret (v : AV)
def FlowRep (Z : AddrSet) (h : Heap) : Flow → AFlow → Prop
  | .next, .next => True
  | .brk, .brk => True
  | .cont, .cont => True
  | .ret v, .ret a => RepV Z h v a
  | _, _ => False
theorem flow_cases {Z : AddrSet} {h : Heap} {P : Flow → AFlow → Prop} {f : Flow} {fl : AFlow} (r : FlowRep Z h f fl) (h1 : P .next .next) (h2 : P .brk .brk) (h3 : P .cont .cont) (h4 : ∀ v a, RepV Z h v a → P (.ret v) (.ret a)) : P f fl := by
  cases fl <;> cases f <;> first | exact r.elim | assumption | exact h4 _ _ r
def Run (W : Wd) (A : Around) (env : Env) (Z : AddrSet) (s : Shared) (ρ : Slots) (α : Str → Addr) (t : Sem Flow) (fl : AFlow) (ρ' : Slots) : Prop :=
  ∀ (Q : Flow → Shared → Prop) (E' : Value → Shared → Prop), (∀ f s' Z' α', FStep W env Z s ρ α Z' s' ρ' α' → FlowRep Z' s'.heap f fl → Q f s') → wpAny W.M A t Q E' s
def DenS (W : Wd) (d : Nat) (sc : Scope) (st : Stmt) (F : Slots → Option (AFlow × Slots)) : Prop :=
  ∀ (A : Around) (env : Env) (Z : AddrSet) (s : Shared) (ρ : Slots) (α : Str → Addr) (fl : AFlow) (ρ' : Slots), Room A d → EnvOk env sc → Inv W Z s → Loc W Z s.heap env ρ α → F ρ = some (fl, ρ') → Run W A env Z s ρ α (exec st env) fl ρ'
def DenSs (W : Wd) (d : Nat) (sc : Scope) (sts : List Stmt) (F : Slots → Option (AFlow × Slots)) : Prop :=
  ∀ (A : Around) (env : Env) (Z : AddrSet) (s : Shared) (ρ : Slots) (α : Str → Addr) (fl : AFlow) (ρ' : Slots), Room A d → EnvOk env sc → Inv W Z s → Loc W Z s.heap env ρ α → F ρ = some (fl, ρ') → Run W A env Z s ρ α (execs sts env) fl ρ'
theorem dens_nil : DenSs W d sc [] fun ρ => some (.next, ρ) := by
  intro A env Z s ρ α fl ρ' R hE I L hf Q E' q
  cases hf
  exact wpAny_execs_nil (q .next s Z α (.id I L) trivial)
def thenA (G : Slots → Option (AFlow × Slots)) : AFlow × Slots → Option (AFlow × Slots)
  | (.next, ρ) => G ρ
  | r => some r
theorem dens_cons {st : Stmt} {rest : List Stmt} {F G : Slots → Option (AFlow × Slots)} (h : DenS W d sc st F) (hr : DenSs W d sc rest G) : DenSs W d sc (st :: rest) fun ρ => F ρ >>= thenA G := by
  intro A env Z s ρ α fl ρ' R hE I L hf Q E' q
  obtain ⟨⟨fl₁, ρ₁⟩, h₁, hf⟩ := bindO hf
  refine wpAny_execs_cons (h A env Z s ρ α fl₁ ρ₁ R hE I L h₁ _ _ fun f s₁ Z₁ α₁ p₁ r₁ => ?_)
  clear h₁
  revert hf
  apply flow_cases r₁
  · exact fun hf => hr A env Z₁ s₁ ρ₁ α₁ fl ρ' R hE p₁.step.inv p₁.loc hf _ _ fun f s₂ Z₂ α₂ p₂ r₂ => q f s₂ Z₂ α₂ (p₁.trans p₂) r₂
  · intro hf; cases hf; exact q _ s₁ Z₁ α₁ p₁ trivial
  · intro hf; cases hf; exact q _ s₁ Z₁ α₁ p₁ trivial
  · intro v a r hf; cases hf; exact q _ s₁ Z₁ α₁ p₁ r
theorem dens_freeze (x : Str) {sts : List Stmt} {F : Slots → Option (AFlow × Slots)} (h : DenSs W d sc sts F) : DenSs W d sc sts fun ρ => F (freeze x ρ) := by
  intro A env Z s ρ α fl ρ' R hE I L hf Q E' q
  obtain ⟨Z₁, p⟩ := L.freeze x I
  exact h A env Z₁ s (freeze x ρ) α fl ρ' R hE p.step.inv p.loc hf _ _ fun f s₂ Z₂ α₂ p₂ r₂ => q f s₂ Z₂ α₂ (p.trans p₂) r₂
theorem den_return {e : Expr} {pos : Pos} {f : Slots → Option AV} (h : DenP W d sc e f) : DenS W d sc (.Return (some e) pos) fun ρ => f ρ >>= fun a => some (.ret a, ρ) := by
  intro A env Z s ρ α fl ρ' R hE I L hf Q E' q
  obtain ⟨a, ha, hf⟩ := bindO hf
  cases hf
  exact wpAny_Return_some (h A env Z s ρ α a R hE I L ha _ _ fun v s₁ Z₁ p r => q (.ret v) s₁ Z₁ α (.pure L p) r)
theorem den_return0 {pos : Pos} : DenS W d sc (.Return none pos) fun ρ => some (.ret .none, ρ) := by
  intro A env Z s ρ α fl ρ' R hE I L hf Q E' q; cases hf
  exact wpAny_Return_none (q (.ret .none) s Z α (.id I L) .none)
theorem den_if {test : Expr} {body orelse : List Stmt} {pos : Pos} {c : Slots → Option Bool} {F G : Slots → Option (AFlow × Slots)} (ht : DenT W d sc test c) (hb : DenSs W d sc body F) (ho : DenSs W d sc orelse G) :
    DenS W d sc (.If test body orelse pos) fun ρ => c ρ >>= fun b => if b = true then F ρ else G ρ := by
  intro A env Z s ρ α fl ρ' R hE I L hf Q E' q
  obtain ⟨b, hb', hf⟩ := bindO hf
  refine wpAny_If (ht A env Z s ρ α b R hE I L hb' _ _ fun s₁ Z₁ p₁ => ?_)
  cases b with
  | true => exact hb A env Z₁ s₁ ρ α fl ρ' R hE p₁.inv (L.step0 p₁) hf _ _ fun f s₂ Z₂ α₂ p₂ r₂ => q f s₂ Z₂ α₂ ((FStep.pure L p₁).trans p₂) r₂
  | false => exact ho A env Z₁ s₁ ρ α fl ρ' R hE p₁.inv (L.step0 p₁) hf _ _ fun f s₂ Z₂ α₂ p₂ r₂ => q f s₂ Z₂ α₂ ((FStep.pure L p₁).trans p₂) r₂
theorem Loc.storeV {x : Str} {v : Value} {av : AV} (I : Inv W Z s) (L : Loc W Z s.heap env ρ α) (hE : EnvOk env sc) (hk : sc.names.lookup x = some .local ∨ sc.names.lookup x = some .cell) (r : RepV Z s.heap v av)
    {Q : Unit → Shared → Prop} {E' : Value → Shared → Prop} (h : ∀ s' α', FStep W env Z s ρ α Z s' (ρ.set x (.val av)) α' → Q () s') : wpAny W.M A (storeName env x v) Q E' s :=
  L.store (sv := .val av) (a := α x) I hE hk r (fun l e => by cases e) fun s' p fo l => h s' _ ⟨p, fun b f => (fo b f).elim .inl (fun ⟨⟨l, e⟩, _⟩ => by cases e), l⟩
theorem den_assign {x : Str} {p pos : Pos} {e : Expr} {f : Slots → Option AV} (h : DenP W d sc e f) (hk : sc.names.lookup x = some .local ∨ sc.names.lookup x = some .cell) (hs : ∀ env, swapsWith e (some (.Name x p)) pos.line env = pure false) :
    DenS W d sc (.Assign [.Name x p] e pos) fun ρ => f ρ >>= fun a => some (.next, ρ.set x (.val a)) := by
  intro A env Z s ρ α fl ρ' R hE I L hf Q E' q
  obtain ⟨a, ha, hf⟩ := bindO hf
  cases hf
  exact wpAny_Assign_Name (h A env Z s ρ α a R hE I L ha _ _ fun v s₁ Z₁ p₁ r₁ => (L.step0 p₁).storeV p₁.inv hE hk r₁ fun s₂ α₂ p₂ => q .next s₂ Z₁ α₂ ((FStep.pure L p₁).trans p₂) trivial) (hs env)
def augA (op : Operator) (a b : AV) : Option AV := match op with
  | .Add => (match a with
    | .int a => b.int? >>= fun b => some (.int (a + b))
    | .str x => b.str? >>= fun y => if x.length + y.length ≤ 16777216 then some (.str (x ++ y)) else none
    | _ => none)
  | _ => none
theorem augA_ok (I : Inv W Z s) {op : Operator} {a b c : AV} {va vb : Value} (ra : RepV Z s.heap va a) (rb : RepV Z s.heap vb b) (h : augA op a b = some c) : Gives W A Z s (inplaceOp op va vb) c := by
  cases op with
  | Add =>
    cases a with
    | int i =>
      obtain ⟨j, hj, h⟩ := bindO h; cases h
      obtain ⟨t, rfl⟩ := ra.int'; obtain ⟨t', rfl⟩ := int?_rep hj rb
      exact .val I fun Q E' q => iadd_int (q _ _ (.int _ _))
    | str x =>
      obtain ⟨y, hj, h⟩ := bindO h; obtain ⟨hc, h⟩ := iteO h; cases h
      obtain ⟨t, rfl⟩ := ra.str'; obtain ⟨t', rfl⟩ := str?_rep hj rb
      exact .val I fun Q E' q => iadd_str (fun t' tk => q _ _ (.str _ _)) hc
    | _ => cases h
  | _ => cases h
theorem den_aug {x : Str} {p pos : Pos} {op : Operator} {e : Expr} {f : Slots → Option AV} (h : DenP W d sc e f) (hk : sc.names.lookup x = some .local ∨ sc.names.lookup x = some .cell) (hn : (x == ("__classdict__" : Str)) = false) :
    DenS W d sc (.AugAssign (.Name x p) op e pos) fun ρ => getV ρ x >>= fun a => f ρ >>= fun b => augA op a b >>= fun c => some (.next, ρ.set x (.val c)) := by
  intro A env Z s ρ α fl ρ' R hE I L hf Q E' q
  obtain ⟨a, ha, hf⟩ := bindO hf
  obtain ⟨b, hb, hf⟩ := bindO hf
  obtain ⟨c, hc, hf⟩ := bindO hf
  cases hf
  refine wpAny_AugAssign_Name (L.load hE (getV_eq ha) (fun va ra => h A env Z s ρ α b R hE I L hb _ _ fun vb s₁ Z₁ p₁ r₁ => augA_ok p₁.inv (p₁.rep0 ra) r₁ hc _ _ fun v s₂ Z₂ p₂ r₂ =>
    ((L.step0 p₁).step0 p₂).storeV p₂.inv hE hk r₂ fun s₃ α₃ p₃ => q .next s₃ Z₂ α₃ ((FStep.pure L (p₁.tr p₂)).trans p₃) trivial) hn)
end
end Mine
end
section
set_option linter.unusedVariables false
namespace Mine
section
variable {W : Wd} {Z Z' Z₁ : AddrSet} {s s' s₁ : Shared} {env : Env} {sc : Scope} {ρ ρ' : Slots} {α α' : Str → Addr} {A : Around} {d : Nat}
-- lists of the frame's own
def GivesO (W : Wd) (A : Around) (Z : AddrSet) (s : Shared) (t : Sem Value) (l : List AV) : Prop :=
  ∀ (Q : Value → Shared → Prop) (E' : Value → Shared → Prop), (∀ a vs s' Z', Step W .none Z s Z' s' → s.heap.get? a = none → ¬ Z' a → s'.heap.PlainList a vs.toArray → RepVs Z' s'.heap vs l → Q (.ref a) s') → wpAny W.M A t Q E' s
def DenO (W : Wd) (d : Nat) (sc : Scope) (e : Expr) (f : Slots → Option (List AV)) : Prop :=
  ∀ (A : Around) (env : Env) (Z : AddrSet) (s : Shared) (ρ : Slots) (α : Str → Addr) (l : List AV), Room A d → EnvOk env sc → Inv W Z s → Loc W Z s.heap env ρ α → f ρ = some l → GivesO W A Z s (eval e env) l
theorem GivesO.newLst (I : Inv W Z s) {t : Sem Value} {vs : List Value} {l : List AV} {n : Nat} (r : RepVs Z s.heap vs l)
    (h : ∀ (Q : Value → Shared → Prop) E', (∀ tk, Q (.ref s.heap.objs.size) { s with heap := s.heap.push { cls := .type "list", data := .seq vs.toArray n }, toks := tk }) → wpAny W.M A t Q E' s) : GivesO W A Z s t l :=
  fun Q E' q => h Q E' fun tk => by
    have hg := Heap.get?_push_size s.heap (o := { cls := .type "list", data := .seq vs.toArray n }) rfl
    exact q _ _ _ _ (.grow I (push_keep _ _)) (push_none _) (I.fresh_z (push_none _)) ⟨n, hg⟩ (r.mono (fun _ z => z) fun a o _ e => push_keep _ _ _ _ e)
theorem deno_list {es : List Expr} {pos : Pos} {f : Slots → Option (List AV)} (h : DenPs W d sc es f) : DenO W d sc (.List es pos) fun ρ => f ρ >>= fun l => if l.length ≤ 1000000 then some l else none := by
  intro A env Z s ρ α l' R hE I L hf Q E' q
  obtain ⟨l, hl, hf⟩ := bindO hf
  split at hf
  · cases hf
    refine List_ (h A env Z s ρ α _ R hE I L hl pos _ _ fun vs s₁ Z₁ p₁ r₁ => ?_)
    refine (GivesO.newLst (n := 0) p₁.inv r₁ fun Q E' q => wpAny_newObj_type (q _) ?_) _ _ fun a vs s₂ Z₂ p₂ hn hz hp r₂ => q a vs s₂ Z₂ (p₁.tr p₂) ((p₁.none_back hn).resolve_left id) hz hp r₂
    show vs.toArray.size ≤ sizeLine
    rw [List.size_toArray, r₁.length]; unfold sizeLine; (first | lia | omega)
  · cases hf
theorem den_ofO {e : Expr} {f : Slots → Option (List AV)} (h : DenO W d sc e f) : DenP W d sc e fun ρ => (f ρ).map .lst := by
  intro A env Z s ρ α av R hE I L hf Q E' q
  obtain ⟨l, hl, rfl⟩ := Option.map_eq_some_iff.mp hf
  refine h A env Z s ρ α l R hE I L hl _ _ fun a vs s' Z' p hn hz hp r => ?_
  obtain ⟨n, hp⟩ := hp
  refine q _ s' (fun b => Z' b ∨ b = a) ⟨⟨p.inv.ok, p.inv.base, p.inv.xs, fun b z => z.elim (p.inv.zin b) fun e => ⟨_, e ▸ hp⟩, p.inv.os, p.inv.bare⟩, p.keep, fun b z => .inl (p.zsub b z), fun b z => z.elim (p.znew b) fun e => .inr (.inr (e ▸ hn)), p.gens⟩
    (.lst (.inr rfl) ⟨_, hp, rfl, n, rfl⟩ (r.mono (fun _ z => .inl z) fun _ _ _ e => e))
theorem den_assignO {x : Str} {p pos : Pos} {e : Expr} {f : Slots → Option (List AV)} (h : DenO W d sc e f) (hk : sc.names.lookup x = some .local ∨ sc.names.lookup x = some .cell) (hs : ∀ env, swapsWith e (some (.Name x p)) pos.line env = pure false) :
    DenS W d sc (.Assign [.Name x p] e pos) fun ρ => f ρ >>= fun l => some (.next, ρ.set x (.own ⟨none, l⟩)) := by
  intro A env Z s ρ α fl ρ' R hE I L hf Q E' q
  obtain ⟨l, hl, hf⟩ := bindO hf
  cases hf
  refine wpAny_Assign_Name (h A env Z s ρ α l R hE I L hl _ _ fun a vs s₁ Z₁ p₁ hn hz hp r => ?_) (hs env)
  have L₁ := L.step0 p₁
  refine L₁.store (sv := .own ⟨none, l⟩) (a := a) p₁.inv hE hk ⟨rfl, vs, hp, r⟩ (fun l₀ e₀ => ⟨hz, I.fresh_b hn, I.fresh_x hn, (fun b h => by cases e₀; cases h), fun y l' _ hy e => ?_⟩) fun s₂ p₂ fo L₂ => q .next s₂ Z₁ _ ⟨p₁.weak.trans p₂ (fun _ h => .inl h) (fun _ h => h.elim), fun b f => (fo b f).imp id fun ⟨_, e⟩ => e ▸ hn, L₂⟩ trivial
  obtain ⟨o, ho⟩ := L.alive (.inr (.inr ⟨y, l', hy, rfl⟩))
  rw [e, hn] at ho; cases ho
def getO (ρ : Slots) (x : Str) : Option OL := match ρ x with | some (.own l) => some l | _ => none
theorem getO_eq {x : Str} {l : OL} (h : getO ρ x = some l) : ρ x = some (.own l) := by
  unfold getO at h
  split at h
  · cases h; assumption
  · cases h
def getL (ρ : Slots) (x : Str) : Option (List AV) := match ρ x with | some (.own l) => some l.items | some (.val (.lst l)) => some l | _ => none
theorem getL_load {x : Str} {l : List AV} (L : Loc W Z s.heap env ρ α) (hE : EnvOk env sc) (h : getL ρ x = some l) (hn : (x == ("__classdict__" : Str)) = false) {Q : Value → Shared → Prop} {E' : Value → Shared → Prop}
    (q : ∀ a vs, s.heap.IsList a vs.toArray → RepVs Z s.heap vs l → Q (.ref a) s) : wpAny W.M A (loadName env x) Q E' s := by
  unfold getL at h
  split at h
  · rename_i e; cases h
    refine L.load hE e (fun v r => ?_) hn
    obtain ⟨rfl, vs, hp, rs⟩ := r
    exact q _ vs hp.isList rs
  · rename_i e; cases h
    refine L.load hE e (fun v r => ?_) hn
    cases r with | lst z hl rl => exact q _ _ hl rl
  · cases h
theorem den_len_name {x : Str} {np p pos : Pos} (hg : W.Glob "len" (.builtin "len")) (hk : sc.names.lookup ("len" : Str) = some .globalImplicit) (h1 : (x == ("__debug__" : Str)) = false) (hn : (x == ("__classdict__" : Str)) = false) :
    DenP W d sc (.Call (.Name "len" np) [.Name x p] [] pos) fun ρ => getL ρ x >>= fun l => if l.length ≤ 16777216 then some (.int l.length) else none := by
  intro A env Z s ρ α av R hE I L hf Q E' q
  obtain ⟨l, hl, hf⟩ := bindO hf
  obtain ⟨hz, hf⟩ := iteO hf
  · skip
    cases hf
    show wpAny _ _ (do callWith pos (← eval (.Name "len" np) env) [] (backTo pos (starEach [.Name x p] env)) (backToKw pos (keywordEach [] env))) _ _ _
    refine wpAny_bind (load_glob hE I hg hk (by decide) (callWith_of (P := W.K.In) rfl (keep_builtin "len") (evalArgs_ns rfl (wpAny_items_cons (wpAny_Name (getL_load L hE hl hn fun a vs hl' rl => wpAny_items_nil ⟨I.kin, ?_⟩) h1)))))
    refine len_list hl' (by simp only [List.size_toArray, rl.length]; (first | lia | omega)) ?_
    simp only [List.size_toArray, rl.length]
    exact q _ _ Z (.toks I _) (.int _ _)
def truthN (ρ : Slots) (x : Str) : Option Bool := match ρ x with | some (.own l) => truthA (.lst l.items) | some (.val v) => truthA v | none => none
theorem denT_name {x : Str} {p : Pos} (h1 : (x == ("__debug__" : Str)) = false) (hn : (x == ("__classdict__" : Str)) = false) :
    DenT W d sc (.Name x p) fun ρ => truthN ρ x := by
  intro A env Z s ρ α b R hE I L hf Q E' q
  refine wpAny_isTrue_value (wpAny_Name ?_ h1) rfl
  simp only [truthN] at hf
  split at hf
  · rename_i l hx
    refine L.load hE hx (fun v r => ?_) hn
    obtain ⟨rfl, vs, hp, rs⟩ := r
    unfold truthA at hf
    simp only at hf
    obtain ⟨hz, hf⟩ := iteO hf
    · cases hf
      refine wpAny_truthy_list hp.isList (by simp only [List.size_toArray, rs.length]; (first | lia | omega)) ?_
      have e : vs.toArray.isEmpty = l.items.isEmpty := by
        have := rs.length
        cases vs <;> cases hli : l.items <;> simp_all
      rw [e]; exact q _ Z (.toks I _)
  · rename_i v hx
    exact L.load hE hx (fun v r => truthA_ok I r hf _ _ q) hn
  · cases hf
theorem upd_plain {h : Heap} {a : Addr} {its : Array Value} {n : Nat} (e : h.get? a = some { cls := .type "list", data := .seq its n }) (f : Array Value → Array Value) : (h.update a (Obj.mapSeq f)).PlainList a (f its) :=
  ⟨_, Heap.get?_update_self (Obj.mapSeq f) e rfl⟩
end
end Mine
end
section
set_option linter.unusedVariables false
namespace Mine
section
variable {W : Wd} {Z Z' Z₁ : AddrSet} {s s' s₁ : Shared} {env : Env} {sc : Scope} {ρ ρ' : Slots} {α α' : Str → Addr} {A : Around} {d : Nat}
def GivesX (W : Wd) (A : Around) (env : Env) (Z : AddrSet) (s : Shared) (ρ : Slots) (α : Str → Addr) (t : Sem Value) (av : AV) (ρ' : Slots) : Prop :=
  ∀ (Q : Value → Shared → Prop) (E' : Value → Shared → Prop), (∀ v s' Z' α', FStep W env Z s ρ α Z' s' ρ' α' → RepV Z' s'.heap v av → Q v s') → wpAny W.M A t Q E' s
def DenX (W : Wd) (d : Nat) (sc : Scope) (e : Expr) (F : Slots → Option (AV × Slots)) : Prop :=
  ∀ (A : Around) (env : Env) (Z : AddrSet) (s : Shared) (ρ : Slots) (α : Str → Addr) (av : AV) (ρ' : Slots), Room A d → EnvOk env sc → Inv W Z s → Loc W Z s.heap env ρ α → F ρ = some (av, ρ') → GivesX W A env Z s ρ α (eval e env) av ρ'
theorem own_meth {x : Str} {name : Str} {p1 apos pos : Pos} {es : List Expr} {fs : Slots → Option (List AV)} {id : String} {l : OL} {args : List AV}
    (h1 : (x == ("__debug__" : Str)) = false) (hn : (x == ("__classdict__" : Str)) = false)
    (hbase : ∀ env, attributeBase (.Name x p1) name env (eval (.Name x p1) env) = eval (.Name x p1) env)
    (hfew : ∀ env, ((backTo pos (starEach es env)).all (fun x => !x.1) && (backToKw pos (keywordEach [] env)).all (fun x => x.1.isSome) && decide (es.length + ([] : List Keyword).length + (if ([] : List Keyword).isEmpty then 0 else 1) < 30)) = true)
    (hline : (apos.endLine == pos.line) = true) (slot : Slot "list" name id) (hty : typeOf (.builtin id) = pure (.type "method_descriptor")) (ha : DenPs W d sc es fs) (hns : ∀ env pos, (backTo pos (starEach es env)).any (·.1) = false)
    (R : Room A d) (hE : EnvOk env sc) (I : Inv W Z s) (L : Loc W Z s.heap env ρ α) (hx : ρ x = some (.own l)) (hargs : fs ρ = some args) {Q : Value → Shared → Prop} {E' : Value → Shared → Prop}
    (q : ∀ its n ws s₁ Z₁, Step W .none Z s Z₁ s₁ → s₁.heap.get? (α x) = some { cls := .type "list", data := .seq (its : List Value).toArray n } → RepVs Z₁ s₁.heap its l.items → RepVs Z₁ s₁.heap ws args → wpAny W.M A (call (.builtin id) (.ref (α x) :: ws)) Q E' s₁) :
    wpAny W.M A (eval (.Call (.Attribute (.Name x p1) name apos) es [] pos) env) Q E' s := by
  refine wpAny_Call_method (hbase env) (hfew env) hline F.plainAttrs_list slot hty (wpAny_Name (L.load hE hx (fun v r => ?_) hn) h1)
  obtain ⟨rfl, its, ⟨n, hp⟩, rs⟩ := r
  refine ⟨⟨_, hp, rfl⟩, fun a e => (by cases e; exact ⟨_, hp, rfl⟩), ?_⟩
  exact callWith_den (first := [.ref (α x)]) (keep_builtin id) ha hns R hE I L hargs fun vs s₁ Z₁ p₁ r₁ => q its n vs s₁ Z₁ p₁ (p₁.keep _ _ (fun h => h) hp) (p₁.reps0 rs) r₁
theorem den_append {x : Str} {p1 apos cpos pos : Pos} {e : Expr} {f : Slots → Option AV} (h : DenP W d sc e f) (h1 : (x == ("__debug__" : Str)) = false) (hn : (x == ("__classdict__" : Str)) = false)
    (hs : ∀ env, starEach [e] env = [(false, eval e env)]) (hline : (apos.endLine == cpos.line) = true) :
    DenS W d sc (.Expr (.Call (.Attribute (.Name x p1) "append" apos) [e] [] cpos) pos) fun ρ => getO ρ x >>= fun l => f ρ >>= fun a => if l.items.length ≤ 1000000 then some (.next, ρ.set x (.own ⟨l.place, l.items ++ [a]⟩)) else none := by
  intro A env Z s ρ α fl ρ' R hE I L hf Q E' q
  obtain ⟨l, hl, hf⟩ := bindO hf
  obtain ⟨a, ha, hf⟩ := bindO hf
  obtain ⟨hz, hf⟩ := iteO hf
  · cases hf
    have hx := getO_eq hl
    have hns : ∀ env pos, (backTo pos (starEach [e] env)).any (·.1) = false := fun env pos => by rw [hs]; rfl
    refine wpAny_Expr (own_meth (es := [e]) h1 hn (fun _ => rfl) (fun env => by rw [hs]; rfl) hline F.slot_list_append F.type_list_append (denPs_cons h denPs_nil (fun env => by rw [hs]; rfl)) hns R hE I L hx (args := [a]) (by simp [ha]) fun its n ws s₁ Z₁ p₁ hp rs rw' => ?_) (by
      show (env.scope.kind == .module && _) = false
      rw [hE.kfn]; rfl)
    obtain ⟨w, rfl, rq⟩ := rw'.one
    refine append_at (n := n) hp (fun h' hsb ho' => ?_) (by rw [List.size_toArray, rs.length]; unfold sizeLine; (first | lia | omega))
    have fs := (L.step0 p₁).upd (tk := s₁.toks) (vs' := its ++ [w]) p₁.inv hx hsb ⟨n + 1, by simpa using ho'⟩ (rs.snoc rq)
    exact q .next _ Z₁ α ((FStep.pure L p₁).trans fs) trivial
theorem eraseLast (its : List Value) (y : Value) : (its ++ [y]).toArray.eraseIdxIfInBounds ((its ++ [y]).toArray.size - 1) = its.toArray := by
  have := kl_erase its [] y
  simp only [List.append_nil] at this
  have e : (its ++ [y]).toArray.size - 1 = its.length := by simp
  rw [e]; exact this
theorem RepVs.snoc_inv {h : Heap} {vs : List Value} {l : List AV} {a : AV} (r : RepVs Z h vs (l ++ [a])) : ∃ ws v, vs = ws ++ [v] ∧ RepVs Z h ws l ∧ RepV Z h v a := by
  induction l generalizing vs with
  | nil => obtain ⟨v, rfl, rq⟩ := RepVs.one r; exact ⟨[], v, rfl, .nil, rq⟩
  | cons b l ih =>
    obtain ⟨u, us, rfl, r1, r2⟩ := r.cons'
    obtain ⟨ws, v, rfl, rs, r⟩ := ih r2
    exact ⟨u :: ws, v, rfl, .cons r1 rs, r⟩
def lastL {β : Type} (l : List β) : Option (List β × β) := match l.reverse with
  | [] => none
  | a :: r => some (r.reverse, a)
theorem lastL_eq {β : Type} {l m : List β} {a : β} (h : lastL l = some (m, a)) : l = m ++ [a] := by
  unfold lastL at h
  cases e : l.reverse with
  | nil => rw [e] at h; cases h
  | cons b r =>
    rw [e] at h; cases h
    rw [← List.reverse_reverse l, e, List.reverse_cons]
theorem lastL_snoc {β : Type} (m : List β) (a : β) : lastL (m ++ [a]) = some (m, a) := by
  unfold lastL
  rw [List.reverse_append]
  show some (m.reverse.reverse, a) = _
  rw [List.reverse_reverse]
theorem denx_pop {x : Str} {p1 apos cpos : Pos} (h1 : (x == ("__debug__" : Str)) = false) (hn : (x == ("__classdict__" : Str)) = false) (hline : (apos.endLine == cpos.line) = true) :
    DenX W d sc (.Call (.Attribute (.Name x p1) "pop" apos) [] [] cpos) fun ρ => getO ρ x >>= fun l => lastL l.items >>= fun r => if l.items.length ≤ 1000000 then some (r.2, ρ.set x (.own ⟨l.place, r.1⟩)) else none := by
  intro A env Z s ρ α av ρ' R hE I L hf Q E' q
  obtain ⟨l, hl, hf⟩ := bindO hf
  obtain ⟨⟨m, a⟩, hm, hf⟩ := bindO hf
  obtain ⟨hz, hf⟩ := iteO hf
  cases hf
  have hx := getO_eq hl
  have hli := lastL_eq hm
  refine own_meth (es := []) h1 hn (fun _ => rfl) (fun env => rfl) hline F.slot_list_pop F.type_list_pop denPs_nil (fun _ _ => rfl) R hE I L hx (args := []) rfl fun its n ws s₁ Z₁ p₁ hp rs rw' => ?_
  rw [rw'.nil']
  rw [hli] at rs
  have hz' : its.length ≤ 1000000 := by rw [rs.length, ← hli]; exact hz
  obtain ⟨vs, v, rfl, rv, ra⟩ := rs.snoc_inv
  refine call_meets F.slot_list_pop ⟨_, hp, rfl⟩ F.entry_list_pop (F.args_list_pop_1 _) (MeetsSeq.list_pop_last (α x) _ n v (by simp) ?_) ⟨hp, ?_⟩
  · rw [List.size_toArray]; unfold sizeLine; (first | lia | omega)
  · have fs := (L.step0 p₁).upd (tk := s₁.toks) (vs' := vs) p₁.inv hx (Heap.SameBut.update ..) (by have := upd_plain hp (fun xs => xs.eraseIdxIfInBounds ((vs ++ [v]).toArray.size - 1)); rw [eraseLast] at this; exact this) rv
    exact q v _ Z₁ α ((FStep.pure L p₁).trans fs) (ra.mono (fun _ z => z) fun b o z e => (Heap.SameBut.update s₁.heap (α x) _).extBut b o (fun c => (L.step0 p₁).nz (α x) (.inr (.inr ⟨x, _, hx, rfl⟩)) (c ▸ z)) e)
def DenTg (W : Wd) (d : Nat) (sc : Scope) (t : Expr) (G : AV → Slots → Option Slots) : Prop :=
  ∀ (A : Around) (env : Env) (Z : AddrSet) (s : Shared) (ρ : Slots) (α : Str → Addr) (v : Value) (av : AV) (ρ' : Slots), Room A d → EnvOk env sc → Inv W Z s → Loc W Z s.heap env ρ α → RepV Z s.heap v av → G av ρ = some ρ' →
    ∀ (Q : Unit → Shared → Prop) (E' : Value → Shared → Prop), (∀ s' Z' α', FStep W env Z s ρ α Z' s' ρ' α' → Q () s') → wpAny W.M A (assign t env v) Q E' s
def DenTgs (W : Wd) (d : Nat) (sc : Scope) (ts : List Expr) (G : List AV → Slots → Option Slots) : Prop :=
  ∀ (A : Around) (env : Env) (Z : AddrSet) (s : Shared) (ρ : Slots) (α : Str → Addr) (vs : List Value) (l : List AV) (ρ' : Slots), Room A d → EnvOk env sc → Inv W Z s → Loc W Z s.heap env ρ α → RepVs Z s.heap vs l → l.length = ts.length → G l ρ = some ρ' →
    ∀ (Q : Unit → Shared → Prop) (E' : Value → Shared → Prop), (∀ s' Z' α', FStep W env Z s ρ α Z' s' ρ' α' → Q () s') → wpAny W.M A (assignInOrder ((assignEach ts env).map (·.2)) vs) Q E' s
theorem tg_name {x : Str} {p : Pos} (hk : sc.names.lookup x = some .local ∨ sc.names.lookup x = some .cell) : DenTg W d sc (.Name x p) fun a ρ => some (ρ.set x (.val a)) := by
  intro A env Z s ρ α v av ρ' R hE I L r hf Q E' q
  cases hf
  show wpAny _ _ (do standAt p; bindName env x v) _ _ _
  exact wpAny_bind (wpAny_standAt (wpAny_bindName (L.storeV I hE hk r fun s' α' p => q s' Z α' p)))
theorem tgs_nil : DenTgs W d sc [] fun _ ρ => some ρ := by
  intro A env Z s ρ α vs l ρ' R hE I L r hl hf Q E' q
  cases hf
  cases l with
  | nil => rw [r.nil']; exact wpAny_pure (q s Z α (.id I L))
  | cons a l => cases hl
def headTg (G : AV → Slots → Option Slots) (H : List AV → Slots → Option Slots) : List AV → Slots → Option Slots
  | a :: l, ρ => G a ρ >>= H l
  | [], _ => none
theorem tgs_cons {t : Expr} {ts : List Expr} {G : AV → Slots → Option Slots} {H : List AV → Slots → Option Slots} (h : DenTg W d sc t G) (hs : DenTgs W d sc ts H) (he : ∀ env, assignEach (t :: ts) env = (false, assign t env) :: assignEach ts env) : DenTgs W d sc (t :: ts) (headTg G H) := by
  intro A env Z s ρ α vs l ρ' R hE I L r hl hf Q E' q
  cases l with
  | nil => cases hl
  | cons a l =>
    obtain ⟨v, vs, rfl, r1, r2⟩ := r.cons'
    obtain ⟨ρ₁, h₁, h₂⟩ := bindO hf
    rw [he]
    show wpAny _ _ (do holding _ (assign t env _); assignInOrder ((assignEach ts env).map (·.2)) _) _ _ _
    refine wpAny_bind (wpAny_holding (h A env Z s ρ α _ a ρ₁ R hE I L r1 h₁ _ _ fun s₁ Z₁ α₁ p₁ => ?_))
    have hz : ∀ b, Z b → ¬ (Own.addrs (FOwn env ρ α)).a b := fun b z f => L.nz b f z
    exact hs A env Z₁ s₁ ρ₁ α₁ _ l ρ' R hE p₁.step.inv p₁.loc (p₁.step.reps hz r2) (by simpa using hl) h₂ _ _ fun s₂ Z₂ α₂ p₂ => q s₂ Z₂ α₂ (p₁.trans p₂)
theorem draw_list {I l : Addr} {items : Array Value} {E' : Value → Shared → Prop} (hh : A.handled = none) (hne : l ≠ I) (k i : Nat) (s : Shared) (Q : List Value → Shared → Prop) (h1 : s.heap.IsListIter I l i) (h2 : s.heap.IsList l items) (hi : i + k ≤ items.size)
    (q : ∀ h' tk, h'.IsListIter I l (i + k) → h'.IsList l items → (∀ b o, b ≠ I → s.heap.get? b = some o → h'.get? b = some o) → Q ((items.toList.drop i).take k) { s with heap := h', toks := tk }) : wpAny W.M A (draw (.ref I) k) Q E' s := by
  induction k generalizing i s Q with
  | zero =>
    show wpAny _ _ (pure []) _ _ _
    exact wpAny_pure (q s.heap s.toks h1 h2 fun _ _ _ e => e)
  | succ k ih =>
    have hlt : i < items.size := by (first | lia | omega)
    refine wpAny_bind ((Walks.list (prog := W.prog) (w := W.w) hh I l hne items).item i s _ _ hlt ⟨h1, h2⟩ fun v h' tk hv st hk => ?_)
    refine wpAny_bind (wpAny_holding (ih (i + 1) _ _ st.1 st.2 (by (first | lia | omega)) fun h'' tk' i1 i2 hk' => wpAny_pure ?_))
    have e : (items.toList.drop i).take (k + 1) = v :: (items.toList.drop (i + 1)).take k := by
      rw [← Array.getElem?_toList] at hv
      obtain ⟨hl, he⟩ := List.getElem?_eq_some_iff.mp hv
      rw [List.drop_eq_getElem_cons hl, List.take_succ_cons, he]
    have := q h'' tk' (by rw [show i + (k + 1) = i + 1 + k by (first | lia | omega)]; exact i1) i2 fun b o hb e => hk' b o hb (hk b o (fun h => hb (List.mem_singleton.mp h)) e)
    rw [e] at this
    exact this
theorem unpackItems_list {l : Addr} {vs : List Value} {Q : List Value → Shared → Prop} {E' : Value → Shared → Prop} (hh : A.handled = none) (hl : s.heap.IsList l vs.toArray)
    (hQ : ∀ h' tk, (∀ b o, s.heap.get? b = some o → h'.get? b = some o) → Q vs { s with heap := h', toks := tk }) : wpAny W.M A (unpackItems (.ref l) vs.length none) Q E' s := by
  have hne : l ≠ s.heap.objs.size := by obtain ⟨o, ho, _⟩ := hl; exact Nat.ne_of_lt (Heap.lt_size ho)
  unfold unpackItems
  refine wpAny_bind ?_
  unfold notIterableAtAll
  refine wpAny_bind (wpAny_specialOf hl.typeIs slot_list_iter.lookup ?_)
  refine wpAny_pure ?_
  simp only [Bool.false_eq_true, if_false]
  refine wpAny_bind (wpAny_holding (wpAny_pyIter_list hl ?_))
  refine wpAny_bind (wpAny_holding (draw_list (I := s.heap.objs.size) (l := l) (items := vs.toArray) hh hne vs.length 0 _ _ ⟨_, Heap.get?_push_size _ rfl, rfl, rfl⟩ (let ⟨o, ho, r⟩ := hl; ⟨o, Heap.get?_push_of_some _ ho, r⟩) (by rw [List.size_toArray]; (first | lia | omega)) fun h₁ tk₁ i1 i2 hk₁ => ?_))
  have e : List.take vs.length (List.drop 0 vs.toArray.toList) = vs := by rw [List.drop_zero, List.take_length]
  rw [Nat.zero_add] at i1
  rw [e, if_neg (Nat.lt_irrefl _)]
  refine wpAny_bind (wpAny_holding ((Walks.list (prog := W.prog) (w := W.w) hh s.heap.objs.size l hne vs.toArray).done _ _ _ ⟨i1, i2⟩ fun h₂ tk₂ hk₂ => ?_))
  simp only [Option.isSome_none, Bool.false_eq_true, if_false]
  exact wpAny_pure (hQ h₂ tk₂ fun b o e => by
    have hb : b ≠ s.heap.objs.size := Nat.ne_of_lt (Heap.lt_size e)
    exact hk₂ b o (fun h => hb (List.mem_singleton.mp h)) (hk₁ b o hb (Heap.get?_push_of_some _ e)))
def seqA : AV → Option (List AV)
  | .tup l => some l
  | .lst l => some l
  | _ => none
theorem unpack_items {v : Value} {av : AV} {l : List AV} {Q : List Value → Shared → Prop} {E' : Value → Shared → Prop} (R : Room A d) (I : Inv W Z s) (r : RepV Z s.heap v av) (h : seqA av = some l)
    (q : ∀ vs s', Step W .none Z s Z s' → RepVs Z s'.heap vs l → Q vs s') : wpAny W.M A (unpackItems v l.length none) Q E' s := by
  cases av with
  | tup l' =>
    cases h
    obtain ⟨a, vs, rfl, z, ht, rl⟩ := r.tup'
    rw [show l.length = vs.toArray.size from rl.length.symm]
    refine unpackItems_tuple R.handled ht fun h' hx => ?_
    have p : Step W .none Z s Z { s with heap := h' } := .grow I (tk := s.toks) fun b o e => hx b o (Nat.ne_of_lt (Heap.lt_size e)) e
    exact q vs _ p (p.reps0 rl)
  | lst l' =>
    cases h
    obtain ⟨a, vs, rfl, z, ht, rl⟩ := r.lst'
    rw [← rl.length]
    refine unpackItems_list R.handled ht fun h' tk hx => ?_
    have p : Step W .none Z s Z { s with heap := h', toks := tk } := .grow I hx
    exact q vs _ p (p.reps0 rl)
  | _ => cases h
theorem tg_tuple {ts : List Expr} {k : Nat} {pos : Pos} {G : List AV → Slots → Option Slots} (h : DenTgs W d sc ts G) (hst : ∀ env, (assignEach ts env).findIdx? (·.1) = none) (hlen : ∀ env, (assignEach ts env).length = ts.length) :
    DenTg W d sc (.Tuple ts k pos) fun a ρ => seqA a >>= fun l => if l.length = ts.length then G l ρ else none := by
  intro A env Z s ρ α v av ρ' R hE I L r hf Q E' q
  obtain ⟨l, hl, hf⟩ := bindO hf
  obtain ⟨hn, hf⟩ := iteO hf
  · skip
    show wpAny _ _ (do standAt pos; unpack v (assignEach ts env)) _ _ _
    refine wpAny_bind (wpAny_standAt ?_)
    unfold unpack
    rw [hst, hlen, ← hn]
    refine wpAny_bind (wpAny_holding (unpack_items R I r hl fun vs s₁ p₁ r₁ => ?_))
    exact h A env Z s₁ ρ α vs l ρ' R hE p₁.inv (L.step0 p₁) r₁ hn hf _ _ fun s₂ Z₂ α₂ p₂ => q s₂ Z₂ α₂ ((FStep.pure L p₁).trans p₂)
end
end Mine
end
section
set_option linter.unusedVariables false
namespace Mine
section
variable {W : Wd} {Z Z' Z₁ Z₀ : AddrSet} {s s' s₁ s₀ : Shared} {env : Env} {sc : Scope} {ρ ρ' ρ₀ : Slots} {α α' α₀ : Str → Addr} {A : Around} {d : Nat}
theorem FStep.zo (L : Loc W Z s.heap env ρ α) : ∀ b, Z b → ¬ (Own.addrs (FOwn env ρ α)).a b := fun b z f => L.nz b f z
theorem exec_Assign {targets : List Expr} {value : Expr} {pos : Pos} {Q : Flow → Shared → Prop} {E' : Value → Shared → Prop} {sw : Option (List Str)} (h1 : swapsWithSole targets value pos.line env = pure false) (h2 : swappedStores targets value env = pure sw)
    (h : wpAny W.M A (eval value env) (fun v s₁ => wpAny W.M A (assignStores env v sw ((assignEach targets env).map (·.2))) Q E' s₁) E' s) : wpAny W.M A (exec (.Assign targets value pos) env) Q E' s := by
  show wpAny _ _ (do
    standAt pos
    if ← swapsWithSole targets value pos.line env then do
      evalThenUse value env fun v => assignAll v ((assignEach targets env).map (·.2))
      pure .next
    else do
      let v ← eval value env
      assignStores env v (← swappedStores targets value env) ((assignEach targets env).map (·.2))) _ _ _
  rw [h1, h2]
  exact wpAny_bind (wpAny_standAt (wpAny_bind (wpAny_pure (wpAny_bind (wpAny_mono h (fun v s₁ h' => wpAny_bind (wpAny_pure h')) fun _ _ x => x)))))
theorem den_assignT {t : Expr} {pos : Pos} {e : Expr} {F : Slots → Option (AV × Slots)} {G : AV → Slots → Option Slots} (h : DenX W d sc e F) (ht : DenTg W d sc t G) (h1 : ∀ env : Env, env.scope = sc → swapsWithSole [t] e pos.line env = pure false) (h2 : ∀ env : Env, env.scope = sc → swappedStores [t] e env = pure none)
    (he : ∀ env, assignEach [t] env = [(false, assign t env)]) : DenS W d sc (.Assign [t] e pos) fun ρ => F ρ >>= fun r => G r.1 r.2 >>= fun ρ₂ => some (.next, ρ₂) := by
  intro A env Z s ρ α fl ρ' R hE I L hf Q E' q
  obtain ⟨⟨a, ρ₁⟩, ha, hf⟩ := bindO hf
  obtain ⟨ρ₂, hg, hf⟩ := bindO hf
  cases hf
  refine exec_Assign (h1 env hE.scope) (h2 env hE.scope) (h A env Z s ρ α a ρ₁ R hE I L ha _ _ fun v s₁ Z₁ α₁ p₁ r₁ => ?_)
  rw [he]
  show wpAny _ _ (do assignAll v [assign t env]; pure Flow.next) _ _ _
  exact wpAny_bind (ht A env Z₁ s₁ ρ₁ α₁ v a _ R hE p₁.step.inv p₁.loc r₁ hg _ _ fun s₂ Z₂ α₂ p₂ => wpAny_pure (q .next s₂ Z₂ α₂ (p₁.trans p₂) trivial))
-- several names at once, own lists among them
inductive SReps (Z : AddrSet) (h : Heap) (s₀ : Shared) : List Value → List SV → List Addr → Prop where
  | nil : SReps Z h s₀ [] [] []
  | val {v : Value} {a : AV} {vs : List Value} {svs : List SV} {as : List Addr} : RepV Z h v a → SReps Z h s₀ vs svs as → SReps Z h s₀ (v :: vs) (.val a :: svs) as
  | own {a : Addr} {ws : List Value} {l : List AV} {vs : List Value} {svs : List SV} {as : List Addr} : s₀.heap.get? a = none → ¬ Z a → h.PlainList a ws.toArray → RepVs Z h ws l → a ∉ as → SReps Z h s₀ vs svs as → SReps Z h s₀ (.ref a :: vs) (.own ⟨none, l⟩ :: svs) (a :: as)
theorem SReps.length {h : Heap} {vs : List Value} {svs : List SV} {as : List Addr} (r : SReps Z h s₀ vs svs as) : vs.length = svs.length := by
  induction r with
  | nil => rfl
  | val _ _ ih => simp [ih]
  | own _ _ _ _ _ _ ih => simp [ih]
theorem SReps.fresh {h : Heap} {vs : List Value} {svs : List SV} {as : List Addr} (r : SReps Z h s₀ vs svs as) : ∀ a ∈ as, s₀.heap.get? a = none ∧ ∃ o, h.get? a = some o := by
  induction r with
  | nil => intro a h; cases h
  | val _ _ ih => exact ih
  | own h1 _ hp _ _ _ ih =>
    intro a ha
    rcases List.mem_cons.mp ha with rfl | ha
    · obtain ⟨n, hp⟩ := hp; exact ⟨h1, _, hp⟩
    · exact ih a ha
theorem SReps.step {O : Own} {vs : List Value} {svs : List SV} {as : List Addr} (r : SReps Z s.heap s₀ vs svs as) (p : Step W O Z s Z' s') (hz : ∀ a, Z a → ¬ O.a a) (ha : ∀ a ∈ as, ¬ O.a a) : SReps Z' s'.heap s₀ vs svs as := by
  induction r with
  | nil => exact .nil
  | val r _ ih => exact .val (p.rep hz r) (ih ha)
  | own h1 h2 hp rs hn _ ih =>
    rename_i a _ _ _ _ _ _
    have hO := ha a (List.mem_cons_self)
    obtain ⟨n, hp⟩ := hp
    refine .own h1 (fun z => ?_) ⟨n, p.keep _ _ hO hp⟩ (p.reps hz rs) hn (ih fun b hb => ha b (List.mem_cons_of_mem _ hb))
    rcases p.znew a z with z | z | z
    · exact h2 z
    · exact hO z
    · rw [hp] at z; cases z
theorem SReps.rebase {h : Heap} {vs : List Value} {svs : List SV} {as : List Addr} (r : SReps Z h s₁ vs svs as) (hb : ∀ a, s₁.heap.get? a = none → s₀.heap.get? a = none) : SReps Z h s₀ vs svs as := by
  induction r with
  | nil => exact .nil
  | val r _ ih => exact .val r ih
  | own h1 h2 hp rs hn _ ih => exact .own (hb _ h1) h2 hp rs hn ih
def DenEs (W : Wd) (d : Nat) (sc : Scope) (es : List Expr) (f : Slots → Option (List SV)) : Prop :=
  ∀ (A : Around) (env : Env) (Z : AddrSet) (s : Shared) (ρ : Slots) (α : Str → Addr) (l : List SV), Room A d → EnvOk env sc → Inv W Z s → Loc W Z s.heap env ρ α → f ρ = some l →
    ∀ (pos : Pos) (Q : List Value → Shared → Prop) E', (∀ vs s' Z' as, Step W .none Z s Z' s' → SReps Z' s'.heap s vs l as → Q vs s') → wpAny W.M A (spliced (backTo pos (starEach es env))) Q E' s
theorem es_nil : DenEs W d sc [] fun _ => some [] := by
  intro A env Z s ρ α l R hE I L hf pos Q E' q; cases hf; exact wpAny_items_nil (q [] s Z [] (.id I) .nil)
theorem es_val {e : Expr} {rest : List Expr} {f : Slots → Option AV} {g : Slots → Option (List SV)} (he : DenP W d sc e f) (hr : DenEs W d sc rest g) (hs : ∀ env, starEach (e :: rest) env = (false, eval e env) :: starEach rest env) :
    DenEs W d sc (e :: rest) fun ρ => f ρ >>= fun a => g ρ >>= fun l => some (.val a :: l) := by
  intro A env Z s ρ α l R hE I L hf pos Q E' q
  obtain ⟨a, ha, hf⟩ := bindO hf
  obtain ⟨m, hm, hf⟩ := bindO hf
  cases hf
  exact wpAny_items_cons (he A env Z s ρ α a R hE I L ha _ _ fun v s₁ Z₁ p₁ r₁ => hr A env Z₁ s₁ ρ α m R hE p₁.inv (L.step0 p₁) hm pos _ _ fun vs s₂ Z₂ as p₂ r₂ =>
    q _ s₂ Z₂ as (p₁.tr p₂) (.val (p₂.rep0 r₁) (r₂.rebase fun a h => (p₁.none_back h).resolve_left id))) (hs env)
theorem es_own {e : Expr} {rest : List Expr} {f : Slots → Option (List AV)} {g : Slots → Option (List SV)} (he : DenO W d sc e f) (hr : DenEs W d sc rest g) (hs : ∀ env, starEach (e :: rest) env = (false, eval e env) :: starEach rest env) :
    DenEs W d sc (e :: rest) fun ρ => f ρ >>= fun a => g ρ >>= fun l => some (.own ⟨none, a⟩ :: l) := by
  intro A env Z s ρ α l R hE I L hf pos Q E' q
  obtain ⟨a, ha, hf⟩ := bindO hf
  obtain ⟨m, hm, hf⟩ := bindO hf
  cases hf
  refine wpAny_items_cons (he A env Z s ρ α a R hE I L ha _ _ fun b ws s₁ Z₁ p₁ hn hz hp rs => hr A env Z₁ s₁ ρ α m R hE p₁.inv (L.step0 p₁) hm pos _ _ fun vs s₂ Z₂ as p₂ r₂ => ?_) (hs env)
  obtain ⟨n, hp⟩ := hp
  refine q _ s₂ Z₂ (b :: as) (p₁.tr p₂) (.own hn (fun z => ?_) ⟨n, p₂.keep _ _ id hp⟩ (p₂.reps0 rs) (fun hb => ?_) (r₂.rebase fun a h => (p₁.none_back h).resolve_left id))
  · rcases p₂.znew b z with z | z | z
    · exact hz z
    · exact z
    · rw [hp] at z; cases z
  · have := (r₂.fresh b hb).1
    rw [hp] at this; cases this
def setMany : Slots → List Str → List SV → Slots
  | ρ, x :: xs, v :: vs => setMany (ρ.set x v) xs vs
  | ρ, _, _ => ρ
def StoresName (W : Wd) (A : Around) (env : Env) (x : Str) (f : Value → Sem Unit) : Prop := ∀ (v : Value) (Q : Unit → Shared → Prop) (E' : Value → Shared → Prop) (s : Shared), wpAny W.M A (storeName env x v) Q E' s → wpAny W.M A (f v) Q E' s
inductive StoresAll (W : Wd) (A : Around) (env : Env) : List Str → List (Value → Sem Unit) → Prop where
  | nil : StoresAll W A env [] []
  | cons {x : Str} {xs : List Str} {f : Value → Sem Unit} {fs : List (Value → Sem Unit)} : StoresName W A env x f → StoresAll W A env xs fs → StoresAll W A env (x :: xs) (f :: fs)
theorem storeMany (I₀ : Inv W Z₀ s₀) (L₀ : Loc W Z₀ s₀.heap env ρ₀ α₀) (hE : EnvOk env sc) : ∀ {xs : List Str} {fs : List (Value → Sem Unit)} {vs : List Value} {svs : List SV} {as : List Addr} {s : Shared} {ρ : Slots} {α : Str → Addr},
    StoresAll W A env xs fs → SReps Z s.heap s₀ vs svs as → xs.length = svs.length → (∀ x ∈ xs, sc.names.lookup x = some .local ∨ sc.names.lookup x = some .cell) → (∀ a ∈ as, ¬ FOwn env ρ α a) → FStep W env Z₀ s₀ ρ₀ α₀ Z s ρ α →
    ∀ {Q : Unit → Shared → Prop} {E' : Value → Shared → Prop}, (∀ s' α', FStep W env Z₀ s₀ ρ₀ α₀ Z s' (setMany ρ xs svs) α' → Q () s') → wpAny W.M A (assignInOrder fs vs) Q E' s := by
  intro xs
  induction xs with
  | nil =>
    intro fs vs svs as s ρ α hF r hl hk hn p Q E' q
    cases hF
    cases r with
    | nil => exact wpAny_pure (q s α p)
    | val => cases hl
    | own => cases hl
  | cons x xs ih =>
    intro fs vs svs as s ρ α hF r hl hk hn p Q E' q
    cases hF with | cons f1 fr =>
    have kx := hk x List.mem_cons_self
    have kr : ∀ y ∈ xs, sc.names.lookup y = some .local ∨ sc.names.lookup y = some .cell := fun y hy => hk y (List.mem_cons_of_mem _ hy)
    cases r with
    | nil => cases hl
    | val r1 rr =>
      rename_i v a vs svs
      refine wpAny_bind (wpAny_holding (f1 _ _ _ _ (p.loc.store (sv := .val a) (a := α x) p.step.inv hE kx r1 (fun l e => by cases e) fun s₁ p₁ fo L₁ => ?_)))
      have fs₁ : FStep W env Z s ρ α Z s₁ (ρ.set x (.val a)) (setA α x (α x)) := ⟨p₁, fun b f => (fo b f).elim .inl (fun ⟨⟨l, e⟩, _⟩ => by cases e), L₁⟩
      refine ih fr (rr.step p₁ (FStep.zo p.loc) hn) (by simpa using hl) kr (fun b hb f => ?_) (p.trans fs₁) fun s' α' p' => q s' α' p'
      rcases fo b f with f | ⟨⟨l, e⟩, _⟩
      · exact hn b hb f
      · cases e
    | own h1 h2 hp rs hna rr =>
      rename_i b ws l vs svs as
      refine wpAny_bind (wpAny_holding (f1 _ _ _ _ (p.loc.store (sv := .own ⟨none, l⟩) (a := b) p.step.inv hE kx ⟨rfl, ws, hp, rs⟩ (fun l₀ e₀ => ⟨h2, I₀.fresh_b h1, I₀.fresh_x h1, (fun b h => by cases e₀; cases h), fun y l' _ hy e => ?_⟩) fun s₁ p₁ fo L₁ => ?_)))
      · exact hn b List.mem_cons_self (.inr (.inr ⟨y, l', hy, e⟩))
      · have fs₁ : FStep W env Z₀ s₀ ρ₀ α₀ Z s₁ (ρ.set x (.own ⟨none, l⟩)) (setA α x b) :=
          ⟨p.step.trans p₁ (fun a f => p.fo a f) (fun _ h => h.elim), fun c f => (fo c f).elim (p.fo c) fun ⟨_, e⟩ => .inr (e ▸ h1), L₁⟩
        refine ih fr (rr.step p₁ (FStep.zo p.loc) fun c hc => hn c (List.mem_cons_of_mem _ hc)) (by simpa using hl) kr (fun c hc f => ?_) fs₁ fun s' α' p' => q s' α' p'
        rcases fo c f with f | ⟨_, e⟩
        · exact hn c (List.mem_cons_of_mem _ hc) f
        · exact hna (e ▸ hc)
theorem SReps.reverse {h : Heap} {vs : List Value} {svs : List SV} {as : List Addr} (r : SReps Z h s₀ vs svs as) : ∃ as', SReps Z h s₀ vs.reverse svs.reverse as' ∧ ∀ a ∈ as', a ∈ as := by
  have app : ∀ {vs ws : List Value} {svs tvs : List SV} {as bs : List Addr}, SReps Z h s₀ vs svs as → SReps Z h s₀ ws tvs bs → (∀ a ∈ as, a ∉ bs) → SReps Z h s₀ (vs ++ ws) (svs ++ tvs) (as ++ bs) := by
    intro vs ws svs tvs as bs r q hd
    induction r with
    | nil => exact q
    | val r _ ih => exact .val r (ih hd)
    | own h1 h2 hp rs hn _ ih =>
      exact .own h1 h2 hp rs (fun hm => (List.mem_append.mp hm).elim hn (hd _ List.mem_cons_self)) (ih fun a ha => hd a (List.mem_cons_of_mem _ ha))
  induction r with
  | nil => exact ⟨[], .nil, fun _ h => h⟩
  | val r _ ih =>
    obtain ⟨as', r', hs⟩ := ih
    simp only [List.reverse_cons]
    exact ⟨as' ++ [], app r' (.val r .nil) (fun _ _ h => by cases h), fun a ha => hs a (by simpa using ha)⟩
  | own h1 h2 hp rs hn _ ih =>
    rename_i a _ _ _ _ _ _
    obtain ⟨as', r', hs⟩ := ih
    simp only [List.reverse_cons]
    refine ⟨as' ++ [a], app r' (.own h1 h2 hp rs (fun h => by cases h) .nil) (fun b hb h => ?_), fun b hb => ?_⟩
    · cases List.mem_singleton.mp h; exact hn (hs _ hb)
    · rcases List.mem_append.mp hb with h | h
      · exact List.mem_cons_of_mem _ (hs b h)
      · cases List.mem_singleton.mp h; exact List.mem_cons_self
theorem tuple_made {es : List Expr} {k : Nat} {pos : Pos} {f : Slots → Option (List SV)} {l : List SV} (h : DenEs W d sc es f) (R : Room A d) (hE : EnvOk env sc) (I : Inv W Z s) (L : Loc W Z s.heap env ρ α) (hf : f ρ = some l) (hz : l.length ≤ 1000000) {Q : Value → Shared → Prop} {E' : Value → Shared → Prop}
    (q : ∀ a vs s' Z' as, Step W .none Z s Z' s' → IsTup s'.heap a vs.toArray → SReps Z' s'.heap s vs l as → Q (.ref a) s') : wpAny W.M A (eval (.Tuple es k pos) env) Q E' s := by
  refine Tuple_ (h A env Z s ρ α l R hE I L hf pos _ _ fun vs s₁ Z₁ as p₁ r₁ => wpAny_newObj_type ?_ ?_)
  · have p₂ : Step W .none Z₁ s₁ Z₁ { s₁ with heap := s₁.heap.push { cls := .type "tuple", data := .seq vs.toArray } } := .grow p₁.inv (tk := s₁.toks) (push_keep _ _)
    exact q _ vs _ Z₁ as (p₁.tr p₂) ⟨_, Heap.get?_push_size _ rfl, rfl, 0, rfl⟩ (r₁.step p₂ (fun _ _ h => h) fun _ _ h => h)
  · show vs.toArray.size ≤ sizeLine
    rw [List.size_toArray, r₁.length]; unfold sizeLine; (first | lia | omega)
theorem stores_bind (x : Str) : StoresName W A env x (bindName env x) := fun v Q E' s h => wpAny_bindName h
theorem stores_name (x : Str) (p : Pos) : StoresName W A env x (assign (.Name x p) env) := fun v Q E' s h => by
  show wpAny _ _ (do standAt p; bindName env x v) _ _ _
  exact wpAny_bind (wpAny_standAt (wpAny_bindName h))
theorem stores_binds : ∀ xs : List Str, StoresAll W A env xs (xs.map fun n => bindName env n)
  | [] => .nil
  | x :: xs => .cons (stores_bind x) (stores_binds xs)
theorem stores_names : ∀ xs : List (Str × Pos), StoresAll W A env (xs.map (·.1)) ((assignEach (xs.map fun x => Expr.Name x.1 x.2) env).map (·.2))
  | [] => .nil
  | (x, p) :: xs => .cons (stores_name x p) (stores_names xs)
theorem den_assign_swap {t : Expr} {es : List Expr} {k : Nat} {tp pos : Pos} {names : List Str} {f : Slots → Option (List SV)} (h : DenEs W d sc es f) (hk : ∀ x ∈ names, sc.names.lookup x = some .local ∨ sc.names.lookup x = some .cell)
    (h1 : ∀ env : Env, env.scope = sc → swapsWithSole [t] (.Tuple es k tp) pos.line env = pure false) (h2 : ∀ env : Env, env.scope = sc → swappedStores [t] (.Tuple es k tp) env = pure (some names)) :
    DenS W d sc (.Assign [t] (.Tuple es k tp) pos) fun ρ => f ρ >>= fun l => if l.length = names.length ∧ l.length ≤ 1000000 then some (.next, setMany ρ names.reverse l.reverse) else none := by
  intro A env Z s ρ α fl ρ' R hE I L hf Q E' q
  obtain ⟨l, hl, hf⟩ := bindO hf
  obtain ⟨hz, hf⟩ := iteO hf
  · skip
    cases hf
    refine exec_Assign (h1 env hE.scope) (h2 env hE.scope) (tuple_made h R hE I L hl hz.2 fun a vs s₁ Z₁ as p₁ ht rs => ?_)
    show wpAny _ _ (do rule "assign.swapped-stores"; let items ← unpackItems (.ref a) names.length none; assignInOrder (names.reverse.map fun n => bindName env n) items.reverse; pure Flow.next) _ _ _
    rw [show names.length = vs.toArray.size by rw [List.size_toArray, rs.length]; exact hz.1.symm]
    refine wpAny_bind (wpAny_rule (wpAny_bind (unpackItems_tuple R.handled ht fun h' hx => ?_)))
    have p₂ : Step W .none Z₁ s₁ Z₁ { s₁ with heap := h' } := .grow p₁.inv (tk := s₁.toks) fun b o e => hx b o (Nat.ne_of_lt (Heap.lt_size e)) e
    have rs₂ := rs.step p₂ (fun _ _ h => h) fun _ _ h => h
    obtain ⟨as', rr, hsub⟩ := rs₂.reverse
    have pp := (FStep.pure L p₁).trans (FStep.pure (L.step0 p₁) p₂)
    have fr : ∀ b ∈ as', ¬ FOwn env ρ α b := fun b hb fo => by
      obtain ⟨o, e⟩ := L.alive fo
      rw [(rs.fresh b (hsub b hb)).1] at e; cases e
    exact wpAny_bind (storeMany I L hE (stores_binds names.reverse) rr (by simp [hz.1]) (fun x hx => hk x (List.mem_reverse.mp hx)) fr pp fun s' α' p' => wpAny_pure (q .next s' Z₁ α' p' trivial))
theorem assignStores_one (env : Env) (v : Value) (f : Value → Sem Unit) : assignStores env v none [f] = (do f v; pure Flow.next) := rfl
theorem findIdx_names (env : Env) : ∀ xs : List (Str × Pos), (assignEach (xs.map fun x => Expr.Name x.1 x.2) env).findIdx? (·.1) = none
  | [] => rfl
  | (x, p) :: xs => by
    show ((false, assign (.Name x p) env) :: assignEach (xs.map fun x => Expr.Name x.1 x.2) env).findIdx? (·.1) = none
    rw [List.findIdx?_cons, findIdx_names env xs]; rfl
theorem names_length (env : Env) (xs : List (Str × Pos)) : (assignEach (xs.map fun x => Expr.Name x.1 x.2) env).length = xs.length := by
  induction xs with
  | nil => rfl
  | cons x r ih => exact congrArg (· + 1) ih
theorem den_assign_names {es : List Expr} {k k' : Nat} {tp tp' pos : Pos} {xs : List (Str × Pos)} {f : Slots → Option (List SV)} (h : DenEs W d sc es f) (hk : ∀ x ∈ xs.map (·.1), sc.names.lookup x = some .local ∨ sc.names.lookup x = some .cell)
    (h1 : ∀ env : Env, env.scope = sc → swapsWithSole [.Tuple (xs.map fun x => Expr.Name x.1 x.2) k' tp'] (.Tuple es k tp) pos.line env = pure false) (h2 : ∀ env : Env, env.scope = sc → swappedStores [.Tuple (xs.map fun x => Expr.Name x.1 x.2) k' tp'] (.Tuple es k tp) env = pure none) :
    DenS W d sc (.Assign [.Tuple (xs.map fun x => Expr.Name x.1 x.2) k' tp'] (.Tuple es k tp) pos) fun ρ => f ρ >>= fun l => if l.length = xs.length ∧ l.length ≤ 1000000 then some (.next, setMany ρ (xs.map (·.1)) l) else none := by
  intro A env Z s ρ α fl ρ' R hE I L hf Q E' q
  obtain ⟨l, hl, hf⟩ := bindO hf
  obtain ⟨hz, hf⟩ := iteO hf
  · skip
    cases hf
    refine exec_Assign (h1 env hE.scope) (h2 env hE.scope) (tuple_made h R hE I L hl hz.2 fun a vs s₁ Z₁ as p₁ ht rs => ?_)
    have he : assignEach [Expr.Tuple (xs.map fun x => Expr.Name x.1 x.2) k' tp'] env = [(false, assign (Expr.Tuple (xs.map fun x => Expr.Name x.1 x.2) k' tp') env)] := rfl
    rw [he, List.map_cons, List.map_nil, assignStores_one]
    dsimp only
    rw [assign_Tuple]
    refine wpAny_bind ?_
    have hfi := findIdx_names env xs
    refine wpAny_bind (wpAny_standAt (unpack_tuple R.handled ht (by rw [names_length, List.size_toArray, rs.length]; exact hz.1.symm) hfi fun h' hx => ?_))
    have p₂ : Step W .none Z₁ s₁ Z₁ { s₁ with heap := h' } := .grow p₁.inv (tk := s₁.toks) fun b o e => hx b o (Nat.ne_of_lt (Heap.lt_size e)) e
    have rs₂ := rs.step p₂ (fun _ _ h => h) fun _ _ h => h
    have pp := (FStep.pure L p₁).trans (FStep.pure (L.step0 p₁) p₂)
    have fr : ∀ b ∈ as, ¬ FOwn env ρ α b := fun b hb fo => by
      obtain ⟨o, e⟩ := L.alive fo
      rw [(rs.fresh b hb).1] at e; cases e
    exact storeMany I L hE (stores_names xs) rs₂ (by simp [hz.1]) hk fr pp fun s' α' p' => wpAny_pure (q .next s' Z₁ α' p' trivial)
-- while
def whileA (c : Slots → Option Bool) (B : Slots → Option (AFlow × Slots)) : Nat → Slots → Option (AFlow × Slots)
  | 0, _ => none
  | n + 1, ρ => c ρ >>= fun b => if b = true then (B ρ >>= fun r => match r with
      | (.next, ρ') => whileA c B n ρ'
      | (.cont, ρ') => whileA c B n ρ'
      | (.brk, ρ') => some (.next, ρ')
      | (.ret v, ρ') => some (.ret v, ρ')) else some (.next, ρ)
theorem den_while (n : Nat) {test : Expr} {body : List Stmt} {pos : Pos} {c : Slots → Option Bool} {B : Slots → Option (AFlow × Slots)} (ht : DenT W d sc test c) (hb : DenSs W d sc body B) : DenS W d sc (.While test body [] pos) fun ρ => whileA c B n ρ := by
  intro A env Z s ρ α fl ρ' R hE I L hf Q E' q
  refine wpAny_While (codeAny_whileLoop (fun k s' => ∃ Z' ρ₁ α', FStep W env Z s ρ α Z' s' ρ₁ α' ∧ whileA c B k ρ₁ = some (fl, ρ')) ?_ n ⟨Z, ρ, α, .id I L, hf⟩)
  rintro k s₁ ⟨Z₁, ρ₁, α₁, p₁, hw⟩
  cases k with
  | zero => cases hw
  | succ k =>
    unfold whileA at hw
    obtain ⟨b, hb', hw⟩ := bindO hw
    refine ht A env Z₁ s₁ ρ₁ α₁ b R hE p₁.step.inv p₁.loc hb' _ _ fun s₂ Z₂ p₂ => ?_
    have pp := p₁.trans (FStep.pure p₁.loc p₂)
    cases b with
    | false =>
      cases hw
      exact wpAny_execs_nil (q .next s₂ Z₂ α₁ pp trivial)
    | true =>
      obtain ⟨⟨fl₂, ρ₂⟩, h₂, hw⟩ := bindO hw
      refine hb A env Z₂ s₂ ρ₁ α₁ fl₂ ρ₂ R hE p₂.inv pp.loc h₂ _ _ fun f s₃ Z₃ α₃ p₃ r₃ => ?_
      have ppp := pp.trans p₃
      clear h₂ p₃ pp
      revert hw
      apply flow_cases r₃
      · exact fun hw => ⟨k, Nat.lt_succ_self k, Z₃, ρ₂, α₃, ppp, hw⟩
      · intro hw; cases hw; exact q .next s₃ Z₃ α₃ ppp trivial
      · exact fun hw => ⟨k, Nat.lt_succ_self k, Z₃, ρ₂, α₃, ppp, hw⟩
      · intro v a r hw; cases hw; exact q _ s₃ Z₃ α₃ ppp r
end
end Mine
end
section
set_option linter.unusedVariables false
namespace Mine
section
variable {W : Wd} {Z Z' Z₁ Z₀ : AddrSet} {s s' s₁ s₀ : Shared} {env : Env} {sc : Scope} {ρ ρ' ρ₀ : Slots} {α α' α₀ : Str → Addr} {A : Around} {d : Nat}
def IterAt (W : Wd) (A : Around) (Z : AddrSet) (s₀ s : Shared) (target : Expr) (it : Value) (items : List AV) : Prop :=
  ∃ (I : Addr) (fp wr : List Addr) (P : Nat → Value → Prop) (St : Nat → Heap → Prop), it = .ref I ∧ Walks W.prog W.w A I fp wr items.length P St ∧ St 0 s.heap ∧
    (∀ i v, P i v → ∃ a, items[i]? = some a ∧ RepV Z s.heap v a) ∧ (∀ b ∈ wr, s₀.heap.get? b = none ∧ ¬ Z b) ∧ (∀ b ∈ fp, b ∈ wr ∨ Z b) ∧ (∀ i h, St i h → ∀ b ∈ wr, ∃ o, h.get? b = some o) ∧
    (∀ i v (s' : Shared) (Q : Unit → Shared → Prop) (E' : Value → Shared → Prop), St i s'.heap → Q () s' → wpAny W.M A (letOwnedTupleGo target it v) Q E' s')
def DenIt (W : Wd) (d : Nat) (sc : Scope) (target e : Expr) (g : Slots → Option (List AV)) : Prop :=
  ∀ (A : Around) (env : Env) (Z : AddrSet) (s : Shared) (ρ : Slots) (α : Str → Addr) (items : List AV), Room A d → EnvOk env sc → Inv W Z s → Loc W Z s.heap env ρ α → g ρ = some items →
    ∀ (Q : Value → Shared → Prop) (E' : Value → Shared → Prop), (∀ x s₁ Z₁, Step W .none Z s Z₁ s₁ → (∀ (Q' : Value → Shared → Prop) (E'' : Value → Shared → Prop), (∀ it s₂ Z₂, Step W .none Z₁ s₁ Z₂ s₂ → IterAt W A Z₂ s s₂ target it items → Q' it s₂) → wpAny W.M A (pyIter x) Q' E'' s₁) → Q x s₁) →
      wpAny W.M A (eval e env) Q E' s
inductive PlainTg : Expr → Prop
  | name (x : Str) (p : Pos) : PlainTg (.Name x p)
  | tup (es : List Expr) (k : Nat) (p : Pos) : PlainTg (.Tuple es k p)
theorem letGo_cls {target : Expr} {I : Addr} {o : Obj} {n : String} {v : Value} {Q : Unit → Shared → Prop} {E' : Value → Shared → Prop} (ht : PlainTg target) (ho : s.heap.get? I = some o) (hc : o.cls = .type n)
    (hn : (["enumerate", "zip", "dict_itemiterator", "dict_reverseitemiterator", "odict_iterator", "itertools.zip_longest", "itertools.pairwise"] : List String).contains n = false) (q : Q () s) : wpAny W.M A (letOwnedTupleGo target (.ref I) v) Q E' s := by
  cases ht with
  | name => exact wpAny_pure q
  | tup es k p =>
    unfold letOwnedTupleGo
    cases v with
    | ref a =>
      refine wpAny_bind (wpAny_load ho ?_)
      obtain ⟨c, dd, dat, sl⟩ := o
      cases (show c = _ from hc)
      cases dat with
      | fields vs =>
        simp only [hn, Bool.false_and, Bool.false_eq_true, if_false]
        exact wpAny_pure q
      | _ => exact wpAny_pure q
    | _ => exact wpAny_pure q
def signsA (x : Str) : List AV := x.cps.toList.map fun c => .str (sign1 c)
def iterA : AV → Option (List AV)
  | .lst l => some l
  | .tup l => some l
  | .str x => some (signsA x)
  | _ => none
theorem RepVs.back {h : Heap} {vs : List Value} {l : List AV} (rl : RepVs Z h vs l) {i : Nat} {w : Value} (hw : vs.toArray[i]? = some w) : ∃ a, l[i]? = some a ∧ RepV Z h w a := by
  rw [List.getElem?_toArray] at hw
  have hlt : i < l.length := by
    rw [← rl.length]; exact (List.getElem?_eq_some_iff.mp hw).1
  obtain ⟨u, hu, ru⟩ := rl.get (List.getElem?_eq_getElem hlt)
  rw [hw] at hu; cases hu
  exact ⟨_, List.getElem?_eq_getElem hlt, ru⟩
theorem iter_seq {a : Addr} {vs : List Value} {items : List AV} {target : Expr} {T : String} {St : Nat → Heap → Prop} (ht : PlainTg target) (I : Inv W Z s) (hb : ∀ a, s.heap.get? a = none → s₀.heap.get? a = none) (z : Z a) (rl : RepVs Z s.heap vs items)
    (hn : (["enumerate", "zip", "dict_itemiterator", "dict_reverseitemiterator", "odict_iterator", "itertools.zip_longest", "itertools.pairwise"] : List String).contains T = false)
    (Wk : Walks W.prog W.w A s.heap.objs.size [s.heap.objs.size, a] [s.heap.objs.size] vs.toArray.size (fun i v => vs.toArray[i]? = some v) St) (hst : ∀ i h, St i h → ∃ o, h.get? s.heap.objs.size = some o ∧ o.cls = .type T) (st : St 0 (s.heap.push { cls := .type T, data := .fields #[.ref a, .int 0 0] })) :
    IterAt W A Z s₀ { s with heap := s.heap.push { cls := .type T, data := .fields #[.ref a, .int 0 0] } } target (.ref s.heap.objs.size) items := by
  have p : Step W .none Z s Z { s with heap := s.heap.push { cls := .type T, data := .fields #[.ref a, .int 0 0] } } := .grow I (tk := s.toks) (push_keep _ _)
  rw [show vs.toArray.size = items.length from rl.length] at Wk
  refine ⟨s.heap.objs.size, [s.heap.objs.size, a], [s.heap.objs.size], _, St, rfl, Wk, st, fun i w hw => ?_, fun b hb' => ?_, fun b hb' => ?_, fun i h st b hb' => ?_, fun i w s' Q E'' st q' => ?_⟩
  · obtain ⟨b, hb', ru⟩ := rl.back hw; exact ⟨b, hb', p.rep0 ru⟩
  · cases List.mem_singleton.mp hb'; exact ⟨hb _ (push_none _), I.fresh_z (push_none _)⟩
  · rcases List.mem_cons.mp hb' with e | e
    · exact .inl (e ▸ List.mem_singleton_self _)
    · cases List.mem_singleton.mp e; exact .inr z
  · cases List.mem_singleton.mp hb'; obtain ⟨o, ho, _⟩ := hst i h st; exact ⟨o, ho⟩
  · obtain ⟨o, ho, hc⟩ := hst i _ st
    exact letGo_cls ht ho hc hn q'
theorem iter_val {v : Value} {av : AV} {items : List AV} {target : Expr} (ht : PlainTg target) (R : Room A d) (I : Inv W Z s) (hb : ∀ a, s.heap.get? a = none → s₀.heap.get? a = none) (r : RepV Z s.heap v av) (h : iterA av = some items) {Q : Value → Shared → Prop} {E' : Value → Shared → Prop}
    (q : ∀ it s₂ Z₂, Step W .none Z s Z₂ s₂ → IterAt W A Z₂ s₀ s₂ target it items → Q it s₂) : wpAny W.M A (pyIter v) Q E' s := by
  cases av with
  | lst _ =>
    cases h
    obtain ⟨a, vs, rfl, z, hl, rl⟩ := r.lst'
    have hne : a ≠ s.heap.objs.size := by obtain ⟨o, ho, _⟩ := hl; exact Nat.ne_of_lt (Heap.lt_size ho)
    refine wpAny_pyIter_list hl (q _ _ Z (.grow I (tk := s.toks) (push_keep _ _)) (iter_seq ht I hb z rl (by decide) (Walks.list (prog := W.prog) (w := W.w) R.handled s.heap.objs.size a hne vs.toArray) (fun i h st => ?_) ⟨⟨_, Heap.get?_push_size _ rfl, rfl, rfl⟩, let ⟨o, ho, r⟩ := hl; ⟨o, Heap.get?_push_of_some _ ho, r⟩⟩))
    obtain ⟨o, ho, hc, _⟩ := st.1; exact ⟨o, ho, hc⟩
  | tup _ =>
    cases h
    obtain ⟨a, vs, rfl, z, hl, rl⟩ := r.tup'
    have hne : a ≠ s.heap.objs.size := by obtain ⟨o, ho, _⟩ := hl; exact Nat.ne_of_lt (Heap.lt_size ho)
    refine wpAny_pyIter_tuple hl (q _ _ Z (.grow I (tk := s.toks) (push_keep _ _)) (iter_seq ht I hb z rl (by decide) (Walks.tuple (prog := W.prog) (w := W.w) R.handled s.heap.objs.size a hne vs.toArray) (fun i h st => ?_) ⟨⟨_, Heap.get?_push_size _ rfl, rfl, rfl⟩, let ⟨o, ho, r⟩ := hl; ⟨o, Heap.get?_push_of_some _ ho, r⟩⟩))
    obtain ⟨o, ho, hc, _⟩ := st.1; exact ⟨o, ho, hc⟩
  | str x =>
    cases h
    obtain ⟨t, rfl⟩ := r.str'
    refine wpAny_pyIter_strU ?_
    have p : Step W .none Z s Z { s with heap := s.heap.push { cls := .type (strIterType x), data := .fields #[.str x t, .int 0 0] } } := .grow I (tk := s.toks) (push_keep _ _)
    refine q _ _ Z p ⟨s.heap.objs.size, [s.heap.objs.size], [s.heap.objs.size], SignAt x, fun i h => h.IsStrIter s.heap.objs.size (strIterType x) x t i, rfl, ?_, ⟨_, Heap.get?_push_size _ rfl, rfl, rfl⟩, fun i w hw => ?_, fun b hb' => ?_, fun b hb' => ?_, fun i h st b hb' => ?_, fun i w s' Q E'' st q' => ?_⟩
    · rw [show (signsA x).length = x.cps.size by simp [signsA]]
      cases ha : x.cps.all (· < 128)
      · have := Walks.strWide (prog := W.prog) (w := W.w) R.handled s.heap.objs.size x t
        simpa [strIterType, ha] using this
      · have := Walks.strAscii (prog := W.prog) (w := W.w) R.handled s.heap.objs.size x t
        simpa [strIterType, ha] using this
    · obtain ⟨c, u, hc, rfl⟩ := hw
      exact ⟨.str (sign1 c), by simp [signsA, hc], .str _ _⟩
    · cases List.mem_singleton.mp hb'; exact ⟨hb _ (push_none _), I.fresh_z (push_none _)⟩
    · exact .inl hb'
    · cases List.mem_singleton.mp hb'; obtain ⟨o, ho, _⟩ := st; exact ⟨o, ho⟩
    · obtain ⟨o, ho, hc, _⟩ := st
      refine letGo_cls ht ho hc ?_ q'
      unfold strIterType
      split <;> decide
  | _ => cases h
theorem it_val {target e : Expr} {f : Slots → Option AV} (h : DenP W d sc e f) (ht : PlainTg target) : DenIt W d sc target e fun ρ => f ρ >>= iterA := by
  intro A env Z s ρ α items R hE I L hf Q E' q
  obtain ⟨a, ha, hf⟩ := bindO hf
  exact h A env Z s ρ α a R hE I L ha _ _ fun v s₁ Z₁ p₁ r₁ => q v s₁ Z₁ p₁ fun Q' E'' q' => iter_val (s₀ := s) ht R p₁.inv (fun a h => (p₁.none_back h).resolve_left id) r₁ hf q'
theorem small_ok {a b c : Int} (ha : -1000000000 < a ∧ a < 1000000000) (hb : -1000000000 < b ∧ b < 1000000000) (hc : 0 < c ∧ c < 1000000000) : Builtin.Range.small a b c = true := by
  have h0 : 0 ≤ Builtin.Range.rangeSize a b c ∧ Builtin.Range.rangeSize a b c ≤ 3000000000 := by
    unfold Builtin.Range.rangeSize
    rw [if_pos (by (first | lia | omega))]
    split
    · have h1 : 0 ≤ (b - a - 1) / c := Int.ediv_nonneg (by (first | lia | omega)) (by (first | lia | omega))
      have h2 : (b - a - 1) / c ≤ b - a - 1 := Int.ediv_le_self _ (by (first | lia | omega))
      (first | lia | omega)
    · (first | lia | omega)
  have hf : ∀ x : Int, -10000000000 < x → x < 10000000000 → Builtin.Range.rangeFitsLong x = true := fun x h1 h2 => by
    unfold Builtin.Range.rangeFitsLong; simp; (first | lia | omega)
  unfold Builtin.Range.small
  rw [hf a (by (first | lia | omega)) (by (first | lia | omega)), hf b (by (first | lia | omega)) (by (first | lia | omega)), hf c (by (first | lia | omega)) (by (first | lia | omega)), hf _ (by (first | lia | omega)) (by (first | lia | omega)), if_pos (by (first | lia | omega)), hf (b + (c - 1)) (by (first | lia | omega)) (by (first | lia | omega))]
  simp
def rangeL (a c : Int) : Nat → List AV
  | 0 => []
  | n + 1 => .int a :: rangeL (a + c) c n
theorem rangeL_get (c : Int) : ∀ (n : Nat) (a : Int) (i : Nat), i < n → (rangeL a c n)[i]? = some (.int (a + i * c))
  | 0, _, _, h => by (first | lia | omega)
  | n + 1, a, 0, _ => by simp [rangeL]
  | n + 1, a, i + 1, h => by
    rw [rangeL, List.getElem?_cons_succ, rangeL_get c n (a + c) i (by (first | lia | omega))]
    congr 2
    push_cast
    rw [Int.add_mul, Int.one_mul]; (first | lia | omega)
theorem rangeL_length (c : Int) : ∀ (n : Nat) (a : Int), (rangeL a c n).length = n
  | 0, _ => rfl
  | n + 1, a => by simp [rangeL, rangeL_length c n]
def rangeI : List Int → Option (List AV)
  | [n] => if -1000000000 < n ∧ n < 1000000000 then some (rangeL 0 1 n.toNat) else none
  | [a, b] => if -1000000000 < a ∧ a < 1000000000 ∧ -1000000000 < b ∧ b < 1000000000 then some (rangeL a 1 (b - a).toNat) else none
  | [a, b, c] => if -1000000000 < a ∧ a < 1000000000 ∧ -1000000000 < b ∧ b < 1000000000 ∧ 0 < c ∧ c < 1000000000 then some (rangeL a c (if a < b then ((b - a - 1) / c + 1).toNat else 0)) else none
  | _ => none
def rangeA (l : List AV) : Option (List AV) := intsOf l >>= rangeI
theorem rangeA_1 (n : Int) : rangeA [.int n] = rangeI [n] := rfl
theorem rangeA_3 (a b c : Int) : rangeA [.int a, .int b, .int c] = rangeI [a, b, c] := rfl
theorem size_one (a b : Int) : Builtin.Range.rangeSize a b 1 = (b - a).toNat := by
  simp only [Builtin.Range.rangeSize]; split <;> split <;> (first | lia | omega)
abbrev rangeObj (a b c : Int) (t u v : Tok) : Obj := { cls := .type "range", data := .fields #[.int a t, .int b u, .int c v] }
theorem small_abs {c : Int} (h0 : 0 < c) (h1 : c < 1000000000) : c.natAbs < 1073741824 := by (first | lia | omega)
theorem size_pos (a b c : Int) (h0 : 0 < c) : Builtin.Range.rangeSize a b c = ((if a < b then ((b - a - 1) / c + 1).toNat else 0 : Nat) : Int) := by
  unfold Builtin.Range.rangeSize
  rw [if_pos h0]
  by_cases hab : a < b
  · have h1 : 0 ≤ (b - a - 1) / c := Int.ediv_nonneg (by (first | lia | omega)) (Int.le_of_lt h0)
    rw [if_pos hab, if_pos hab, Int.toNat_of_nonneg (Int.le_trans h1 (Int.le_add_one (Int.le_refl _)))]
  · rw [if_neg hab, if_neg hab]; rfl
theorem iter_range {r : Addr} {a b c : Int} {t u v : Tok} {n : Nat} {target : Expr} (ht : PlainTg target) (R : Room A d) (I : Inv W Z s) (hb : ∀ a, s.heap.get? a = none → s₀.heap.get? a = none) (hr : IsRange s.heap r a b c t u v) (hsm : Builtin.Range.small a b c = true) (hn : Builtin.Range.rangeSize a b c = n) {Q : Value → Shared → Prop} {E' : Value → Shared → Prop}
    (q : ∀ it s₂ Z₂, Step W .none Z s Z₂ s₂ → IterAt W A Z₂ s₀ s₂ target it (rangeL a c n) → Q it s₂) : wpAny W.M A (pyIter (.ref r)) Q E' s := by
  refine wpAny_pyIter_range hr hsm ?_
  have p : Step W .none Z s Z { s with heap := s.heap.push { cls := .type "range_iterator", data := .fields #[rawInt a, rawInt (Builtin.Range.rangeSize a b c), rawInt c] } } := .grow I (tk := s.toks) (push_keep _ _)
  refine q _ _ Z p ⟨s.heap.objs.size, [s.heap.objs.size], [s.heap.objs.size], fun i v => i < n ∧ ∃ t, v = .int (a + i * c) t, fun i h => IsRangeIter h s.heap.objs.size (a + (i : Nat) * c) ((n : Int) - (i : Nat)) c, rfl, ?_, ?_, fun i w hw => ?_, fun b hb' => ?_, fun b hb' => ?_, fun i h st b hb' => ?_, fun i w s' Q E'' st q' => ?_⟩
  · have W' := Walks.range (prog := W.prog) (w := W.w) R.handled s.heap.objs.size a c n
    rw [rangeL_length]
    exact ⟨W'.sub, W'.frame, fun i s Q E hi st hQ => W'.item i s Q E hi st fun v h' tk hv => hQ v h' tk ⟨hi, hv⟩, W'.done, W'.self⟩
  · have := Heap.get?_push_size s.heap (o := { cls := .type "range_iterator", data := .fields #[rawInt a, rawInt (Builtin.Range.rangeSize a b c), rawInt c] }) rfl
    simpa [hn] using this
  · obtain ⟨hi, t, rfl⟩ := hw
    exact ⟨_, rangeL_get c n a i hi, .int _ _⟩
  · cases List.mem_singleton.mp hb'; exact ⟨hb _ (push_none _), I.fresh_z (push_none _)⟩
  · exact .inl hb'
  · cases List.mem_singleton.mp hb'; exact ⟨_, st⟩
  · exact letGo_cls ht st rfl (by decide) q'
theorem it_range {target : Expr} {np pos : Pos} {es : List Expr} {fs : Slots → Option (List AV)} (hg : W.Glob "range" (.type "range")) (hk : sc.names.lookup ("range" : Str) = some .globalImplicit) (ha : DenPs W d sc es fs) (hns : ∀ env pos, (backTo pos (starEach es env)).any (·.1) = false) (ht : PlainTg target) :
    DenIt W d sc target (.Call (.Name "range" np) es [] pos) fun ρ => fs ρ >>= rangeA := by
  intro A env Z s ρ α items R hE I L hf Q E' q
  obtain ⟨l, hl, hf⟩ := bindO hf
  show wpAny _ _ (do callWith pos (← eval (.Name "range" np) env) [] (backTo pos (starEach es env)) (backToKw pos (keywordEach [] env))) _ _ _
  refine wpAny_bind (load_glob hE I hg hk (by decide) (callWith_den (keep_type "range") ha hns R hE I L hl fun vs s₁ Z₁ p₁ r₁ => ?_))
  obtain ⟨ns, hns', hf⟩ := bindO hf
  have ri := ints_rep r₁ hns'
  have core : ∀ (a b c : Int) (t u v : Tok) (tk : Nat) (n : Nat), Builtin.Range.small a b c = true → Builtin.Range.rangeSize a b c = n → items = rangeL a c n →
      Q (.ref s₁.heap.objs.size) { s₁ with heap := s₁.heap.push (rangeObj a b c t u v), toks := tk } := fun a b c t u v tk n hsm hn hit => by
    have p₂ : Step W .none Z₁ s₁ Z₁ { s₁ with heap := s₁.heap.push (rangeObj a b c t u v), toks := tk } := .grow p₁.inv (push_keep _ _)
    subst hit
    exact q _ _ Z₁ (p₁.tr p₂) fun Q' E'' q' => iter_range (s₀ := s) ht R p₂.inv (fun a h => ((p₁.tr p₂).none_back h).resolve_left id) (Heap.get?_push_size _ rfl) hsm hn q'
  cases ri with
  | nil => cases hf
  | cons a t ri => cases ri with
    | nil =>
      obtain ⟨hb, hf⟩ := iteO hf; cases hf
      exact call_range_1 (core _ _ _ _ _ _ _ _ (small_ok ⟨by decide, by decide⟩ hb ⟨by decide, by decide⟩) (by rw [size_one, Int.sub_zero]) rfl)
    | cons b t' ri => cases ri with
      | nil =>
        obtain ⟨hb, hf⟩ := iteO hf; cases hf
        exact call_range_2 (core _ _ _ _ _ _ _ _ (small_ok ⟨hb.1, hb.2.1⟩ hb.2.2 ⟨by decide, by decide⟩) (size_one _ _) rfl)
      | cons c t'' ri => cases ri with
        | nil =>
          obtain ⟨hb, hf⟩ := iteO hf; cases hf
          have hc0 := hb.2.2.2.2.1
          have hc1 := hb.2.2.2.2.2
          refine call_range_3 (Int.ne_of_gt hc0) (core _ _ _ _ _ _ _ _ (small_ok ⟨hb.1, hb.2.1⟩ ⟨hb.2.2.1, hb.2.2.2.1⟩ hb.2.2.2.2) ?_ rfl) (.inl (PyProof.noPylong_small (small_abs hc0 hc1)))
          exact size_pos a b c hc0
        | cons => cases hf
theorem FStep.other {O : Own} (p : FStep W env Z s ρ α Z₁ s₁ ρ' α') (q : Step W O Z₁ s₁ Z' s') (ho : ∀ a, O.a a → s.heap.get? a = none ∧ ¬ FOwn env ρ' α' a ∧ ¬ Z₁ a) (hg : ∀ i, ¬ O.g i) : FStep W env Z s ρ α Z' s' ρ' α' :=
  ⟨p.step.trans q (fun a h => .inr (ho a h).1) (fun i h => (hg i h).elim), p.fo, p.loc.step q fun a h => (ho a h).2⟩
theorem Step.writes (I : Inv W Z s) {wr : List Addr} {h' : Heap} {tk : Nat} (hk : ∀ b o, b ∉ wr → s.heap.get? b = some o → h'.get? b = some o) (hw : ∀ b ∈ wr, W.h₀.get? b = none ∧ ¬ W.X b ∧ ¬ Z b) : Step W (.addrs (· ∈ wr)) Z s Z { s with heap := h', toks := tk } :=
  ⟨⟨I.ok, fun b o e x => hk b o (fun hb => by rw [(hw b hb).1] at e; cases e) (I.base b o e x), fun b x => let ⟨o, e⟩ := I.xs b x; ⟨o, hk b o (fun hb => (hw b hb).2.1 x) e⟩, fun b z => let ⟨o, e⟩ := I.zin b z; ⟨o, hk b o (fun hb => (hw b hb).2.2 z) e⟩, I.os, I.bare⟩,
    fun b o hb e => hk b o hb e, fun _ z => z, fun _ z => .inl z, fun _ _ _ e => e⟩
def forA (T : AV → Slots → Option Slots) (B : Slots → Option (AFlow × Slots)) : List AV → Slots → Option (AFlow × Slots)
  | [], ρ => some (.next, ρ)
  | a :: l, ρ => T a ρ >>= fun ρ₁ => B ρ₁ >>= fun r => match r with
      | (.next, ρ') => forA T B l ρ'
      | (.cont, ρ') => forA T B l ρ'
      | (.brk, ρ') => some (.next, ρ')
      | (.ret v, ρ') => some (.ret v, ρ')
structure ForInv (W : Wd) (env : Env) (Z : AddrSet) (s : Shared) (ρ : Slots) (α : Str → Addr) (wr : List Addr) (St : Nat → Heap → Prop) (Z₂ : AddrSet) (s₂ s' : Shared) (i : Nat) (Z' : AddrSet) (ρ₁ : Slots) (α' : Str → Addr) : Prop where
  f : FStep W env Z s ρ α Z' s' ρ₁ α'
  st : St i s'.heap
  w : ∀ b ∈ wr, ¬ FOwn env ρ₁ α' b ∧ ¬ Z' b
  z : ∀ b o, Z₂ b → s₂.heap.get? b = some o → s'.heap.get? b = some o
  zz : ∀ b, Z₂ b → Z' b
structure ForAt (W : Wd) (A : Around) (env : Env) (Z : AddrSet) (s : Shared) (fp wr : List Addr) (St : Nat → Heap → Prop) (P : Nat → Value → Prop) (n : Nat) (J : Addr) (Z₂ : AddrSet) : Prop where
  I : Inv W Z s
  Wk : Walks W.prog W.w A J fp wr n P St
  hw : ∀ b ∈ wr, s.heap.get? b = none ∧ ¬ Z₂ b
  hf : ∀ b ∈ fp, b ∈ wr ∨ Z₂ b
  ob : ∀ i h, St i h → ∀ b ∈ wr, ∃ o, h.get? b = some o
section
variable {fp wr : List Addr} {St : Nat → Heap → Prop} {P : Nat → Value → Prop} {n i : Nat} {J : Addr} {Z₂ Z₃ Z₆ : AddrSet} {s₂ s₃ s₆ : Shared} {ρ₃ ρ₆ : Slots} {α₃ α₆ : Str → Addr}
theorem ForInv.drawn (k : ForAt W A env Z s fp wr St P n J Z₂) (c : ForInv W env Z s ρ α wr St Z₂ s₂ s₃ i Z₃ ρ₃ α₃) {h' : Heap} {tk : Nat} {j : Nat} (st : St j h') (hk : ∀ b o, b ∉ wr → s₃.heap.get? b = some o → h'.get? b = some o) :
    ForInv W env Z s ρ α wr St Z₂ s₂ { s₃ with heap := h', toks := tk } j Z₃ ρ₃ α₃ := by
  have p₄ : Step W (.addrs (· ∈ wr)) Z₃ s₃ Z₃ { s₃ with heap := h', toks := tk } := .writes c.f.step.inv hk fun b hb => ⟨k.I.fresh_b (k.hw b hb).1, k.I.fresh_x (k.hw b hb).1, (c.w b hb).2⟩
  exact ⟨c.f.other p₄ (fun a ha => ⟨(k.hw a ha).1, c.w a ha⟩) (fun _ h => h), st, c.w, fun b o z e => hk b o (fun hb => (c.w b hb).2 (c.zz b z)) (c.z b o z e), c.zz⟩
theorem ForInv.step (k : ForAt W A env Z s fp wr St P n J Z₂) (c : ForInv W env Z s ρ α wr St Z₂ s₂ s₃ i Z₃ ρ₃ α₃) (p : FStep W env Z₃ s₃ ρ₃ α₃ Z₆ s₆ ρ₆ α₆) : ForInv W env Z s ρ α wr St Z₂ s₂ s₆ i Z₆ ρ₆ α₆ := by
  refine ⟨c.f.trans p, k.Wk.frame _ _ _ c.st fun b hb o e => p.step.keep b o (fun fo => ?_) e, fun b hb => ?_, fun b o z e => p.step.keep b o (fun fo => c.f.loc.nz b fo (c.zz b z)) (c.z b o z e), fun b z => p.step.zsub b (c.zz b z)⟩
  · rcases k.hf b hb with h | h
    · exact (c.w b h).1 fo
    · exact c.f.loc.nz b fo (c.zz b h)
  · obtain ⟨o, e⟩ := k.ob _ _ c.st b hb
    refine ⟨fun fo => ?_, fun z => ?_⟩
    · rcases p.fo b fo with h | h
      · exact (c.w b hb).1 h
      · rw [e] at h; cases h
    · rcases p.step.znew b z with h | h | h
      · exact (c.w b hb).2 h
      · exact (c.w b hb).1 h
      · rw [e] at h; cases h
end
theorem for_loop {target : Expr} {body : List Stmt} {T : AV → Slots → Option Slots} {B : Slots → Option (AFlow × Slots)} {items : List AV} {fl : AFlow} {fp wr : List Addr} {St : Nat → Heap → Prop} {P : Nat → Value → Prop} {J : Addr} {Z₂ : AddrSet} {s₂ : Shared} {Rr : Result → Shared → Prop}
    (ht : DenTg W d sc target T) (hb : DenSs W d sc body B) (R : Room A d) (hE : EnvOk env sc) (k : ForAt W A env Z s fp wr St P items.length J Z₂) (c : ForInv W env Z s ρ α wr St Z₂ s₂ s₂ 0 Z₂ ρ α) (hP : ∀ i v, P i v → ∃ a, items[i]? = some a ∧ RepV Z₂ s₂.heap v a)
    (hgo : ∀ i v (s' : Shared) (Q : Unit → Shared → Prop) (E' : Value → Shared → Prop), St i s'.heap → Q () s' → wpAny W.M A (letOwnedTupleGo target (.ref J) v) Q E' s') (hf : forA T B items ρ = some (fl, ρ'))
    (q : ∀ f s' Z' α', FStep W env Z s ρ α Z' s' ρ' α' → FlowRep Z' s'.heap f fl → Rr (.ok f) s') : codeAny W.M A (.forLoop target (.ref J) body [] env) Rr s₂ := by
  refine codeAny_forLoop_any (fun k s' => ∃ Z' ρ₁ α' i, ForInv W env Z s ρ α wr St Z₂ s₂ s' i Z' ρ₁ α' ∧ k = items.length - i ∧ i ≤ items.length ∧ forA T B (items.drop i) ρ₁ = some (fl, ρ')) ?_ items.length ⟨Z₂, ρ, α, 0, c, rfl, Nat.zero_le _, hf⟩
  clear c hf
  rintro _ s₃ ⟨Z₃, ρ₃, α₃, i, c, rfl, hi', hfa⟩
  by_cases hlt : i < items.length
  · refine k.Wk.item i s₃ _ _ hlt c.st fun v h' tk hv st₄ hk => ?_
    have c4 := c.drawn (tk := tk) k st₄ hk
    clear c
    obtain ⟨a, ha, ra⟩ := hP i v hv
    refine hgo (i + 1) v _ _ _ st₄ ?_
    rw [List.drop_eq_getElem_cons hlt, Option.some.inj ((List.getElem?_eq_getElem hlt).symm.trans ha)] at hfa
    unfold forA at hfa
    obtain ⟨ρ₅, h₅, hfa⟩ := bindO hfa
    obtain ⟨⟨fl₆, ρ₆⟩, h₆, hfa⟩ := bindO hfa
    refine ht A env Z₃ _ ρ₃ α₃ v a ρ₅ R hE c4.f.step.inv c4.f.loc (ra.mono c4.zz c4.z) h₅ _ _ fun s₅ Z₅ α₅ f₅ => ?_
    have c5 := c4.step k f₅
    clear c4 f₅ h₅
    refine hb A env Z₅ s₅ ρ₅ α₅ fl₆ ρ₆ R hE c5.f.step.inv c5.f.loc h₆ _ _ fun f s₆ Z₆ α₆ f₆ r₆ => ?_
    have c6 := c5.step k f₆
    have hlt' : items.length - (i + 1) < items.length - i := Nat.sub_lt_sub_left hlt (Nat.lt_succ_self i)
    clear h₆ f₆ c5
    revert hfa
    apply flow_cases r₆
    · exact fun hfa => ⟨items.length - (i + 1), hlt', Z₆, ρ₆, α₆, i + 1, c6, rfl, hlt, hfa⟩
    · intro hfa; cases hfa; exact q .next s₆ Z₆ α₆ c6.f trivial
    · exact fun hfa => ⟨items.length - (i + 1), hlt', Z₆, ρ₆, α₆, i + 1, c6, rfl, hlt, hfa⟩
    · intro v a r hfa; cases hfa; exact q _ s₆ Z₆ α₆ c6.f r
  · have hin : i = items.length := Nat.le_antisymm hi' (Nat.le_of_not_lt hlt)
    rw [hin, List.drop_length] at hfa
    cases hfa
    have hst : St items.length s₃.heap := hin ▸ c.st
    refine k.Wk.done s₃ _ _ hst fun h' tk hk => ?_
    have p₄ : Step W (.addrs (· ∈ wr)) Z₃ s₃ Z₃ { s₃ with heap := h', toks := tk } := .writes c.f.step.inv hk fun b hb => ⟨k.I.fresh_b (k.hw b hb).1, k.I.fresh_x (k.hw b hb).1, (c.w b hb).2⟩
    exact wpAny_execs_nil (q .next _ Z₃ α₃ (c.f.other p₄ (fun a ha => ⟨(k.hw a ha).1, c.w a ha⟩) (fun _ h => h)) trivial)
theorem den_for {target iter : Expr} {body : List Stmt} {pos : Pos} {g : Slots → Option (List AV)} {T : AV → Slots → Option Slots} {B : Slots → Option (AFlow × Slots)} (hi : DenIt W d sc target iter g) (ht : DenTg W d sc target T) (hb : DenSs W d sc body B) (hs : ∀ env x, foldedSetIterable iter env x = pure x) :
    DenS W d sc (.For target iter body [] pos) fun ρ => g ρ >>= fun items => forA T B items ρ := by
  intro A env Z s ρ α fl ρ' R hE I L hf Q E' q
  obtain ⟨items, hit, hf⟩ := bindO hf
  refine wpAny_For (hi A env Z s ρ α items R hE I L hit _ _ fun x s₁ Z₁ p₁ hx => hx _ _ fun it s₂ Z₂ p₂ hI => ?_) (hs env)
  obtain ⟨J, fp, wr, P, St, rfl, Wk, st, hP, hwr, hfp, hob, hgo⟩ := hI
  refine for_loop ht hb R hE ⟨I, Wk, hwr, hfp, hob⟩ ⟨(FStep.pure L p₁).trans (FStep.pure (L.step0 p₁) p₂), st, fun b hb => ⟨fun f => ?_, (hwr b hb).2⟩, fun _ _ _ e => e, fun _ z => z⟩ hP hgo hf q
  obtain ⟨o, e⟩ := L.alive f; rw [(hwr b hb).1] at e; cases e
end
end Mine
end
section
set_option linter.unusedVariables false
set_option linter.unusedSimpArgs false
namespace Mine
section
variable {W : Wd} {Z Z' Z₁ Z₀ : AddrSet} {s s' s₁ s₀ : Shared} {env : Env} {sc : Scope} {ρ ρ' ρ₀ : Slots} {α α' α₀ : Str → Addr} {A : Around} {d : Nat}
-- closures
def closeL (env : Env) : List (Str × NameKind) → List (Str × Addr) → List (Str × Addr)
  | [], cs => cs
  | (n, k) :: r, cs => if k == .free then closeL env r ((n, (env.cells.lookup n).getD 0) :: cs) else closeL env r cs
theorem closureFor_eq {scope : Scope} (h : ∀ n, (n, NameKind.free) ∈ scope.names → ∃ c, env.cells.lookup n = some c) : closureFor scope env = pure (closeL env scope.names []) := by
  have key : ∀ (names : List (Str × NameKind)) (cs : List (Str × Addr)), (∀ n, (n, NameKind.free) ∈ names → ∃ c, env.cells.lookup n = some c) →
      (forIn names cs fun x r => match x with | (name, kind) => if (kind == .free) = true then do let a ← cellOf env name; pure (ForInStep.yield ((name, a) :: r)) else pure (ForInStep.yield r) : Sem (List (Str × Addr))) = pure (closeL env names cs) := by
    intro names
    induction names with
    | nil => intro cs _; rfl
    | cons x r ih =>
      intro cs hx
      obtain ⟨n, k⟩ := x
      rw [List.forIn_cons]
      have ih' := fun cs => ih cs fun m hm => hx m (List.mem_cons_of_mem _ hm)
      by_cases hk : (k == NameKind.free) = true
      · simp only [hk, if_true, closeL]
        have : k = .free := by simpa using hk
        subst this
        obtain ⟨c, hc⟩ := hx n List.mem_cons_self
        have e : cellOf env n = pure c := by unfold cellOf; rw [hc]
        rw [e, hc]
        exact ih' _
      · simp only [hk, if_false, closeL]
        exact ih' _
  unfold closureFor
  have := key scope.names [] h
  simp only at this ⊢
  rw [this]
  rfl
theorem closeL_lookup : ∀ (names : List (Str × NameKind)) (cs : List (Str × Addr)), (∀ n, (n, NameKind.free) ∈ names → ∃ c, env.cells.lookup n = some c) → ∀ n c, (closeL env names cs).lookup n = some c → env.cells.lookup n = some c ∨ cs.lookup n = some c
  | [], cs, _, n, c, h => .inr h
  | (m, k) :: r, cs, hx, n, c, h => by
    unfold closeL at h
    have hr := fun m hm => hx m (List.mem_cons_of_mem _ hm)
    by_cases hk : (k == NameKind.free) = true
    · rw [if_pos hk] at h
      rcases closeL_lookup r _ hr n c h with h₁ | h₁
      · exact .inl h₁
      · have hkf : k = .free := by simpa using hk
        obtain ⟨c', hc'⟩ := hx m (hkf ▸ List.mem_cons_self)
        rw [List.lookup_cons, hc'] at h₁
        by_cases e : (n == m) = true
        · rw [e] at h₁
          have enm : n = m := by simpa using e
          rw [enm, hc']
          exact .inl h₁
        · simp only [e] at h₁; exact .inr h₁
    · rw [if_neg hk] at h; exact closeL_lookup r _ hr n c h
theorem closeL_some : ∀ (names : List (Str × NameKind)) (cs : List (Str × Addr)) (n : Str), ((n, NameKind.free) ∈ names ∨ (cs.lookup n).isSome = true) → ((closeL env names cs).lookup n).isSome = true
  | [], cs, n, h => h.elim (fun h => by cases h) id
  | (m, k) :: r, cs, n, h => by
    unfold closeL
    by_cases hk : (k == NameKind.free) = true
    · rw [if_pos hk]
      refine closeL_some r _ n ?_
      by_cases e : (n == m) = true
      · exact .inr (by rw [List.lookup_cons, e]; rfl)
      · refine h.imp (fun h => ?_) fun h => by rw [List.lookup_cons]; simpa only [e] using h
        rcases List.mem_cons.mp h with h | h
        · cases h; simp at e
        · exact h
    · rw [if_neg hk]
      refine closeL_some r _ n (h.imp (fun h => ?_) id)
      rcases List.mem_cons.mp h with h | h
      · cases h; simp at hk
      · exact h
theorem lookup_mem : ∀ {names : List (Str × NameKind)} {n : Str} {k : NameKind}, names.lookup n = some k → (n, k) ∈ names
  | (m, k') :: r, n, k, h => by
    rw [List.lookup_cons] at h
    by_cases e : (n == m) = true
    · rw [e] at h
      have : n = m := by simpa using e
      subst this
      cases h
      exact List.mem_cons_self
    · simp only [e] at h; exact List.mem_cons_of_mem _ (lookup_mem h)
def relabelS (scope sc : Scope) : Scope := { scope with names := scope.names.map fun (n, k) => if (k == .free && sc.names.lookup n == some .cell) then (n, .cell) else (n, k) }
theorem relabel_eq {scope : Scope} (hE : EnvOk env sc) : relabel scope env = relabelS scope sc := by
  unfold relabel relabelS
  congr 1
  apply List.map_congr_left
  intro x _
  obtain ⟨n, k⟩ := x
  simp only [hE.kfn, hE.kind, beq_self_eq_true, Bool.and_true]
def relab (sc : Scope) (x : Str × NameKind) : Str × NameKind := if (x.2 == NameKind.free && sc.names.lookup x.1 == some NameKind.cell) = true then (x.1, NameKind.cell) else x
theorem relabelS_names (scope sc : Scope) : (relabelS scope sc).names = scope.names.map (relab sc) := by
  unfold relabelS
  apply List.map_congr_left
  intro x _
  obtain ⟨n, k⟩ := x
  rfl
theorem relab_fst (sc : Scope) (x : Str × NameKind) : (relab sc x).1 = x.1 := by unfold relab; split <;> rfl
theorem lookup_relab : ∀ (names : List (Str × NameKind)) (x : Str), (names.map (relab sc)).lookup x = (names.lookup x).map fun k => (relab sc (x, k)).2
  | [], x => rfl
  | (n, k) :: r, x => by
    rw [List.map_cons]
    have hf := relab_fst sc (n, k)
    rw [show relab sc (n, k) = (n, (relab sc (n, k)).2) from Prod.ext hf rfl, List.lookup_cons, List.lookup_cons]
    by_cases e : (x == n) = true
    · rw [e]
      have : x = n := by simpa using e
      rw [this]; rfl
    · have e' : (x == n) = false := by simpa using e
      rw [e']
      exact lookup_relab r x
theorem relabelS_lookup {scope : Scope} {x : Str} {k' : NameKind} (h : (relabelS scope sc).names.lookup x = some k') : ∃ k, scope.names.lookup x = some k ∧ (k' = k ∨ (k = .free ∧ k' = .cell)) := by
  rw [relabelS_names, lookup_relab] at h
  obtain ⟨k, hk, rfl⟩ := Option.map_eq_some_iff.mp h
  refine ⟨k, hk, ?_⟩
  unfold relab
  split
  · rename_i hc
    exact .inr ⟨by simpa using (Bool.and_eq_true_iff.mp hc).1, rfl⟩
  · exact .inl rfl
theorem relabelS_free {scope : Scope} {x : Str} (h : scope.names.lookup x = some .free) : (relabelS scope sc).names.lookup x = some .cell ∨ (relabelS scope sc).names.lookup x = some .free := by
  rw [relabelS_names, lookup_relab, h]
  unfold relab
  simp only [Option.map_some]
  split
  · exact .inl rfl
  · exact .inr rfl
def capt (scope : Scope) (ρ : Slots) : Slots := fun x => if scope.names.lookup x = some .free then ρ x else none
structure CompScope (scope sc : Scope) : Prop where
  fn : scope.kind = .function
  nocell : ∀ x ∈ scope.names, x.2 ≠ .cell
  locals : ∀ x ∈ scope.names, x.2 = .local → scope.names.lookup x.1 = some .local
  free : ∀ x ∈ scope.names, x.2 = .free → scope.names.lookup x.1 = some .free ∧ (sc.names.lookup x.1 = some .cell ∨ sc.names.lookup x.1 = some .free)
theorem capt_env {scope : Scope} (hE : EnvOk env sc) (hs : CompScope scope sc) (cenv : Env) (hcl : cenv.cells = closeL env scope.names []) (hsc : cenv.scope = relabelS scope sc) (hg : cenv.globals = env.globals) (hb : cenv.builtins = env.builtins) : EnvOk cenv (relabelS scope sc) := by
  refine ⟨hsc, hg.trans hE.globals, hb.trans hE.builtins, hs.fn, fun x hx => ?_⟩
  have : scope.names.lookup x = some .free := by
    rcases hx with hx | hx
    · obtain ⟨k, hk, h⟩ := relabelS_lookup hx
      rcases h with rfl | ⟨rfl, _⟩
      · exact absurd rfl (hs.nocell _ (lookup_mem hk))
      · exact hk
    · obtain ⟨k, hk, h⟩ := relabelS_lookup hx
      rcases h with rfl | ⟨_, h⟩
      · exact hk
      · cases h
  have := closeL_some (env := env) scope.names [] x (.inl (lookup_mem this))
  rw [hcl]
  exact Option.isSome_iff_exists.mp this
theorem free_cells {scope : Scope} (hE : EnvOk env sc) (hs : CompScope scope sc) : ∀ n, (n, NameKind.free) ∈ scope.names → ∃ c, env.cells.lookup n = some c := fun n hn => hE.cells n (hs.free _ hn rfl).2
theorem capt_loc {scope : Scope} {C : Addr} {h : Heap} (hE : EnvOk env sc) (L : Loc W Z s.heap env ρ α) (hs : CompScope scope sc)
    (hk : ∀ b o, s.heap.get? b = some o → h.get? b = some o) (hz : ∀ b, Z' b → Z b ∨ s.heap.get? b = none) (hzs : ∀ b, Z b → Z' b) (hC : s.heap.get? C = none) (hCz : ¬ Z' C) (hb : W.h₀.get? C = none ∧ ¬ W.X C) {m : Str → Option Value} (hns : h.Ns C m)
    (cenv : Env) (hloc : cenv.locals = C) (hcl : cenv.cells = closeL env scope.names []) (hsc : cenv.scope = relabelS scope sc) : Loc W Z' h cenv (capt scope ρ) α := by
  have sub : ∀ n c, cenv.cells.lookup n = some c → env.cells.lookup n = some c := fun n c hn => by
    rw [hcl] at hn
    exact (closeL_lookup scope.names [] (free_cells hE hs) n c hn).resolve_right (fun h => by cases h)
  have capt_of : ∀ x sv, capt scope ρ x = some sv → scope.names.lookup x = some .free ∧ ρ x = some sv := fun x sv h => by
    unfold capt at h
    split at h
    · rename_i hf; exact ⟨hf, h⟩
    · cases h
  obtain ⟨m₀, ns₀, hv⟩ := L.ns
  have fo : ∀ b, FOwn cenv (capt scope ρ) α b → b = C ∨ FOwn env ρ α b := by
    rintro b (rfl | ⟨x, hx⟩ | ⟨x, l, hx, rfl⟩)
    · exact .inl hloc
    · exact .inr (.inr (.inl ⟨x, sub x b hx⟩))
    · exact .inr (.inr (.inr ⟨x, l, (capt_of x _ hx).2, rfl⟩))
  refine ⟨⟨m, hloc ▸ hns, fun x sv hx => ?_⟩, fun b f z => ?_, fun b f => ?_, fun x l b hx hb => L.fix x l b (capt_of x _ hx).2 hb, fun x y l l' hx hy e => L.inj x y l l' (capt_of x _ hx).2 (capt_of y _ hy).2 e, fun x c hx => ?_, fun x y c hx hy => L.cinj x y c (sub x c hx) (sub y c hy)⟩
  · obtain ⟨hf, hx⟩ := capt_of x sv hx
    obtain ⟨v, a, r⟩ := hv x sv hx
    have hm := lookup_mem hf
    refine ⟨v, .inr ⟨?_, ?_⟩, ?_⟩
    · unfold Env.kindOf; rw [hsc]; exact relabelS_free hf
    · rcases a with ⟨k, _⟩ | ⟨_, c, hc, o, ho, hd⟩
      · rw [hE.kind] at k
        rcases (hs.free _ hm rfl).2 with k' | k' <;> (rw [k'] at k; cases k)
      · obtain ⟨c', hc'⟩ := Option.isSome_iff_exists.mp (closeL_some (env := env) scope.names [] x (.inl hm))
        rw [← hcl] at hc'
        have := sub x c' hc'
        rw [hc] at this; cases this
        exact ⟨c, hc', o, hk _ _ ho, hd⟩
    · cases sv with
      | val av => exact r.mono hzs fun a o _ e => hk a o e
      | own l => obtain ⟨e, vs, ⟨n, hn⟩, rs⟩ := r; exact ⟨e, vs, ⟨n, hk _ _ hn⟩, rs.mono hzs fun a o _ e => hk a o e⟩
  · rcases fo b f with rfl | f
    · exact hCz z
    · rcases hz b z with z | z
      · exact L.nz b f z
      · obtain ⟨o, e⟩ := L.alive f; rw [e] at z; cases z
  · rcases fo b f with rfl | f
    · exact hb
    · exact L.nb b f
  · obtain ⟨v, o, ho, hd⟩ := L.cell x c (sub x c hx); exact ⟨v, o, hk _ _ ho, hd⟩
-- the tests of a comprehension
def DenIfs (W : Wd) (d : Nat) (sc : Scope) (ifs : List Expr) (t : Slots → Option Bool) : Prop :=
  ∀ (A : Around) (env : Env) (Z : AddrSet) (s : Shared) (ρ : Slots) (α : Str → Addr) (b : Bool), Room A d → EnvOk env sc → Inv W Z s → Loc W Z s.heap env ρ α → t ρ = some b →
    GivesB W A Z s (forIn ifs true fun c r => if r = true then do let ok ← isTrue c env (eval c env); pure (ForInStep.yield ok) else pure (ForInStep.yield r)) b
theorem ifs_nil : DenIfs W d sc [] fun _ => some true := by
  intro A env Z s ρ α b R hE I L hf Q E' q; cases hf; exact wpAny_pure (q s Z (.id I))
def compA (T : AV → Slots → Option Slots) (t : Slots → Option Bool) (f : Slots → Option AV) : List AV → Slots → Option (List AV)
  | [], _ => some []
  | a :: l, ρ => T a ρ >>= fun ρ₁ => t ρ₁ >>= fun b => if b = true then (f ρ₁ >>= fun x => (compA T t f l ρ₁).map (x :: ·)) else compA T t f l ρ₁
end
end Mine
end
section
set_option linter.unusedVariables false
namespace Mine
section
variable {W : Wd} {Z Z' Z₁ Z₀ : AddrSet} {s s' s₁ s₀ : Shared} {env : Env} {sc : Scope} {ρ ρ' ρ₀ : Slots} {α α' α₀ : Str → Addr} {A : Around} {d : Nat}
theorem codeAny_comp {elt target iter : Expr} {ifs : List Expr} {scope : Scope} {pos : Pos} {it acc : Value} {env : Env} {R : Result → Shared → Prop} (I : Nat → Shared → Prop)
    (turn : ∀ n s, I n s → wpAny W.M A (pyNext it) (fun r s₁ => match r with
      | none => R (.ok .next) s₁
      | some v => wpAny W.M A (letOwnedTupleGo target it v) (fun _ s₁' => wpAny W.M A (assign target env v) (fun _ s₂ =>
          wpAny W.M A (forIn ifs true fun c r => if r = true then do let ok ← isTrue c env (eval c env); pure (ForInStep.yield ok) else pure (ForInStep.yield r)) (fun ok s₃ =>
            if ok = true then wpAny W.M A (eval elt env) (fun x s₄ =>
              wpAny W.M A (call (.builtin "list.append") [acc, x]) (fun _ s₅ => ∃ m, m < n ∧ I m s₅) (notedBy W.M A env fun e s' => R (.error e) s') s₄) (notedBy W.M A env fun e s' => R (.error e) s') s₃
            else ∃ m, m < n ∧ I m s₃) (notedBy W.M A env fun e s' => R (.error e) s') s₂) (notedBy W.M A env fun e s' => R (.error e) s') s₁') (notedBy W.M A env fun e s' => R (.error e) s') s₁) (notedBy W.M A env fun e s' => R (.error e) s') s)
    (n : Nat) (h : I n s) : codeAny W.M A (.compLoop (.ListComp elt [⟨target, iter, ifs, 0⟩] scope pos) 0 it acc env) R s := by
  refine codeAny_loop rfl I (fun n s hI => ?_) n h
  show wpAny _ A ((compTurn (.ListComp elt [⟨target, iter, ifs, 0⟩] scope pos) 0 it acc env).onRaise (fun x => do noteFrame x env; theTreesLotGoes x)) _ _ s
  refine wpAny_noted ?_
  rw [compTurn_list]
  refine wpAny_bind (wpAny_standAt (wpAny_bind (wpAny_mono (turn n s hI) (fun r s₁ h₁ => ?_) fun _ _ h' => h')))
  cases r with
  | none => exact wpAny_pure h₁
  | some v =>
    refine wpAny_bind (wpAny_mono h₁ (fun _ s₁' h₁' => ?_) fun _ _ h' => h')
    refine wpAny_bind (wpAny_mono h₁' (fun _ s₂ h₂ => wpAny_bind (wpAny_mono h₂ (fun ok s₃ h₃ => ?_) fun _ _ h' => h')) fun _ _ h' => h')
    cases ok with
    | false => exact wpAny_pure ⟨rfl, h₃⟩
    | true => exact wpAny_bind (wpAny_bind (wpAny_mono h₃ (fun x s₄ h₄ => wpAny_bind (wpAny_mono h₄ (fun _ s₅ h₅ => wpAny_pure (wpAny_pure ⟨rfl, h₅⟩)) fun _ _ h' => h')) fun _ _ h' => h'))
-- targets that write the table of the frame alone
def DenTgC (W : Wd) (d : Nat) (sc : Scope) (t : Expr) (G : AV → Slots → Option Slots) : Prop :=
  ∀ (A : Around) (env : Env) (Z : AddrSet) (s : Shared) (ρ : Slots) (α : Str → Addr) (v : Value) (av : AV) (ρ' : Slots), Room A d → EnvOk env sc → Inv W Z s → Loc W Z s.heap env ρ α → RepV Z s.heap v av → G av ρ = some ρ' →
    ∀ (Q : Unit → Shared → Prop) (E' : Value → Shared → Prop), (∀ s' α', Step W (.addrs (· = env.locals)) Z s Z s' → (∀ b, FOwn env ρ' α' b → FOwn env ρ α b) → Loc W Z s'.heap env ρ' α' → Q () s') → wpAny W.M A (assign t env v) Q E' s
def DenTgsC (W : Wd) (d : Nat) (sc : Scope) (ts : List Expr) (G : List AV → Slots → Option Slots) : Prop :=
  ∀ (A : Around) (env : Env) (Z : AddrSet) (s : Shared) (ρ : Slots) (α : Str → Addr) (vs : List Value) (l : List AV) (ρ' : Slots), Room A d → EnvOk env sc → Inv W Z s → Loc W Z s.heap env ρ α → RepVs Z s.heap vs l → l.length = ts.length → G l ρ = some ρ' →
    ∀ (Q : Unit → Shared → Prop) (E' : Value → Shared → Prop), (∀ s' α', Step W (.addrs (· = env.locals)) Z s Z s' → (∀ b, FOwn env ρ' α' b → FOwn env ρ α b) → Loc W Z s'.heap env ρ' α' → Q () s') → wpAny W.M A (assignInOrder ((assignEach ts env).map (·.2)) vs) Q E' s
theorem tgc_name {x : Str} {p : Pos} (hk : sc.names.lookup x = some .local) : DenTgC W d sc (.Name x p) fun a ρ => some (ρ.set x (.val a)) := by
  intro A env Z s ρ α v av ρ' R hE I L r hf Q E' q
  cases hf
  show wpAny _ _ (do standAt p; bindName env x v) _ _ _
  refine wpAny_bind (wpAny_standAt (wpAny_bindName (L.store' (sv := .val av) (a := α x) I hE (.inl hk) r (fun l e => by cases e) fun s' c fc hc p fo l => ?_)))
  have := hc hk
  subst this
  exact q s' _ p (fun b f => (fo b f).elim id (fun ⟨⟨l, e⟩, _⟩ => by cases e)) l
theorem tgcs_nil : DenTgsC W d sc [] fun _ ρ => some ρ := by
  intro A env Z s ρ α vs l ρ' R hE I L r hl hf Q E' q
  cases hf
  cases l with
  | nil => cases r; exact wpAny_pure (q s α (.id I) (fun _ h => h) L)
  | cons a l => cases hl
theorem tgcs_cons {t : Expr} {ts : List Expr} {G : AV → Slots → Option Slots} {H : List AV → Slots → Option Slots} (h : DenTgC W d sc t G) (hs : DenTgsC W d sc ts H) (he : ∀ env, assignEach (t :: ts) env = (false, assign t env) :: assignEach ts env) : DenTgsC W d sc (t :: ts) (headTg G H) := by
  intro A env Z s ρ α vs l ρ' R hE I L r hl hf Q E' q
  cases l with
  | nil => cases hl
  | cons a l =>
    cases r with | cons r1 r2 =>
    obtain ⟨ρ₁, h₁, h₂⟩ := bindO hf
    rw [he]
    show wpAny _ _ (do holding _ (assign t env _); assignInOrder ((assignEach ts env).map (·.2)) _) _ _ _
    refine wpAny_bind (wpAny_holding (h A env Z s ρ α _ a ρ₁ R hE I L r1 h₁ _ _ fun s₁ α₁ p₁ fo₁ L₁ => ?_))
    have hz : ∀ b, Z b → ¬ (Own.addrs (· = env.locals)).a b := fun b z f => L.nz b (.inl f) z
    exact hs A env Z s₁ ρ₁ α₁ _ l ρ' R hE p₁.inv L₁ (p₁.reps hz r2) (by simpa using hl) h₂ _ _ fun s₂ α₂ p₂ fo₂ L₂ => q s₂ α₂ (p₁.trO p₂) (fun b f => fo₁ b (fo₂ b f)) L₂
theorem tgc_tuple {ts : List Expr} {k : Nat} {pos : Pos} {G : List AV → Slots → Option Slots} (h : DenTgsC W d sc ts G) (hst : ∀ env, (assignEach ts env).findIdx? (·.1) = none) (hlen : ∀ env, (assignEach ts env).length = ts.length) :
    DenTgC W d sc (.Tuple ts k pos) fun a ρ => seqA a >>= fun l => if l.length = ts.length then G l ρ else none := by
  intro A env Z s ρ α v av ρ' R hE I L r hf Q E' q
  obtain ⟨l, hl, hf⟩ := bindO hf
  obtain ⟨hn, hf⟩ := iteO hf
  · skip
    show wpAny _ _ (do standAt pos; unpack v (assignEach ts env)) _ _ _
    refine wpAny_bind (wpAny_standAt ?_)
    unfold unpack
    rw [hst, hlen, ← hn]
    refine wpAny_bind (wpAny_holding (unpack_items R I r hl fun vs s₁ p₁ r₁ => ?_))
    exact h A env Z s₁ ρ α vs l ρ' R hE p₁.inv (L.step0 p₁) r₁ hn hf _ _ fun s₂ α₂ p₂ fo₂ L₂ => q s₂ α₂ (p₁.weak.trO p₂) fo₂ L₂
theorem Step.free {O : Own} (p : Step W O Z s Z₁ s₁) (ho : ∀ a, O.a a → s.heap.get? a = none) (hg : ∀ i, ¬ O.g i) : Step W .none Z s Z₁ s₁ := p.mono (fun a h => .inr (ho a h)) fun i h => (hg i h).elim
theorem compA_bound {T : AV → Slots → Option Slots} {t : Slots → Option Bool} {f : Slots → Option AV} : ∀ {items : List AV} {ρ : Slots} {l : List AV}, compA T t f items ρ = some l → l.length ≤ items.length
  | [], _, _, h => by cases h; exact Nat.le_refl _
  | a :: r, ρ, l, h => by
    unfold compA at h
    obtain ⟨ρ₁, _, h⟩ := bindO h
    obtain ⟨b, _, h⟩ := bindO h
    split at h
    · obtain ⟨x, _, h⟩ := bindO h
      obtain ⟨m, hm, rfl⟩ := Option.map_eq_some_iff.mp h
      have := compA_bound hm
      simp; (first | lia | omega)
    · have := compA_bound h
      simp; (first | lia | omega)
theorem Step.nz {O : Own} (p : Step W O Z s Z' s') {b : Addr} {o : Obj} (hz : ¬ Z b) (ho : ¬ O.a b) (e : s.heap.get? b = some o) : ¬ Z' b := fun z => by
  rcases p.znew b z with z | z | z
  · exact hz z
  · exact ho z
  · rw [e] at z; cases z
structure CompInv (W : Wd) (cenv : Env) (Z : AddrSet) (s : Shared) (ρc : Slots) (αc : Str → Addr) (fp wr : List Addr) (St : Nat → Heap → Prop) (D : Addr) (Z₂ : AddrSet) (s₄ : Shared) (s' : Shared) (i : Nat) (vs : List Value) (l₁ : List AV) (Z' : AddrSet) (ρ₁ : Slots) (α₁ : Str → Addr) : Prop where
  p : Step W .none Z s Z' s'
  L : Loc W Z' s'.heap cenv ρ₁ α₁
  st : St i s'.heap
  hD : s'.heap.PlainList D vs.toArray
  rs : RepVs Z' s'.heap vs l₁
  fo : ∀ b, FOwn cenv ρ₁ α₁ b → FOwn cenv ρc αc b
  Dz : ¬ Z' D
  w : ∀ b ∈ wr, ¬ Z' b
  z : ∀ b o, Z₂ b → s₄.heap.get? b = some o → s'.heap.get? b = some o
  zz : ∀ b, Z₂ b → Z' b
structure CompAt (W : Wd) (A : Around) (cenv : Env) (Z : AddrSet) (s : Shared) (ρc : Slots) (αc : Str → Addr) (fp wr : List Addr) (St : Nat → Heap → Prop) (P : Nat → Value → Prop) (n : Nat) (J : Addr) (D : Addr) (Z₂ : AddrSet) : Prop where
  I : Inv W Z s
  Wk : Walks W.prog W.w A J fp wr n P St
  hw : ∀ b ∈ wr, s.heap.get? b = none ∧ ¬ Z₂ b
  hf : ∀ b ∈ fp, b ∈ wr ∨ Z₂ b
  ob : ∀ i h, St i h → ∀ b ∈ wr, ∃ o, h.get? b = some o
  hd : s.heap.get? D = none
  Dz : ¬ Z₂ D
  Do : ¬ FOwn cenv ρc αc D
  C : s.heap.get? cenv.locals = none
  wd : ∀ b ∈ wr, b ≠ D ∧ ¬ FOwn cenv ρc αc b
section
variable {cenv : Env} {ρc ρ₁ ρ₂ : Slots} {αc α₁ α₂ : Str → Addr} {fp wr : List Addr} {St : Nat → Heap → Prop} {P : Nat → Value → Prop} {D J : Addr} {Z₂ Z₃ Z₆ : AddrSet} {s₄ s₃ s₅ s₆ : Shared} {i n : Nat} {vs : List Value} {l₁ : List AV}
theorem CompInv.snoc (k : CompAt W A cenv Z s ρc αc fp wr St P n J D Z₂) (c : CompInv W cenv Z s ρc αc fp wr St D Z₂ s₄ s₃ i vs l₁ Z₃ ρ₁ α₁) {v : Value} {x : AV} {nD : Nat} {h'' : Heap} (rv : RepV Z₃ s₃.heap v x) (hsb : Heap.SameBut D s₃.heap h'') (ho : h''.get? D = some { cls := .type "list", data := .seq (vs.toArray.push v) nD }) :
    CompInv W cenv Z s ρc αc fp wr St D Z₂ s₄ { s₃ with heap := h'' } i (vs ++ [v]) (l₁ ++ [x]) Z₃ ρ₁ α₁ := by
  have p₈ : Step W (.addrs (· ∈ [D])) Z₃ s₃ Z₃ { s₃ with heap := h'' } := .writes (tk := s₃.toks) c.p.inv (fun b o hb e => hsb.extBut b o (fun q => hb (q ▸ List.mem_singleton_self D)) e) (fun b hb => by cases List.mem_singleton.mp hb; exact ⟨k.I.fresh_b k.hd, k.I.fresh_x k.hd, c.Dz⟩)
  have hz8 : ∀ b, Z₃ b → ¬ (Own.addrs (· ∈ [D])).a b := fun b z h => by cases List.mem_singleton.mp h; exact c.Dz z
  refine ⟨c.p.trans p₈ (fun a h => .inr (by cases List.mem_singleton.mp h; exact k.hd)) fun _ h => h.elim, c.L.step p₈ fun b hb => by cases List.mem_singleton.mp hb; exact ⟨fun f => k.Do (c.fo D f), c.Dz⟩,
    k.Wk.frame _ _ _ c.st fun b hb o e => hsb.extBut b o (fun q => ?_) e, ⟨nD, by rw [← List.push_toArray]; exact ho⟩, (p₈.reps hz8 c.rs).snoc (p₈.rep hz8 rv), c.fo, c.Dz, c.w, fun b o z e => hsb.extBut b o (fun q => k.Dz (q ▸ z)) (c.z b o z e), c.zz⟩
  rcases k.hf b hb with h1 | h1
  · exact (k.wd b h1).1 q
  · exact k.Dz (q ▸ h1)
theorem CompInv.drawn (k : CompAt W A cenv Z s ρc αc fp wr St P n J D Z₂) (c : CompInv W cenv Z s ρc αc fp wr St D Z₂ s₄ s₃ i vs l₁ Z₃ ρ₁ α₁) {h' : Heap} {tk : Nat} {j : Nat} (st : St j h') (hk : ∀ b o, b ∉ wr → s₃.heap.get? b = some o → h'.get? b = some o) :
    CompInv W cenv Z s ρc αc fp wr St D Z₂ s₄ { s₃ with heap := h', toks := tk } j vs l₁ Z₃ ρ₁ α₁ := by
  have p₄ : Step W (.addrs (· ∈ wr)) Z₃ s₃ Z₃ { s₃ with heap := h', toks := tk } := .writes c.p.inv hk fun b hb => ⟨k.I.fresh_b (k.hw b hb).1, k.I.fresh_x (k.hw b hb).1, c.w b hb⟩
  exact ⟨c.p.trans p₄ (fun a h => .inr (k.hw a h).1) fun _ h => h.elim, c.L.step p₄ fun b hb => ⟨fun fo => (k.wd b hb).2 (c.fo b fo), c.w b hb⟩, st, (let ⟨m, e⟩ := c.hD; ⟨m, hk D _ (fun h => (k.wd D h).1 rfl) e⟩), p₄.reps (fun b z h => c.w b h z) c.rs, c.fo, c.Dz, c.w,
    fun b o z e => hk b o (fun hb => c.w b hb (c.zz b z)) (c.z b o z e), c.zz⟩
theorem CompInv.bound (k : CompAt W A cenv Z s ρc αc fp wr St P n J D Z₂) (c : CompInv W cenv Z s ρc αc fp wr St D Z₂ s₄ s₃ i vs l₁ Z₃ ρ₁ α₁) (p₅ : Step W (.addrs (· = cenv.locals)) Z₃ s₃ Z₃ s₅) (fo₅ : ∀ b, FOwn cenv ρ₂ α₂ b → FOwn cenv ρ₁ α₁ b) (L₅ : Loc W Z₃ s₅.heap cenv ρ₂ α₂) :
    CompInv W cenv Z s ρc αc fp wr St D Z₂ s₄ s₅ i vs l₁ Z₃ ρ₂ α₂ := by
  have hCz : ¬ Z₃ cenv.locals := c.L.nz _ (.inl rfl)
  have hz5 : ∀ b, Z₃ b → ¬ (Own.addrs (· = cenv.locals)).a b := fun b z f => hCz (by rw [← show b = cenv.locals from f]; exact z)
  refine ⟨c.p.trans p₅ (fun a h => .inr (by rw [show a = cenv.locals from h]; exact k.C)) fun _ h => h.elim, L₅, k.Wk.frame _ _ _ c.st fun b hb o e => p₅.keep b o (fun h => ?_) e, (let ⟨m, e⟩ := c.hD; ⟨m, p₅.keep D _ (fun h => k.Do (.inl h)) e⟩), p₅.reps hz5 c.rs, fun b f => c.fo b (fo₅ b f), c.Dz, c.w,
    fun b o z e => p₅.keep b o (fun h => hz5 b (c.zz b z) h) (c.z b o z e), c.zz⟩
  rcases k.hf b hb with h1 | h1
  · exact (k.wd b h1).2 (.inl h)
  · exact hz5 b (c.zz b h1) h
theorem CompInv.pure (k : CompAt W A cenv Z s ρc αc fp wr St P n J D Z₂) (c : CompInv W cenv Z s ρc αc fp wr St D Z₂ s₄ s₃ i vs l₁ Z₃ ρ₁ α₁) (p₇ : Step W .none Z₃ s₃ Z₆ s₆) : CompInv W cenv Z s ρc αc fp wr St D Z₂ s₄ s₆ i vs l₁ Z₆ ρ₁ α₁ :=
  have ⟨m, e⟩ := c.hD
  ⟨c.p.tr p₇, c.L.step0 p₇, k.Wk.frame _ _ _ c.st fun b _ o e => p₇.keep b o id e, ⟨m, p₇.keep D _ id e⟩, p₇.reps0 c.rs, c.fo, p₇.nz c.Dz id e, fun b hb => (let ⟨_, e⟩ := k.ob _ _ c.st b hb; p₇.nz (c.w b hb) id e), fun b o z e => p₇.keep b o id (c.z b o z e), fun b z => p₇.zsub b (c.zz b z)⟩
end
theorem comp_loop {elt target iter : Expr} {ifs : List Expr} {scope : Scope} {pos : Pos} {sc' : Scope} {T : AV → Slots → Option Slots} {t : Slots → Option Bool} {f : Slots → Option AV} {items l : List AV} {cenv : Env} {ρc : Slots} {αc : Str → Addr} {D J : Addr} {Z₂ : AddrSet} {s₄ : Shared}
    {fp wr : List Addr} {P : Nat → Value → Prop} {St : Nat → Heap → Prop}
    (htg : DenTgC W d sc' target T) (hif : DenIfs W d sc' ifs t) (helt : DenP W d sc' elt f) (R : Room A d) (hE : EnvOk cenv sc') (I : Inv W Z s) (hc : compA T t f items ρc = some l) (hz : items.length ≤ 1000000)
    (p : Step W .none Z s Z₂ s₄) (Lc : Loc W Z₂ s₄.heap cenv ρc αc) (Wk : Walks W.prog W.w A J fp wr items.length P St) (st : St 0 s₄.heap) (hP : ∀ i v, P i v → ∃ a, items[i]? = some a ∧ RepV Z₂ s₄.heap v a) (hwr : ∀ b ∈ wr, s.heap.get? b = none ∧ ¬ Z₂ b) (hfp : ∀ b ∈ fp, b ∈ wr ∨ Z₂ b) (hob : ∀ i h, St i h → ∀ b ∈ wr, ∃ o, h.get? b = some o)
    (hgo : ∀ i v (s' : Shared) (Q : Unit → Shared → Prop) (E' : Value → Shared → Prop), St i s'.heap → Q () s' → wpAny W.M A (letOwnedTupleGo target (.ref J) v) Q E' s')
    (hDp : s₄.heap.PlainList D #[]) (hD : s.heap.get? D = none) (hDz : ¬ Z₂ D) (hDo : ¬ FOwn cenv ρc αc D) (hC : s.heap.get? cenv.locals = none) (hwd : ∀ b ∈ wr, b ≠ D ∧ ¬ FOwn cenv ρc αc b) {Rr : Result → Shared → Prop}
    (q : ∀ s' Z' vs m, Step W .none Z s Z' s' → ¬ Z' D → s'.heap.PlainList D vs.toArray → RepVs Z' s'.heap vs l → s'.heap.Ns cenv.locals m → ¬ Z' cenv.locals → Rr (.ok .next) s') :
    codeAny W.M A (.compLoop (.ListComp elt [⟨target, iter, ifs, 0⟩] scope pos) 0 (.ref J) (.ref D) cenv) Rr s₄ := by
  have k : CompAt W A cenv Z s ρc αc fp wr St P items.length J D Z₂ := ⟨I, Wk, hwr, hfp, hob, hD, hDz, hDo, hC, hwd⟩
  refine codeAny_comp (fun k s' => ∃ i vs l₁ Z' ρ₁ α₁, CompInv W cenv Z s ρc αc fp wr St D Z₂ s₄ s' i vs l₁ Z' ρ₁ α₁ ∧ k = items.length - i ∧ i ≤ items.length ∧ (compA T t f (items.drop i) ρ₁).map (l₁ ++ ·) = some l) ?_ items.length
    ⟨0, [], [], Z₂, ρc, αc, ⟨p, Lc, st, hDp, .nil, fun _ h => h, hDz, fun b hb => (hwr b hb).2, fun _ _ _ e => e, fun _ z => z⟩, rfl, Nat.zero_le _, by rw [List.drop_zero, hc]; rfl⟩
  clear p Lc st hDp hwr hfp hob hD hDz hDo hC hwd I
  rintro _ s₃ ⟨i, vs, l₁, Z₃, ρ₃, α₃, c, rfl, hi', hca⟩
  obtain ⟨l₂, hca, hl⟩ := Option.map_eq_some_iff.mp hca
  by_cases hlt : i < items.length
  · refine Wk.item i s₃ _ _ hlt c.st fun v h' tk hv st₄ hk => ?_
    obtain ⟨a, ha, ra⟩ := hP i v hv
    have c4 := c.drawn (tk := tk) k st₄ hk
    refine hgo (i + 1) v _ _ _ st₄ ?_
    rw [List.drop_eq_getElem_cons hlt, Option.some.inj ((List.getElem?_eq_getElem hlt).symm.trans ha)] at hca
    unfold compA at hca
    obtain ⟨ρ₅, h₅, hca⟩ := bindO hca
    obtain ⟨b, hb, hca⟩ := bindO hca
    refine htg A cenv Z₃ _ ρ₃ α₃ v a ρ₅ R hE c4.p.inv c4.L (ra.mono c4.zz c4.z) h₅ _ _ fun s₅ α₅ p₅ fo₅ L₅ => ?_
    have c5 := c4.bound k p₅ fo₅ L₅
    clear c4 c
    refine hif A cenv Z₃ s₅ ρ₅ α₅ b R hE p₅.inv L₅ hb _ _ fun s₆ Z₆ p₆ => ?_
    have c6 := c5.pure k p₆
    clear c5
    have hlt' : items.length - (i + 1) < items.length - i := Nat.sub_lt_sub_left hlt (Nat.lt_succ_self i)
    cases b with
    | false => exact ⟨items.length - (i + 1), hlt', i + 1, vs, l₁, Z₆, ρ₅, α₅, c6, rfl, hlt, Option.map_eq_some_iff.mpr ⟨l₂, hca, hl⟩⟩
    | true =>
      obtain ⟨x, hx, hca⟩ := bindO hca
      obtain ⟨l₃, hl₃, hl₂⟩ := Option.map_eq_some_iff.mp hca
      refine helt A cenv Z₆ s₆ ρ₅ α₅ x R hE p₆.inv c6.L hx _ _ fun w s₇ Z₇ p₇ rw' => ?_
      have c7 := c6.pure k p₇
      clear c6
      have hvl : vs.length ≤ 1000000 := by
        have h1 := compA_bound hc
        have h2 := c7.rs.length
        rw [← hl, List.length_append] at h1
        (first | lia | omega)
      obtain ⟨nD, r6⟩ := c7.hD
      refine append_at (n := nD) r6 (fun h'' hsb ho' => ?_) (by rw [List.size_toArray]; unfold sizeLine; (first | lia | omega))
      exact ⟨items.length - (i + 1), hlt', i + 1, vs ++ [w], l₁ ++ [x], Z₇, ρ₅, α₅, c7.snoc k rw' hsb ho', rfl, hlt, Option.map_eq_some_iff.mpr ⟨l₃, hl₃, by rw [List.append_assoc, ← hl, ← hl₂]; rfl⟩⟩
  · have hin : i = items.length := Nat.le_antisymm hi' (Nat.le_of_not_lt hlt)
    rw [hin, List.drop_length] at hca
    cases hca
    rw [List.append_nil] at hl
    refine Wk.done s₃ _ _ (hin ▸ c.st) fun h' tk hk => ?_
    have p₄ : Step W (.addrs (· ∈ wr)) Z₃ s₃ Z₃ { s₃ with heap := h', toks := tk } := .writes c.p.inv hk fun b hb => ⟨k.I.fresh_b (k.hw b hb).1, k.I.fresh_x (k.hw b hb).1, c.w b hb⟩
    have L₄ := c.L.step p₄ fun b hb => ⟨fun fo => (k.wd b hb).2 (c.fo b fo), c.w b hb⟩
    obtain ⟨m, ns, _⟩ := L₄.ns
    obtain ⟨nD, hDg⟩ := c.hD
    exact q _ Z₃ vs m (c.p.trans p₄ (fun a h => .inr (k.hw a h).1) fun _ h => h.elim) c.Dz ⟨nD, hk D _ (fun h => (k.wd D h).1 rfl) hDg⟩ (hl ▸ p₄.reps (fun b z h => c.w b h z) c.rs) ns (c.L.nz _ (.inl rfl))
theorem comp_core {elt target iter : Expr} {ifs : List Expr} {scope : Scope} {pos p1 : Pos} {g : Slots → Option (List AV)} {T : AV → Slots → Option Slots} {t : Slots → Option Bool} {f : Slots → Option AV} {items l : List AV} {use : Option (Value → Sem Unit)} (hs : CompScope scope sc) (hi : DenIt W d sc target iter g)
    (htg : DenTgC W d (relabelS scope sc) target T) (hif : DenIfs W d (relabelS scope sc) ifs t) (helt : DenP W d (relabelS scope sc) elt f) (hset : ∀ env x, foldedSetIterable iter env x = pure x)
    (R : Room A d) (hE : EnvOk env sc) (I : Inv W Z s) (L : Loc W Z s.heap env ρ α) (hg : g ρ = some items) (hc : compA T t f items (capt scope ρ) = some l) (hz : items.length ≤ 1000000) {Q : Value → Shared → Prop} {E' : Value → Shared → Prop}
    (q : ∀ s' Z' vs C D m, Step W .none Z s Z' s' → s.heap.get? D = none → ¬ Z' D → s'.heap.PlainList D vs.toArray → RepVs Z' s'.heap vs l → s'.heap.Ns C m → s.heap.get? C = none → ¬ Z' C → C ≠ D → compPost W.M A E' use Q (.ref D) C (.ok .next) s') :
    wpAny W.M A (comprehension (.ListComp elt [⟨target, iter, ifs, 0⟩] scope pos) scope env p1 (newList []) false (eval iter env) use) Q E' s := by
  refine wpAny_comprehension_free rfl (hset env) (closureFor_eq (free_cells hE hs)) hs.fn hs.locals (hi A env Z s ρ α items R hE I L hg _ _ fun x s₁ Z₁ p₁ hx => hx _ _ fun it s₂ Z₂ p₂ hI => ?_)
  obtain ⟨J, fp, wr, P, St, rfl, Wk, st, hP, hwr, hfp, hob, hgo⟩ := hI
  refine wpAny_newObj_type (wpAny_newFunctionEnv hs.nocell (fun x hx => by cases hx) (fun h₄ ns₄ sb₄ => ?_) hs.fn)
  have p12 := p₁.tr p₂
  have L₂ := (L.step0 p₁).step0 p₂
  have hC : (s₂.heap.push { cls := .type "list", data := .seq #[] }).get? (s₂.heap.push { cls := .type "list", data := .seq #[] }).objs.size = none := push_none _
  have kC : ∀ b o, (s₂.heap.push { cls := .type "list", data := .seq #[] }).get? b = some o → h₄.get? b = some o := fun b o e => sb₄.extBut b o (Nat.ne_of_lt (Heap.lt_size e)) (Heap.get?_push_of_some _ e)
  have k4 : ∀ b o, s₂.heap.get? b = some o → h₄.get? b = some o := fun b o e => kC b o (push_keep _ _ b o e)
  have hD2 : s₂.heap.get? s₂.heap.objs.size = none := push_none _
  have hC2 : s₂.heap.get? (s₂.heap.push { cls := .type "list", data := .seq #[] }).objs.size = none := by
    cases e : s₂.heap.get? (s₂.heap.push { cls := .type "list", data := .seq #[] }).objs.size with
    | none => rfl
    | some o => rw [push_keep _ _ _ _ e] at hC; cases hC
  have hDg : h₄.get? s₂.heap.objs.size = some { cls := .type "list", data := .seq #[] } := kC _ _ (Heap.get?_push_size s₂.heap rfl)
  have hCD : (s₂.heap.push { cls := .type "list", data := .seq #[] }).objs.size ≠ s₂.heap.objs.size := fun e => by
    rw [e, Heap.get?_push_size s₂.heap rfl] at hC; cases hC
  have p24 : ∀ tk, Step W .none Z₂ s₂ Z₂ { s₂ with heap := h₄, toks := tk } := fun tk => .grow p₂.inv k4
  have hDs : s.heap.get? s₂.heap.objs.size = none := (p12.none_back hD2).resolve_left id
  have hCs : s.heap.get? (s₂.heap.push { cls := .type "list", data := .seq #[] }).objs.size = none := (p12.none_back hC2).resolve_left id
  have rl := relabel_eq (scope := scope) hE
  have al : ∀ b ∈ wr, ∃ o, s₂.heap.get? b = some o := hob _ _ st
  have key : codeAny W.M A (.compLoop (.ListComp elt [⟨target, iter, ifs, 0⟩] scope pos) 0 (.ref J) (.ref s₂.heap.objs.size) (compEnvC scope (closeL env scope.names []) (s₂.heap.push { cls := .type "list", data := .seq #[] }).objs.size env)) (compPost W.M A E' use Q (.ref s₂.heap.objs.size) (s₂.heap.push { cls := .type "list", data := .seq #[] }).objs.size) { s₂ with heap := h₄ } := by
    have Lc : Loc W Z₂ h₄ (compEnvC scope (closeL env scope.names []) (s₂.heap.push { cls := .type "list", data := .seq #[] }).objs.size env) (capt scope ρ) α :=
      capt_loc hE L₂ hs k4 (fun b z => .inl z) (fun _ z => z) hC2 (p₂.inv.fresh_z hC2) ⟨p₂.inv.fresh_b hC2, p₂.inv.fresh_x hC2⟩ ns₄ _ rfl rfl rl
    have fo : ∀ b, FOwn (compEnvC scope (closeL env scope.names []) (s₂.heap.push { cls := .type "list", data := .seq #[] }).objs.size env) (capt scope ρ) α b → b = (s₂.heap.push { cls := .type "list", data := .seq #[] }).objs.size ∨ ∃ o, s.heap.get? b = some o := by
      rintro b (e | ⟨x, hx⟩ | ⟨x, m, hx, rfl⟩)
      · exact .inl e
      · exact .inr (L.alive (.inr (.inl ⟨x, (closeL_lookup scope.names [] (free_cells hE hs) x b hx).resolve_right (fun h => by cases h)⟩)))
      · refine .inr (L.alive (.inr (.inr ⟨x, m, ?_, rfl⟩)))
        unfold capt at hx
        split at hx
        · exact hx
        · cases hx
    refine comp_loop (D := s₂.heap.objs.size) (cenv := compEnvC scope (closeL env scope.names []) (s₂.heap.push { cls := .type "list", data := .seq #[] }).objs.size env) htg hif helt R (capt_env hE hs _ rfl rl rfl rfl) I hc hz (p12.tr (p24 s₂.toks)) Lc Wk (Wk.frame _ _ _ st fun b _ o e => k4 b o e) (fun i v hv => ?_) hwr hfp hob hgo ⟨0, hDg⟩ hDs (p₂.inv.fresh_z hD2) (fun f => ?_) hCs (fun b hb => ⟨fun e => ?_, fun f => ?_⟩)
      fun s' Z' vs m p hz' hp rs ns hzC => q s' Z' vs _ _ m p hDs hz' hp rs ns hCs hzC hCD
    · obtain ⟨a, ha, ra⟩ := hP i v hv
      exact ⟨a, ha, (p24 s₂.toks).rep0 ra⟩
    · rcases fo _ f with e | ⟨o, e⟩
      · exact hCD e.symm
      · rw [hDs] at e; cases e
    · obtain ⟨o, h⟩ := al b hb; rw [e, hD2] at h; cases h
    · rcases fo _ f with e | ⟨o, e⟩
      · obtain ⟨o, h⟩ := al b hb; rw [e, hC2] at h; cases h
      · rw [(hwr b hb).1] at e; cases e
  refine codeAny_compStart_list key (Wk.self 0 _ _ _ (Wk.frame _ _ _ st fun b _ o e => k4 b o e) key)
theorem deno_comp {elt target iter : Expr} {ifs : List Expr} {scope : Scope} {pos : Pos} {g : Slots → Option (List AV)} {T : AV → Slots → Option Slots} {t : Slots → Option Bool} {f : Slots → Option AV} (hs : CompScope scope sc) (hi : DenIt W d sc target iter g)
    (htg : DenTgC W d (relabelS scope sc) target T) (hif : DenIfs W d (relabelS scope sc) ifs t) (helt : DenP W d (relabelS scope sc) elt f) (hset : ∀ env x, foldedSetIterable iter env x = pure x) :
    DenO W d sc (.ListComp elt [⟨target, iter, ifs, 0⟩] scope pos) fun ρ => g ρ >>= fun items => if items.length ≤ 1000000 then compA T t f items (capt scope ρ) else none := by
  intro A env Z s ρ α l R hE I L hf Q E' q
  obtain ⟨items, hg, hf⟩ := bindO hf
  obtain ⟨hz, hf⟩ := iteO hf
  · skip
    rw [eval_ListComp]
    refine comp_core (use := none) hs hi htg hif helt hset R hE I L hg hf hz fun s' Z' vs C D m p hD hDz hp rs ns hC hCz hCD => ⟨m, ns, fun h' sb => ?_⟩
    obtain ⟨n, hp⟩ := hp
    have p₂ : Step W (.addrs (· ∈ [C])) Z' s' Z' { s' with heap := h' } := .writes (tk := s'.toks) p.inv (fun b o hb e => sb.extBut b o (by simpa using hb) e) (fun b hb => by cases List.mem_singleton.mp hb; exact ⟨I.fresh_b hC, I.fresh_x hC, hCz⟩)
    refine q D vs _ Z' (p.trans p₂ (fun a h => .inr (by cases List.mem_singleton.mp h; exact hC)) fun _ h => h.elim) hD hDz ⟨n, sb.extBut D _ (fun e => hCD e.symm) hp⟩ (p₂.reps (fun b z h => by cases List.mem_singleton.mp h; exact hCz z) rs)
end
end Mine
end
section
set_option linter.unusedVariables false
namespace Mine
section
variable {W : Wd} {Z Z' Z₁ : AddrSet} {s s' s₁ : Shared} {env : Env} {sc : Scope} {ρ ρ' : Slots} {α α' : Str → Addr} {A : Around} {d : Nat}
theorem deno_cut {value : Expr} {lo hi : Option Expr} {p pos : Pos} {f : Slots → Option AV} {g h : Slots → Option (Option Int)} (hv : DenP W d sc value f) (hl : DenPart W d sc lo g) (hh : DenPart W d sc hi h) :
    DenO W d sc (.Subscript value (.Slice lo hi none p) pos) fun ρ => f ρ >>= fun o => g ρ >>= fun i => h ρ >>= fun j => match o with | .lst l => if l.length ≤ 1000000 then some (cutL l i j) else none | _ => none := by
  intro A env Z s ρ α av R hE I L hf Q E' q
  obtain ⟨a, ha, hf⟩ := bindO hf
  obtain ⟨i, hi, hf⟩ := bindO hf
  obtain ⟨j, hj, hf⟩ := bindO hf
  cases a with
  | lst l =>
    obtain ⟨hz, hf⟩ := iteO hf
    · skip
      cases hf
      refine Subscript_ (hv A env Z s ρ α _ R hE I L ha _ _ fun va s₁ Z₁ p₁ r₁ => wpAny_Slice (hl A env Z₁ s₁ ρ α i R hE p₁.inv (L.step0 p₁) hi _ _ fun vl s₂ Z₂ p₂ q₂ =>
        hh A env Z₂ s₂ ρ α j R hE p₂.inv ((L.step0 p₁).step0 p₂) hj _ _ fun vu s₃ Z₃ p₃ q₃ => ?_))
      have p₄ : Step W .none Z₃ s₃ Z₃ { s₃ with heap := s₃.heap.push { cls := .type "slice", data := .fields #[vl, vu, .none] } } := .grow p₃.inv (tk := s₃.toks) (push_keep _ _)
      refine wpAny_pure ?_
      have ro := p₄.rep0 (p₃.rep0 (p₂.rep0 r₁))
      have p14 := p₁.tr (p₂.tr (p₃.tr p₄))
      obtain ⟨a, vs, rfl, z, hl, rl⟩ := ro.lst'
      have e : slicePick vs.toArray i j none = (cutL vs i j).toArray := by
        rw [slicePick_plain]; unfold cutL; simp
      refine (GivesO.newLst (n := 0) p₄.inv (rl.cut i j) fun Q E' q => tail_any hl.typeIs slot_list_getitem.lookup (wpAny_getItem_list_slice hl (Heap.IsSliceOf.new _ _ _ _) q₂ q₃ .none (by intro c; cases c) ?_ (by simp only [List.size_toArray, rl.length, sizeLine]; (first | lia | omega))) rfl) _ _ fun a vs s₂ Z₂ p₂ hn hz hp r₂ => q a vs s₂ Z₂ (p14.tr p₂) ((p14.none_back hn).resolve_left id) hz hp r₂
      rw [e]; exact q _
  | _ => cases hf
theorem den_assign_comp {x : Str} {px spos : Pos} {elt target iter : Expr} {ifs : List Expr} {scope : Scope} {pos : Pos} {g : Slots → Option (List AV)} {T : AV → Slots → Option Slots} {t : Slots → Option Bool} {f : Slots → Option AV} (hs : CompScope scope sc) (hi : DenIt W d sc target iter g)
    (htg : DenTgC W d (relabelS scope sc) target T) (hif : DenIfs W d (relabelS scope sc) ifs t) (helt : DenP W d (relabelS scope sc) elt f) (hset : ∀ env x, foldedSetIterable iter env x = pure x)
    (hk : sc.names.lookup x = some .local) (hline : px.line = pos.line) (hany : (scope.names.any fun (n, k) => n == x && (k == .local || k == .cell)) = false) :
    DenS W d sc (.Assign [.Name x px] (.ListComp elt [⟨target, iter, ifs, 0⟩] scope pos) spos) fun ρ => g ρ >>= fun items => if items.length ≤ 1000000 then compA T t f items (capt scope ρ) >>= fun l => some (.next, ρ.set x (.own ⟨none, l⟩)) else none := by
  intro A env Z s ρ α fl ρ' R hE I L hf Q E' q
  obtain ⟨items, hg, hf⟩ := bindO hf
  obtain ⟨hz, hf⟩ := iteO hf
  · skip
    obtain ⟨l, hc, hf⟩ := bindO hf
    cases hf
    have hsw : swapsWith (.ListComp elt [⟨target, iter, ifs, 0⟩] scope pos) (some (.Name x px)) spos.line env = pure true := by
      unfold swapsWith
      have h1 : (env.blockKind == ScopeKind.function) = true := by unfold Env.blockKind; rw [hE.kfn]; rfl
      have h2 : (env.kindOf x == some NameKind.local) = true := by rw [hE.kind, hk]; rfl
      have h3 : (px.line == (Expr.ListComp elt [⟨target, iter, ifs, 0⟩] scope pos).pos.line) = true := by
        show (px.line == pos.line) = true
        rw [hline]; exact beq_self_eq_true _
      show pure (env.blockKind == ScopeKind.function && env.kindOf x == some NameKind.local && px.line == (Expr.ListComp elt [⟨target, iter, ifs, 0⟩] scope pos).pos.line && !(scope.names.any fun (n, k) => n == x && (k == .local || k == .cell))) = pure true
      rw [h1, h2, h3, hany]; rfl
    rw [exec_Assign_Name_used _ _ _ _ hsw]
    refine wpAny_bind (wpAny_standAt (wpAny_bind ?_))
    show wpAny _ A (do let _ ← comprehension (.ListComp elt [⟨target, iter, ifs, 0⟩] scope pos) scope env _ (newList []) false (eval iter env) (some (assign (.Name x px) env))) _ _ s
    refine wpAny_bind (comp_core (use := some (assign (.Name x px) env)) hs hi htg hif helt hset R hE I L hg hc hz fun s' Z' vs C D m p hD hDz hp rs ns hC hCz hCD => ?_)
    show wpAny _ A (assign (.Name x px) env (.ref D)) _ _ _
    have L₁ := L.step0 p
    refine wpAny_assign_Name (L₁.store (sv := .own ⟨none, l⟩) (a := D) p.inv hE (.inl hk) ⟨rfl, vs, hp, rs⟩ (fun l₀ e₀ => ⟨hDz, I.fresh_b hD, I.fresh_x hD, (fun b h => by cases e₀; cases h), fun y l' _ hy e => ?_⟩) fun s₂ p₂ fo L₂ => ?_)
    · obtain ⟨o, ho⟩ := L.alive (.inr (.inr ⟨y, l', hy, rfl⟩))
      rw [e, hD] at ho; cases ho
    · have hCf : ¬ FOwn env ρ α C := fun f => by
        obtain ⟨o, ho⟩ := L.alive f; rw [hC] at ho; cases ho
      have hCf₂ : ¬ FOwn env (ρ.set x (.own ⟨none, l⟩)) (setA α x D) C := fun f => by
        rcases fo C f with f | ⟨_, e⟩
        · exact hCf f
        · exact hCD e
      obtain ⟨o, es, ep, e, dd, rest⟩ := ns
      have ns₂ : s₂.heap.Ns C m := ⟨o, es, ep, p₂.keep C o (fun h => hCf h) e, dd, rest⟩
      refine ⟨m, ns₂, fun h' sb => ?_⟩
      have p₃ : Step W (.addrs (· ∈ [C])) Z' s₂ Z' { s₂ with heap := h' } := .writes (tk := s₂.toks) p₂.inv (fun b o hb e => sb.extBut b o (by simpa using hb) e) (fun b hb => by cases List.mem_singleton.mp hb; exact ⟨I.fresh_b hC, I.fresh_x hC, hCz⟩)
      have L₃ := L₂.step p₃ fun b hb => by cases List.mem_singleton.mp hb; exact ⟨hCf₂, hCz⟩
      refine wpAny_pure (wpAny_pure (q .next _ Z' (setA α x D) ⟨(p.weak.trans p₂ (fun _ h => .inl h) (fun _ h => h.elim)).trans p₃ (fun b h => .inr (by cases List.mem_singleton.mp h; exact hC)) (fun _ h => h.elim), fun b f => (fo b f).imp id fun ⟨_, e⟩ => e ▸ hD, L₃⟩ trivial))
theorem inplace_list {a b : Addr} {Q : Value → Shared → Prop} {E' : Value → Shared → Prop} (ha : s.TypeIs (.ref a) "list") (hb : s.TypeIs (.ref b) "list") (hc : wpAny W.M A (call (.builtin "list.__iadd__") [.ref a, .ref b]) Q E' s) :
    wpAny W.M A (inplaceOp .Add (.ref a) (.ref b)) Q E' s := by
  unfold inplaceOp
  refine wpAny_holding ?_
  have hl := F.slot_list_iadd.lookup
  have hfi : fillsInplaceSlot (.type "list") "add" (Operator.Add == .Add) = pure false := by
    unfold fillsInplaceSlot
    show (typeLookup (.type "list") (dunderI "add") >>= fun fi => pure (fi.isSome && !isSeqSlot fi)) = pure false
    rw [hl]; rfl
  have hsi : seqSlot? (.type "list") (dunderI "add") = pure (some (.builtin "list.__iadd__")) := by
    unfold seqSlot?
    rw [hl]; rfl
  refine wpAny_bind (wpAny_typeOf ha (wpAny_bind (wpAny_of_eq hfi ?_)))
  show wpAny _ A (if false = true then _ else _) Q E' s
  rw [if_neg Bool.false_ne_true]
  refine wpAny_bind (wpAny_binaryOp1_none (nm := "add") ha hb noFill_list_add ?_)
  refine wpAny_bind (wpAny_of_eq hsi ?_)
  exact wpAny_bind (wpAny_rule hc)
theorem den_iadd {x : Str} {p pos : Pos} {e : Expr} {f : Slots → Option (List AV)} (h : DenO W d sc e f) (hk : sc.names.lookup x = some .local ∨ sc.names.lookup x = some .cell) (hn : (x == ("__classdict__" : Str)) = false) :
    DenS W d sc (.AugAssign (.Name x p) .Add e pos) fun ρ => getO ρ x >>= fun l => f ρ >>= fun r => if l.items.length + r.length ≤ 1000000 then some (.next, ρ.set x (.own ⟨l.place, l.items ++ r⟩)) else none := by
  intro A env Z s ρ α fl ρ' R hE I L hf Q E' q
  obtain ⟨l, hl, hf⟩ := bindO hf
  obtain ⟨r, hr, hf⟩ := bindO hf
  obtain ⟨hz, hf⟩ := iteO hf
  · skip
    cases hf
    have hx := getO_eq hl
    refine wpAny_AugAssign_Name (L.load hE hx (fun va ra => h A env Z s ρ α r R hE I L hr _ _ fun b ws s₁ Z₁ p₁ hnb hzb hpb rb => ?_) hn)
    obtain ⟨rfl, its, ⟨n, hp⟩, rs⟩ := ra
    obtain ⟨n₂, hpb⟩ := hpb
    have hp₁ := p₁.keep _ _ (fun h => h) hp
    have rs₁ := p₁.reps0 rs
    have L₁ := L.step0 p₁
    refine inplace_list ⟨_, hp₁, rfl⟩ ⟨_, hpb, rfl⟩ ?_
    have l1 := rs₁.length
    have l2 := rb.length
    refine call_meets F.slot_list_iadd ⟨_, hp₁, rfl⟩ F.entry_list_iadd (F.args_list_iadd_2 _ _) (AutoSeq1.list___iadd___list_list_0 (α x) its.toArray n b ws.toArray n₂ ?_ ?_ ?_) ⟨hp₁, hpb, ?_⟩
    · simp only [List.size_toArray, Builtin.List.listTooLong]
      simp; intro _; unfold sizeLine; (first | lia | omega)
    · simp only [List.size_toArray, sizeLine]; (first | lia | omega)
    · simp only [List.size_toArray, sizeLine]; (first | lia | omega)
    · have up := upd_plain hp₁ (fun y => y ++ ws.toArray)
      have fs := L₁.upd (tk := s₁.toks) (vs' := its ++ ws) p₁.inv hx (Heap.SameBut.update ..) (by simpa using up) (rs₁.append rb)
      have hxx : (ρ.set x (.own ⟨l.place, l.items ++ r⟩)) x = some (.own ⟨l.place, l.items ++ r⟩) := by unfold Slots.set; rw [if_pos rfl]
      obtain ⟨m, ns, hv⟩ := fs.loc.ns
      obtain ⟨v, _, sr⟩ := hv x _ hxx
      have fo' := fs.loc.nz (α x) (.inr (.inr ⟨x, _, hxx, rfl⟩))
      have fb' := fs.loc.nb (α x) (.inr (.inr ⟨x, _, hxx, rfl⟩))
      have sr' : SRep Z₁ _ (α x) (.ref (α x)) (.own ⟨l.place, l.items ++ r⟩) := ⟨rfl, sr.2⟩
      refine fs.loc.store (sv := .own ⟨l.place, l.items ++ r⟩) (a := α x) fs.step.inv hE hk sr' (fun l₀ e₀ => ⟨fo', fb'.1, fb'.2, fun b hb => by cases e₀; exact L.fix x l b hx hb, fun y l' hy hyy e => hy (fs.loc.inj y x _ _ hyy hxx e)⟩) fun s₂ p₂ fo L₂ => ?_
      have es : (ρ.set x (.own ⟨l.place, l.items ++ r⟩)).set x (.own ⟨l.place, l.items ++ r⟩) = ρ.set x (.own ⟨l.place, l.items ++ r⟩) := by
        funext y; unfold Slots.set; split <;> rfl
      have ea : setA α x (α x) = α := by funext y; unfold setA; split <;> simp_all
      rw [es, ea] at L₂ fo
      exact q .next s₂ Z₁ α (((FStep.pure L p₁).trans fs).trans ⟨p₂, fun b f => .inl ((fo b f).elim id fun ⟨_, e⟩ => e ▸ .inr (.inr ⟨x, _, hxx, rfl⟩)), L₂⟩) trivial
end
end Mine
end
section
set_option linter.unusedVariables false
namespace Mine
section
variable {W : Wd} {Z Z' Z₁ : AddrSet} {s s' s₁ : Shared} {env : Env} {sc : Scope} {ρ ρ' : Slots} {α α' : Str → Addr} {A : Around} {d : Nat}
structure FnK (W : Wd) (f : Addr) (fd : FuncData) (body : List Stmt) : Prop where
  look : ∃ o, W.K.lookup f = some o ∧ o.data = .func fd
  body : fd.body = .stmts body
  code : codeIn W.K fd.code fd.qualname = true
  globals : fd.globals = mainGlobals
  builtins : fd.builtins = builtinsNs
  closure : fd.closure = []
  nocell : ∀ x ∈ fd.scope.names, x.2 ≠ .cell
  nofree : ∀ x, fd.scope.names.lookup x ≠ some .free
  kind : fd.scope.kind = .function
  co : fd.scope.isCoroutine = false
  gen : fd.scope.isGenerator = false
def retA : AFlow → AV
  | .ret a => a
  | _ => .none
theorem lookup_in {β : Type} {l : List (Str × β)} {x : Str} {v : β} (h : l.lookup x = some v) : (x, v) ∈ l := by
  induction l with
  | nil => cases h
  | cons p r ih =>
    obtain ⟨k, w⟩ := p
    rw [List.lookup_cons] at h
    split at h
    · rename_i e; cases h
      have := eq_of_beq e
      subst this; exact List.mem_cons_self
    · exact List.mem_cons_of_mem _ (ih h)
theorem call_enter {f : Addr} {fd : FuncData} {body : List Stmt} {vals : List Value} {binds : List (Str × Value)} (k : FnK W f fd body) (R : Room A (d + 1)) (I : Inv W Z s) (hb : BindsTo s fd ⟨vals, []⟩ binds) (hl : ∀ x ∈ binds, fd.scope.names.lookup x.1 = some .local)
    (hρ : ∀ x sv, ρ x = some sv → ∃ v, binds.reverse.lookup x = some v ∧ SRep Z s.heap (α x) v sv)
    (ho : ∀ x l, ρ x = some (.own l) → ¬ Z (α x) ∧ W.h₀.get? (α x) = none ∧ ¬ W.X (α x) ∧ ∀ b, l.place = some b → α x = b)
    (hi : ∀ x y l l', ρ x = some (.own l) → ρ y = some (.own l') → α x = α y → x = y)
    {F : Slots → Option (AFlow × Slots)} (hF : DenSs W d fd.scope body F) {fl : AFlow} (hf : F ρ = some (fl, ρ')) {Q : Value → Shared → Prop} {E' : Value → Shared → Prop}
    (q : ∀ v s' Z' α' env, Step W (.addrs fun a => ∃ x l, ρ x = some (.own l) ∧ α x = a) Z s Z' s' → RepV Z' s'.heap v (retA fl) → Loc W Z' s'.heap env ρ' α' → Q v s') : wpAny W.M A (call (.ref f) vals) Q E' s := by
  obtain ⟨o, hk, hd⟩ := k.look
  refine wpAny_call (codeAny_call_def R.lt (I.kin _ _ hk) hd I.nolimit (codeRec_of I.kin k.code) k.body hb k.nocell hl (fun h₁ hns hk₁ => ?_) k.co k.gen k.kind)
  have hN : s.heap.get? s.heap.objs.size = none := push_none _
  have p₁ : Step W .none Z s Z { s with heap := h₁, toks := s.toks + binds.length } := .grow I hk₁
  have hE : EnvOk (callEnv fd s.heap.objs.size f) fd.scope := ⟨rfl, k.globals, k.builtins, k.kind, fun x hx => by
    rcases hx with h | h
    · exact (k.nocell _ (lookup_in h) rfl).elim
    · exact (k.nofree _ h).elim⟩
  have fo : ∀ a, FOwn (callEnv fd s.heap.objs.size f) ρ α a → a = s.heap.objs.size ∨ ∃ x l, ρ x = some (.own l) ∧ α x = a := by
    rintro a (h | ⟨x, hx⟩ | h)
    · exact .inl h
    · change fd.closure.lookup x = some a at hx; rw [k.closure] at hx; cases hx
    · exact .inr h
  have L : Loc W Z h₁ (callEnv fd s.heap.objs.size f) ρ α := by
    refine ⟨⟨_, hns, fun x sv hx => ?_⟩, fun a f z => ?_, fun a f => ?_, fun x l b hx hb => (ho x l hx).2.2.2 b hb, hi, fun x c hc => ?_, fun x y c hc => ?_⟩
    · obtain ⟨v, hv, r⟩ := hρ x sv hx
      refine ⟨v, .inl ⟨hl _ (List.mem_reverse.mp (lookup_in hv)), hv⟩, ?_⟩
      cases sv with
      | val av => exact RepV.mono (fun _ z => z) (fun a o _ e => hk₁ a o e) r
      | own l => obtain ⟨e, vs, ⟨n, hn⟩, rs⟩ := r; exact ⟨e, vs, ⟨n, hk₁ _ _ hn⟩, rs.mono (fun _ z => z) fun a o _ e => hk₁ a o e⟩
    · rcases fo a f with rfl | ⟨x, l, hx, rfl⟩
      · exact I.fresh_z hN z
      · exact (ho x l hx).1 z
    · rcases fo a f with rfl | ⟨x, l, hx, rfl⟩
      · exact ⟨I.fresh_b hN, I.fresh_x hN⟩
      · exact ⟨(ho x l hx).2.1, (ho x l hx).2.2.1⟩
    · change fd.closure.lookup x = some c at hc; rw [k.closure] at hc; cases hc
    · change fd.closure.lookup x = some c at hc; rw [k.closure] at hc; cases hc
  refine hF _ _ Z _ ρ α fl ρ' (R.deeper _) hE p₁.inv L hf _ _ fun g s₂ Z₂ α₂ p₂ r₂ => ?_
  have p : Step W (.addrs fun a => ∃ x l, ρ x = some (.own l) ∧ α x = a) Z s Z₂ s₂ := p₁.weak.trans p₂.step (fun a h => (fo a h).elim (fun e => .inr (e ▸ hN)) .inl) (fun _ h => h.elim)
  refine q _ s₂ Z₂ α₂ _ p ?_ p₂.loc
  cases fl <;> cases g <;> first | exact r₂.elim | exact .none | exact r₂
def bindA (names : List Str) (args : List AV) : Slots := fun x => ((names.zip args).reverse.lookup x).map .val
theorem lookup_none_of {β : Type} {x : Str} {m : List (Str × β)} (h : ∀ c, (x, c) ∉ m) : m.lookup x = none := by
  cases e : m.lookup x with
  | none => rfl
  | some c => exact (h c (lookup_in e)).elim
theorem zip_look {h : Heap} {vals : List Value} {args : List AV} (r : RepVs Z h vals args) (names : List Str) (x : Str) : (∀ a, (names.zip args).reverse.lookup x = some a → ∃ v, (names.zip vals).reverse.lookup x = some v ∧ RepV Z h v a) ∧ ((names.zip args).reverse.lookup x = none → (names.zip vals).reverse.lookup x = none) := by
  induction args generalizing vals names with
  | nil => rw [List.zip_nil_right]; rw [r.nil', List.zip_nil_right]; exact ⟨fun a h => by (cases h), fun _ => rfl⟩
  | cons b l ih =>
    obtain ⟨v, vs, rfl, r1, r2⟩ := r.cons'
    cases names with
    | nil => exact ⟨fun a h => by (cases h), fun _ => rfl⟩
    | cons n names =>
      obtain ⟨ih1, ih2⟩ := ih r2 names
      rw [List.zip_cons_cons, List.zip_cons_cons, List.reverse_cons, List.reverse_cons, List.lookup_append, List.lookup_append]
      cases e : (names.zip l).reverse.lookup x with
      | some c =>
        obtain ⟨w, hw, rw'⟩ := ih1 c e
        rw [hw]
        exact ⟨fun a h => ⟨w, rfl, Option.some.inj h ▸ rw'⟩, fun h => by (cases h)⟩
      | none =>
        rw [ih2 e, Option.none_or, Option.none_or, List.lookup_cons, List.lookup_cons]
        cases (x == n) with
        | true => exact ⟨fun a h => ⟨v, rfl, Option.some.inj h ▸ r1⟩, fun h => by (cases h)⟩
        | false => exact ⟨fun a h => by (cases h), fun _ => rfl⟩
theorem fspec_of {f : Addr} {fd : FuncData} {body : List Stmt} {names : List Str} {F : Slots → Option (AFlow × Slots)} (k : FnK W f fd body) (hb : ∀ s (vals : List Value), vals.length = names.length → BindsTo s fd ⟨vals, []⟩ (names.zip vals)) (hl : ∀ x ∈ names, fd.scope.names.lookup x = some .local)
    (hF : DenSs W d fd.scope body F) : FSpec W (d + 1) (.ref f) fun args => if args.length = names.length then (F (bindA names args)).map fun r => retA r.1 else none := by
  intro A Z s vals args av R I r hf Q E' q
  simp only at hf
  obtain ⟨hlen, hf⟩ := iteO hf
  · skip
    obtain ⟨⟨fl, ρ'⟩, hF', rfl⟩ := Option.map_eq_some_iff.mp hf
    have no : ∀ x l, bindA names args x ≠ some (.own l) := fun x l h => by
      obtain ⟨a, _, e⟩ := Option.map_eq_some_iff.mp h; cases e
    refine call_enter (α := fun _ => 0) k R I (hb s vals (r.length.trans hlen)) (fun x hx => hl _ (List.of_mem_zip (show (x.1, x.2) ∈ _ from hx)).1) (fun x sv hx => ?_) (fun x l hx => (no x l hx).elim) (fun x y l l' hx => (no x l hx).elim) hF hF' fun v s' Z' α' env p rv _ => q v s' Z' (p.mono (fun a ⟨x, l, hx, _⟩ => (no x l hx).elim) fun _ h => h.elim) rv
    obtain ⟨a, ha, rfl⟩ := Option.map_eq_some_iff.mp hx
    exact (zip_look r names x).1 a ha
end
end Mine
end
section
set_option linter.unusedVariables false
namespace Mine
section
variable {W : Wd} {Z Z' Z₁ : AddrSet} {s s' s₁ : Shared} {env : Env} {sc : Scope} {ρ ρ' : Slots} {α α' : Str → Addr} {A : Around} {d : Nat}
theorem RepEs.nil' {h : Heap} {es : List DictEntry} (r : RepEs Z h es []) : es = [] := by cases r; rfl
theorem RepEs.cons' {h : Heap} {es : List DictEntry} {x : Str} {a : AV} {fs : List (Str × AV)} (r : RepEs Z h es ((x, a) :: fs)) : ∃ hs t v es', es = ⟨hs, .str x t, v⟩ :: es' ∧ RepV Z h v a ∧ RepEs Z h es' fs := by cases r with | cons r rs => exact ⟨_, _, _, _, rfl, r, rs⟩
theorem isStr_eq (x name : Str) (t : Tok) : (Value.str x t).isStr name = (name == x) := by
  show (x == name) = (name == x)
  rw [Bool.eq_iff_iff, beq_iff_eq, beq_iff_eq]; exact ⟨Eq.symm, Eq.symm⟩
theorem RepEs.find {h : Heap} {name : Str} {es : List DictEntry} {fs : List (Str × AV)} (r : RepEs Z h es fs) : (∀ a, fs.lookup name = some a → ∃ en, es.find? (·.key.isStr name) = some en ∧ RepV Z h en.val a) ∧ (fs.lookup name = none → es.find? (·.key.isStr name) = none) ∧ es.any (·.refKey) = false := by
  induction fs generalizing es with
  | nil => rw [r.nil']; exact ⟨fun a h => by (cases h), fun _ => rfl, rfl⟩
  | cons p fs ih =>
    obtain ⟨x, b⟩ := p
    obtain ⟨hs, t, v, es', rfl, r1, rs⟩ := r.cons'
    obtain ⟨i1, i2, i3⟩ := ih rs
    rw [List.lookup_cons, List.find?_cons, List.any_cons, i3]
    show (∀ a, _ → ∃ en, (match (Value.str x t).isStr name with | true => _ | false => _) = some en ∧ _) ∧ (_ → (match (Value.str x t).isStr name with | true => _ | false => _) = none) ∧ _
    rw [isStr_eq]
    cases (name == x) with
    | true => exact ⟨fun a h => ⟨_, rfl, Option.some.inj h ▸ r1⟩, fun h => by (cases h), rfl⟩
    | false => exact ⟨i1, i2, rfl⟩
theorem RepEs.get {h : Heap} {name : Str} {es : List DictEntry} {fs : List (Str × AV)} {a : AV} (r : RepEs Z h es fs) (e : fs.lookup name = some a) : ∃ v, PySem.W.getL name es = some (some v) ∧ RepV Z h v a := by
  obtain ⟨en, h1, h2⟩ := r.find.1 a e
  exact ⟨en.val, by unfold PySem.W.getL; rw [h1], h2⟩
theorem RepEs.noref {h : Heap} {es : List DictEntry} {fs : List (Str × AV)} (r : RepEs Z h es fs) : es.any (·.refKey) = false := (r.find (name := "")).2.2
theorem RepEs.lacks {h : Heap} {name : Str} {es : List DictEntry} {fs : List (Str × AV)} (r : RepEs Z h es fs) (e : fs.lookup name = none) : es.find? (·.key.isStr name) = none := r.find.2.1 e
theorem RepEs.no {h : Heap} {name : Str} {es : List DictEntry} {fs : List (Str × AV)} (r : RepEs Z h es fs) (hn : fs.lookup name = none) : PySem.W.getL name es = some none := by
  unfold PySem.W.getL; rw [r.lacks hn, r.noref]; rfl
def plainV : AV → Bool
  | .raw _ => false
  | _ => true
theorem handed {h : Heap} {v : Value} {a : AV} (r : RepV Z h v a) (hp : plainV a = true) : handedIn v = true := by
  cases r <;> first | rfl | cases hp
def attrA (C : Addr) (name : Str) : AV → Option AV
  | .inst c fs => if c = C then (match fs.lookup name with | some a => if plainV a = true then some a else none | none => none) else none
  | _ => none
theorem den_attr {x name : Str} {p pos : Pos} {C : Addr} (hg : plainGet W.K C name = true) (hh : hasDictIn W.K C = true) (ha : findIn W.K (.ref C) name = some none) (h1 : (x == ("__debug__" : Str)) = false) (hn : (x == ("__classdict__" : Str)) = false) :
    DenP W d sc (.Attribute (.Name x p) name pos) fun ρ => getV ρ x >>= attrA C name := by
  intro A env Z s ρ α av R hE I L hf Q E' q
  replace ⟨a, hx, hf⟩ := bindO hf
  unfold attrA at hf
  split at hf
  · split at hf
    · rename_i c fs hc
      subst hc
      split at hf
      · rename_i a ha'
        replace ⟨hp, hf⟩ := iteO hf
        · cases hf
          refine Attribute_name (wpAny_Name (L.load hE (getV_eq hx) (fun v r => ?_) hn) h1)
          have r' : RepV Z s.heap v (.inst c fs) := r
          cases r' with | inst z1 z2 o1 o2 rs =>
          rename_i x' dx es n
          obtain ⟨w, hw, rw'⟩ := rs.get ha'
          exact get_value I.kin (od := some (dictOf es n)) ⟨o1, rfl, rfl, o2⟩ (plainGet_of hg).1 (findObj_own hh ha rfl hw) (handed rw' hp) (q _ _ Z (.toks I _) rw')
      · cases hf
    · cases hf
  · cases hf
def LSpec (W : Wd) (d : Nat) (f : Value) (G : AV → List AV → List AV → Option (AV × List AV)) : Prop :=
  ∀ (A : Around) (Z : AddrSet) (s : Shared) (vself : Value) (self : AV) (a : Addr) (vs : List Value) (items : List AV) (vals : List Value) (args : List AV) (av : AV) (items' : List AV), Room A d → Inv W Z s → RepV Z s.heap vself self → ¬ Z a → W.h₀.get? a = none → ¬ W.X a →
    s.heap.PlainList a vs.toArray → RepVs Z s.heap vs items → RepVs Z s.heap vals args → G self items args = some (av, items') → ∀ (Q : Value → Shared → Prop) (E' : Value → Shared → Prop),
    (∀ v s' Z' vs', Step W (.addrs (· = a)) Z s Z' s' → ¬ Z' a → s'.heap.PlainList a vs'.toArray → RepVs Z' s'.heap vs' items' → RepV Z' s'.heap v av → Q v s') → wpAny W.M A (call f (vself :: .ref a :: vals)) Q E' s
def bindLent (n0 n1 : Str) (names : List Str) (self : AV) (l : OL) (args : List AV) : Slots := ((bindA names args).set n0 (.val self)).set n1 (.own l)
theorem lspec_of {f : Addr} {fd : FuncData} {body : List Stmt} {n0 n1 : Str} {names : List Str} {F : Slots → Option (AFlow × Slots)} {G : AV → List AV → List AV → Option (AV × List AV)} (k : FnK W f fd body)
    (hb : ∀ s (v0 v1 : Value) (vals : List Value), vals.length = names.length → BindsTo s fd ⟨v0 :: v1 :: vals, []⟩ ((n0, v0) :: (n1, v1) :: names.zip vals)) (hl : ∀ x ∈ n0 :: n1 :: names, fd.scope.names.lookup x = some .local) (h01 : n0 ≠ n1) (h0 : n0 ∉ names) (h1 : n1 ∉ names)
    (hF : DenSs W d fd.scope body F)
    (hG : ∀ (a : Addr) (self : AV) (items args : List AV) (av : AV) (items' : List AV), G self items args = some (av, items') → args.length = names.length ∧ ∃ fl ρ', F (bindLent n0 n1 names self ⟨some a, items⟩ args) = some (fl, ρ') ∧ retA fl = av ∧ ρ' n1 = some (.own ⟨some a, items'⟩)) :
    LSpec W (d + 1) (.ref f) G := by
  intro A Z s vself self a vs items vals args av items' R I rself hza hba hxa hp rs rargs hg Q E' q
  obtain ⟨hlen, fl, ρ', hF', rfl, hρ'⟩ := hG a self items args av items' hg
  have hset : ∀ x sv, bindLent n0 n1 names self ⟨some a, items⟩ args x = some sv → (x = n1 ∧ sv = .own ⟨some a, items⟩) ∨ (x ≠ n1 ∧ x = n0 ∧ sv = .val self) ∨ (x ≠ n1 ∧ x ≠ n0 ∧ bindA names args x = some sv) := fun x sv hx => by
    unfold bindLent Slots.set at hx
    by_cases e : x = n1
    · rw [if_pos e] at hx; cases hx; exact .inl ⟨e, rfl⟩
    · rw [if_neg e] at hx
      by_cases e0 : x = n0
      · rw [if_pos e0] at hx; cases hx; exact .inr (.inl ⟨e, e0, rfl⟩)
      · rw [if_neg e0] at hx; exact .inr (.inr ⟨e, e0, hx⟩)
  have hown : ∀ x l, bindLent n0 n1 names self ⟨some a, items⟩ args x = some (.own l) → x = n1 ∧ l = ⟨some a, items⟩ := fun x l hx => by
    rcases hset x _ hx with ⟨e, h⟩ | ⟨_, _, h⟩ | ⟨_, _, h⟩
    · cases h; exact ⟨e, rfl⟩
    · cases h
    · obtain ⟨b, _, e⟩ := Option.map_eq_some_iff.mp h; cases e
  have hnz : ∀ x, x ∉ names → (names.zip vals).reverse.lookup x = none := fun x hx => lookup_none_of fun c hc => hx (List.of_mem_zip (List.mem_reverse.mp hc)).1
  have hbx : ∀ x, ((n0, vself) :: (n1, Value.ref a) :: names.zip vals).reverse.lookup x = ((names.zip vals).reverse.lookup x).or ([(n1, Value.ref a), (n0, vself)].lookup x) := fun x => by
    rw [← List.lookup_append]; simp
  refine call_enter (α := fun _ => a) k R I (hb s vself (.ref a) vals (rargs.length.trans hlen)) (fun x hx => hl _ ?_) (fun x sv hx => ?_) (fun x l hx => ?_) (fun x y l l' hx hy _ => (hown x l hx).1.trans (hown y l' hy).1.symm) hF hF' fun v s' Z' α' env p rv L' => ?_
  · rcases List.mem_cons.mp hx with rfl | hx
    · exact List.mem_cons_self
    · rcases List.mem_cons.mp hx with rfl | hx
      · exact List.mem_cons_of_mem _ List.mem_cons_self
      · exact List.mem_cons_of_mem _ (List.mem_cons_of_mem _ (List.of_mem_zip (show (x.1, x.2) ∈ _ from hx)).1)
  · rcases hset x sv hx with ⟨rfl, rfl⟩ | ⟨hne, rfl, rfl⟩ | ⟨hne, hne0, hb'⟩
    · refine ⟨.ref a, ?_, rfl, vs, hp, rs⟩
      rw [hbx, hnz _ h1]; simp
    · refine ⟨vself, ?_, rself⟩
      have : (x == n1) = false := by simpa using hne
      rw [hbx, hnz _ h0, List.lookup_cons, this]; simp
    · obtain ⟨b, hb1, rfl⟩ := Option.map_eq_some_iff.mp hb'
      obtain ⟨v, hv, rv⟩ := (zip_look rargs names x).1 b hb1
      exact ⟨v, by rw [hbx, hv]; rfl, rv⟩
  · obtain ⟨rfl, rfl⟩ := hown x l hx
    exact ⟨hza, hba, hxa, fun b hb => by cases hb; rfl⟩
  · obtain ⟨m, ns, hv⟩ := L'.ns
    obtain ⟨v₁, _, e, vs', hp', rs'⟩ := hv n1 _ hρ'
    have hfix := L'.fix n1 _ a hρ' rfl
    have nz' := L'.nz (α' n1) (.inr (.inr ⟨n1, _, hρ', rfl⟩))
    rw [hfix] at hp' nz'
    exact q v s' Z' vs' (p.mono (fun b ⟨x, l, hx, e⟩ => .inl e.symm) fun _ h => h.elim) nz' hp' rs' rv
theorem denx_lent {o y meth : Str} {p1 py apos pos : Pos} {es : List Expr} {fs : Slots → Option (List AV)} {C f : Addr} {G : AV → List AV → List AV → Option (AV × List AV)}
    (h1 : (o == ("__debug__" : Str)) = false) (hn : (o == ("__classdict__" : Str)) = false) (h1y : (y == ("__debug__" : Str)) = false) (hny : (y == ("__classdict__" : Str)) = false)
    (hg : plainGet W.K C meth = true) (hfi : findIn W.K (.ref C) meth = some (some (.ref f))) (hfn : isFn W.K (.ref f) = true) (hko : KeepOk W (.ref f)) (ha : DenPs W d sc es fs) (hs : ∀ env, starEach (.Name y py :: es) env = (false, eval (.Name y py) env) :: starEach es env) (hns : ∀ env pos, (backTo pos (starEach es env)).any (·.1) = false)
    (pl : Env → Value → Sem Bool) (he : ∀ env, eval (.Call (.Attribute (.Name o p1) meth apos) (.Name y py :: es) [] pos) env = (do
      let ov ← eval (.Name o p1) env
      standAt apos.atName
      let (f, first) ← holding [ov] (getMethod ov meth (pl env ov))
      callWith pos f first (backTo pos (starEach (.Name y py :: es) env)) [])) (hF : LSpec W d (.ref f) G) :
    DenX W d sc (.Call (.Attribute (.Name o p1) meth apos) (.Name y py :: es) [] pos) fun ρ => getV ρ o >>= fun self => getO ρ y >>= fun l => fs ρ >>= fun args => match self with
      | .inst c fl => if c = C ∧ fl.lookup meth = none then G self l.items args >>= fun r => some (r.1, ρ.set y (.own ⟨l.place, r.2⟩)) else none
      | _ => none := by
  intro A env Z s ρ α av ρ' R hE I L hf Q E' q
  replace ⟨self, hself, hf⟩ := bindO hf
  replace ⟨l, hl, hf⟩ := bindO hf
  replace ⟨args, hargs, hf⟩ := bindO hf
  split at hf
  · rename_i c fl
    replace ⟨hc, hf⟩ := iteO hf
    · skip
      obtain ⟨rfl, hlk⟩ := hc
      obtain ⟨⟨r1, r2⟩, hG, hf⟩ := bindO hf
      cases hf
      have hx := getO_eq hl
      rw [he env]
      refine wpAny_bind (wpAny_Name (L.load hE (getV_eq hself) (fun v r => ?_) hn) h1)
      have r' : RepV Z s.heap v (.inst c fl) := r
      have r'' := r'
      cases r' with | inst z1 z2 o1 o2 rs =>
      rename_i x' dx ess n
      refine wpAny_bind (wpAny_standAt (wpAny_bind (wpAny_holding (method_fn I.kin (od := some (dictOf ess n)) ⟨o1, rfl, rfl, o2⟩ (plainGet_of hg).1 (plainGet_of hg).2 hfi (beq_iff_eq.mp hfn) (by
        show (lookIn meth (dictOf ess n)).map _ = _
        rw [lookIn_dict, rs.no hlk]; rfl) ?_))))
      have hany : ∀ env pos, (backTo pos (starEach (.Name y py :: es) env)).any (·.1) = false := fun env pos => by
        rw [hs]
        cases hse : starEach es env with
        | nil => rfl
        | cons a b =>
          have := hns env pos
          rw [hse] at this
          simpa [backTo] using this
      refine callWith_of (P := W.K.In) (by rw [hany]; rfl) hko (evalArgs_ns (hany _ _) ?_)
      refine wpAny_items_cons (wpAny_Name (L.load hE hx (fun vy ry => ?_) hny) h1y) (hs env)
      obtain ⟨rfl, its, hpl, rl⟩ := ry
      refine ha A env Z s ρ α args R hE I L hargs pos _ _ fun vs s₁ Z₁ p₁ r₁ => ⟨p₁.inv.kin, ?_⟩
      have L₁ := L.step0 p₁
      have fb : FOwn env ρ α (α y) := .inr (.inr ⟨y, l, hx, rfl⟩)
      obtain ⟨n₀, hpl⟩ := hpl
      refine hF A Z₁ s₁ (.ref x') (.inst c fl) (α y) its l.items vs args r1 r2 R p₁.inv (p₁.rep0 r'') (L₁.nz _ fb) (L₁.nb _ fb).1 (L₁.nb _ fb).2 ⟨n₀, p₁.keep _ _ id hpl⟩ (p₁.reps0 rl) r₁ hG _ _ fun v s₂ Z₂ vs' p₂ hz₂ hp₂ rs₂ rv₂ => ?_
      exact q v s₂ Z₂ α ((FStep.pure L p₁).trans (L₁.swap hx p₂ hz₂ hp₂ rs₂)) rv₂
  · cases hf
end
end Mine
end
section
set_option linter.unusedVariables false
namespace Mine
section
variable {W : Wd} {Z Z' Z₁ : AddrSet} {s s' s₁ : Shared} {env : Env} {sc : Scope} {ρ ρ' : Slots} {α α' : Str → Addr} {A : Around} {d : Nat}
theorem den_exprX {e : Expr} {pos : Pos} {F : Slots → Option (AV × Slots)} (h : DenX W d sc e F) (hs : ∀ env, swapsWith e none pos.line env = pure false) :
    DenS W d sc (.Expr e pos) fun ρ => F ρ >>= fun r => match r.1 with | .none => some (.next, r.2) | _ => none := by
  intro A env Z s ρ α fl ρ' R hE I L hf Q E' q
  obtain ⟨⟨av, ρ₁⟩, h₁, hf⟩ := bindO hf
  cases av <;> cases hf
  refine wpAny_Expr (h A env Z s ρ α _ _ R hE I L h₁ _ _ fun v s₁ Z₁ α₁ p₁ r₁ => ?_) (by
      show (env.scope.kind == .module && _) = false
      rw [hE.kfn]; rfl) (hs env)
  cases r₁
  exact q .next s₁ Z₁ α₁ p₁ trivial
theorem den_ifX {e r : Expr} {op : CmpOp} {cpos : Pos} {body orelse : List Stmt} {pos : Pos} {F : Slots → Option (AV × Slots)} {g : Slots → Option AV} {B G : Slots → Option (AFlow × Slots)} (h : DenX W d sc e F) (hr : DenP W d sc r g) (hm : behindInMarks op r = false) (hb : DenSs W d sc body B) (ho : DenSs W d sc orelse G) :
    DenS W d sc (.If (.Compare e [op] [r] cpos) body orelse pos) fun ρ => F ρ >>= fun x => g x.2 >>= fun y => cmpA op x.1 y >>= fun b => if b = true then B x.2 else G x.2 := by
  intro A env Z s ρ α fl ρ' R hE I L hf Q E' q
  obtain ⟨⟨av, ρ₁⟩, h₁, hf⟩ := bindO hf
  obtain ⟨y, hy, hf⟩ := bindO hf
  obtain ⟨b, hb', hf⟩ := bindO hf
  refine wpAny_If (wpAny_isTrue_Compare1 (h A env Z s ρ α _ _ R hE I L h₁ _ _ fun v s₁ Z₁ α₁ p₁ r₁ => hr A env Z₁ s₁ ρ₁ α₁ y R hE p₁.step.inv p₁.loc hy _ _ fun vb s₂ Z₂ p₂ r₂ =>
    cmpA_ok R p₂.inv (p₂.rep0 r₁) r₂ hb' (wpAny_truthy_bool ?_)) hm)
  have p12 := p₁.trans (FStep.pure p₁.loc p₂)
  cases b with
  | true => exact hb A env Z₂ s₂ ρ₁ α₁ fl ρ' R hE p12.step.inv p12.loc hf _ _ fun f s₃ Z₃ α₃ p₃ r₃ => q f s₃ Z₃ α₃ (p12.trans p₃) r₃
  | false => exact ho A env Z₂ s₂ ρ₁ α₁ fl ρ' R hE p12.step.inv p12.loc hf _ _ fun f s₃ Z₃ α₃ p₃ r₃ => q f s₃ Z₃ α₃ (p12.trans p₃) r₃
-- new things of a class of the text
structure InitSt where
  attr : Str
  par : Str
  p1 : Pos
  p2 : Pos
  p3 : Pos
  p4 : Pos
def InitSt.stmt (st : InitSt) : Stmt := .Assign [.Attribute (.Name "self" st.p1) st.attr st.p2] (.Name st.par st.p3) st.p4
def initA (g : Str → Option AV) : List InitSt → List (Str × AV) → Option (List (Str × AV))
  | [], fs => some fs
  | st :: r, fs => match g st.par, fs.lookup st.attr with
    | some a, none => initA g r (fs ++ [(st.attr, a)])
    | _, _ => none
theorem putL_new {name : Str} {hsh : Int} {key v : Value} : ∀ {es : List DictEntry}, es.find? (·.key.isStr name) = none → putL name hsh key v es = es ++ [⟨hsh, key, v⟩]
  | [], _ => rfl
  | e :: r, h => by
    rw [List.find?_cons] at h
    unfold putL
    cases c : e.key.isStr name with
    | true => rw [c] at h; cases h
    | false => rw [c] at h; simp only at h; rw [if_neg (by decide), putL_new h]; rfl
theorem RepEs.snoc {h : Heap} {hs : Int} {x : Str} {t : Tok} {v : Value} {a : AV} {es : List DictEntry} {fs : List (Str × AV)} (r : RepEs Z h es fs) (q : RepV Z h v a) : RepEs Z h (es ++ [⟨hs, .str x t, v⟩]) (fs ++ [(x, a)]) := by
  induction fs generalizing es with
  | nil => rw [r.nil']; exact .cons q .nil
  | cons p fs ih => obtain ⟨y, b⟩ := p; obtain ⟨hs, t, v, es', rfl, r1, rs⟩ := r.cons'; exact .cons r1 (ih rs)
theorem RepEs.length {h : Heap} {es : List DictEntry} {fs : List (Str × AV)} (r : RepEs Z h es fs) : es.length = fs.length := by
  induction fs generalizing es with
  | nil => rw [r.nil']; rfl
  | cons p fs ih => obtain ⟨y, b⟩ := p; obtain ⟨hs, t, v, es', rfl, r1, rs⟩ := r.cons'; exact congrArg (· + 1) (ih rs)
structure ClsK (W : Wd) (C fI : Addr) : Prop where
  makes : makesIn W.K C = true
  init : findIn W.K (.ref C) "__init__" = some (some (.ref fI))
  fn : typeIn W.K (.ref fI) = some (.type "function")
  setattr : findIn W.K (.ref C) "__setattr__" = some (some (.builtin "object.__setattr__"))
  over : plainOver W.K C = true
  dict : hasDictIn W.K C = true
  get : plainGet W.K C "" = true
theorem init_run {C fI x dx L : Addr} {h₀ : Heap} {m : Str → Option Value} (k : ClsK W C fI) (X₀ : W.K.In h₀) (hL : env.locals = L) (hfn : env.scope.kind = .function) (hself : env.kindOf "self" = some .local) (hms : m "self" = some (.ref x)) {g : Str → Option AV}
    (hg : ∀ par a, g par = some a → ∃ v, m par = some v ∧ RepV Z h₀ v a) {Q : Flow → Shared → Prop} {E' : Value → Shared → Prop} (hne : x ≠ dx) {fs' : List (Str × AV)} :
    ∀ (l : List InitSt) (es : List DictEntry) (n : Nat) (fs : List (Str × AV)) (s : Shared), (∀ st ∈ l, env.kindOf st.par = some .local ∧ (st.par == ("__debug__" : Str)) = false ∧ takerIn W.K C st.attr = some none) → Fr h₀ L s.heap m → News h₀ L s.heap [(x, instObj C dx), (dx, dictOf es n)] → RepEs Z h₀ es fs → es.length + l.length ≤ 900 → initA g l fs = some fs' →
      (∀ h' tk es' n', Fr h₀ L h' m → News h₀ L h' [(x, instObj C dx), (dx, dictOf es' n')] → RepEs Z h₀ es' fs' → Q .next { s with heap := h', toks := tk }) → wpAny W.M A (execs (l.map InitSt.stmt) env) Q E' s
  | [], es, n, fs, s, _, F, N, re, _, hi, q => by
    cases hi
    exact wpAny_execs_nil (q s.heap s.toks es n F N re)
  | st :: r, es, n, fs, s, hl, F, N, re, hz, hi, q => by
    unfold initA at hi
    split at hi
    · rename_i a ha hno
      obtain ⟨v, hv, rv⟩ := hg _ _ ha
      obtain ⟨k1, k2, k3⟩ := hl st List.mem_cons_self
      refine wpAny_execs_cons ?_
      refine plainObj_wpAny_Assign_Attribute (wpAny_Name (wpAny_loadName_local hfn k1 (hL ▸ F.ns) hv (wpAny_Name (wpAny_loadName_local hfn hself (hL ▸ F.ns) hms ?_) (by decide))) k2) rfl
      have hfind := re.lacks hno
      have hgl := re.no hno
      refine set_dict (K := W.K) (es' := es ++ [⟨PyData.keyHash W.w.params st.attr, .str st.attr (s.toks + 1), v⟩]) (n' := putN st.attr es n) F X₀ N (InstAt.of_news N List.mem_cons_self (List.mem_cons_of_mem _ List.mem_cons_self)) rfl k.setattr k.over k3 k.dict (by rw [hgl]; rfl) (by rw [putL_new hfind]) (.tail hne (.head fun p hp => by cases hp)) (by simp at hz ⊢; (first | lia | omega)) fun h' F' N' => ?_
      exact init_run k X₀ hL hfn hself hms hg hne r _ _ (fs ++ [(st.attr, a)]) _ (fun st hst => hl st (List.mem_cons_of_mem _ hst)) F' N' (re.snoc rv) (by simp at hz ⊢; (first | lia | omega)) hi fun h' tk es' n' F'' N'' re' => q h' tk es' n' F'' N'' re'
    · cases hi
theorem ctor_spec {C fI : Addr} {fd : FuncData} {names : List Str} {l : List InitSt} {bd : List AV → Option (List AV)} (k : ClsK W C fI) (kf : FnK W fI fd (l.map InitSt.stmt))
    (hb : ∀ (Z : AddrSet) (h : Heap) (x : Value) (vals : List Value) (args full : List AV), RepVs Z h vals args → bd args = some full → ∃ fvals, (∀ s : Shared, W.K.In s.heap → BindsTo s fd ⟨x :: vals, []⟩ (("self", x) :: names.zip fvals)) ∧ RepVs Z h fvals full)
    (hl : ∀ x ∈ ("self" : Str) :: names, fd.scope.names.lookup x = some .local) (hns : ("self" : Str) ∉ names) (hst : ∀ st ∈ l, st.par ∈ names ∧ (st.par == ("__debug__" : Str)) = false ∧ takerIn W.K C st.attr = some none) (hlen : l.length ≤ 900) :
    FSpec W (d + 1) (.ref C) fun args => bd args >>= fun full => (initA (fun p => (names.zip full).reverse.lookup p) l []).map (.inst C) := by
  intro A Z s vals args av R I r hf Q E' q
  obtain ⟨full, hfull, hf⟩ := bindO hf
  obtain ⟨fs, hfs, rfl⟩ := Option.map_eq_some_iff.mp hf
  refine wpAny_call ?_
  have X := I.kin
  obtain ⟨hh, g, dr, t, os⟩ := s
  refine make_core (makes_of X k.makes) (looks_findIn X k.init) (fun self => bind_fn X self k.fn) (.inl rfl) ?_
  have k1 : ∀ b o, hh.get? b = some o → ((hh.push emptyDict).push (instObj C hh.objs.size)).get? b = some o := fun b o e => Heap.get?_push_of_some _ (Heap.get?_push_of_some _ e)
  have hx : ((hh.push emptyDict).push (instObj C hh.objs.size)).get? (hh.objs.size + 1) = some (instObj C hh.objs.size) := by heap_get
  have hdx : ((hh.push emptyDict).push (instObj C hh.objs.size)).get? hh.objs.size = some (dictOf [] 0) := by heap_get
  have p₁ : Step W .none Z ⟨hh, g, dr, t, os⟩ Z ⟨(hh.push emptyDict).push (instObj C hh.objs.size), g, dr, t, os⟩ := .grow (tk := t) I k1
  obtain ⟨fvals, hbind, rf⟩ := hb Z hh (.ref (hh.objs.size + 1)) vals args full r hfull
  obtain ⟨o, ho, hd⟩ := kf.look
  have hw : (Code.builtin "type.__call__" ⟨.ref C :: vals, []⟩).weight = 1 := rfl
  have hroom : (A.under (.builtin "type.__call__" ⟨.ref C :: vals, []⟩)).depth < recursionLimit := by
    show A.depth + (Code.builtin "type.__call__" ⟨.ref C :: vals, []⟩).weight < recursionLimit
    rw [hw]
    have := R.depth; (first | lia | omega)
  refine codeAny_call_def hroom (p₁.inv.kin _ _ ho) hd p₁.inv.nolimit (codeRec_of p₁.inv.kin kf.code) kf.body (hbind _ p₁.inv.kin) kf.nocell (fun y hy => hl _ ?_) (fun h₁ hns₁ hk₁ => ?_) kf.co kf.gen kf.kind
  · rcases List.mem_cons.mp hy with rfl | hy
    · exact List.mem_cons_self
    · exact List.mem_cons_of_mem _ (List.of_mem_zip (show (y.1, y.2) ∈ _ from hy)).1
  · have hself : ((("self" : Str), Value.ref (hh.objs.size + 1)) :: names.zip fvals).reverse.lookup ("self" : Str) = some (Value.ref (hh.objs.size + 1)) := by
      rw [List.reverse_cons, List.lookup_append, lookup_none_of (m := (names.zip fvals).reverse) fun c hc => hns (List.of_mem_zip (List.mem_reverse.mp hc)).1]; simp
    have hnx : hh.get? (hh.objs.size + 1) = none := by
      cases e : hh.get? (hh.objs.size + 1) with
      | none => rfl
      | some o =>
        have h9 : hh.objs.size + 1 < hh.objs.size := Heap.lt_size e
        (first | lia | omega)
    have hsz : ((hh.push emptyDict).push (instObj C hh.objs.size)).objs.size = hh.objs.size + 2 := by rw [Heap.size_push, Heap.size_push]
    have F₁ : Fr hh ((hh.push emptyDict).push (instObj C hh.objs.size)).objs.size h₁ (fun y => ((("self" : Str), Value.ref (hh.objs.size + 1)) :: names.zip fvals).reverse.lookup y) := ⟨hns₁, fun b o e => hk₁ b o (k1 b o e), by rw [hsz]; exact Nat.le_add_right _ 2⟩
    refine init_run (env := callEnv fd ((hh.push emptyDict).push (instObj C hh.objs.size)).objs.size fI) (h₀ := hh) (x := hh.objs.size + 1) (dx := hh.objs.size) k X rfl kf.kind (hl _ List.mem_cons_self) hself (g := fun p => (names.zip full).reverse.lookup p) (Z := Z) (fun par a ha => ?_) (Nat.ne_of_gt (Nat.lt_succ_self hh.objs.size)) l [] 0 [] _ (fun st hs => ?_) F₁ (fun p hp => ?_) .nil (by simpa using hlen) hfs fun h' tk es' n' F' N' re' => ?_
    · obtain ⟨v, hv, rv⟩ := (zip_look rf names par).1 a ha
      refine ⟨v, ?_, rv⟩
      · show List.lookup par (((("self" : Str), Value.ref (hh.objs.size + 1)) :: names.zip fvals).reverse) = some v
        rw [List.reverse_cons, List.lookup_append, hv]; rfl
    · obtain ⟨a, b, c⟩ := hst st hs
      exact ⟨hl _ (List.mem_cons_of_mem _ a), b, c⟩
    · rcases List.mem_cons.mp hp with rfl | hp
      · exact ⟨hk₁ _ _ hx, by rw [hsz]; show hh.objs.size + 1 ≠ hh.objs.size + 2; (first | lia | omega), hnx⟩
      · cases List.mem_singleton.mp hp
        exact ⟨hk₁ _ _ hdx, by rw [hsz]; show hh.objs.size ≠ hh.objs.size + 2; (first | lia | omega), push_none _⟩
    · refine ⟨rfl, ?_⟩
      have hx' := (N' _ List.mem_cons_self).1
      have hdx' := (N' _ (List.mem_cons_of_mem _ List.mem_cons_self)).1
      have hk := F'.keep
      refine q _ _ (fun b => Z b ∨ b = hh.objs.size ∨ b = hh.objs.size + 1) ⟨⟨I.ok, fun b o e x => hk _ _ (I.base b o e x), fun b x => let ⟨o, e⟩ := I.xs b x; ⟨o, hk _ _ e⟩, fun b z => ?_, I.os, I.bare⟩, fun b o _ e => hk b o e, fun _ z => .inl z, fun b z => ?_, fun _ _ _ e => e⟩ (.inst (.inr (.inr rfl)) (.inr (.inl rfl)) hx' hdx' (re'.mono (fun _ z => .inl z) fun b o _ e => hk b o e))
      · rcases z with z | rfl | rfl
        · obtain ⟨o, e⟩ := I.zin b z; exact ⟨o, hk _ _ e⟩
        · exact ⟨_, hdx'⟩
        · exact ⟨_, hx'⟩
      · rcases z with z | rfl | rfl
        · exact .inl z
        · exact .inr (.inr (push_none _))
        · exact .inr (.inr hnx)
end
end Mine
end
section
set_option linter.unusedVariables false
namespace Mine
section
variable {W : Wd} {Z Z' Z₁ : AddrSet} {s s' s₁ : Shared} {env : Env} {sc : Scope} {ρ ρ' : Slots} {α α' : Str → Addr} {A : Around} {d : Nat}
def cutO (o : AV) (i j : Option Int) : Option (List AV) := match o with | .lst l => if l.length ≤ 1000000 then some (cutL l i j) else none | _ => none
theorem deno_cuto {value : Expr} {lo hi : Option Expr} {p pos : Pos} {f : Slots → Option AV} {g h : Slots → Option (Option Int)} (hv : DenP W d sc value f) (hl : DenPart W d sc lo g) (hh : DenPart W d sc hi h) :
    DenO W d sc (.Subscript value (.Slice lo hi none p) pos) fun ρ => f ρ >>= fun o => g ρ >>= fun i => h ρ >>= fun j => cutO o i j := deno_cut hv hl hh
def lentA (C : Addr) (meth : Str) (G : AV → List AV → List AV → Option (AV × List AV)) (ρ : Slots) (y : Str) (self : AV) (l : OL) (args : List AV) : Option (AV × Slots) := match self with
  | .inst c fl => if c = C ∧ fl.lookup meth = none then G self l.items args >>= fun r => some (r.1, ρ.set y (.own ⟨l.place, r.2⟩)) else none
  | _ => none
theorem denx_lentx {o y meth : Str} {p1 py apos pos : Pos} {es : List Expr} {fs : Slots → Option (List AV)} {C f : Addr} {G : AV → List AV → List AV → Option (AV × List AV)}
    (h1 : (o == ("__debug__" : Str)) = false) (hn : (o == ("__classdict__" : Str)) = false) (h1y : (y == ("__debug__" : Str)) = false) (hny : (y == ("__classdict__" : Str)) = false)
    (hg : plainGet W.K C meth = true) (hfi : findIn W.K (.ref C) meth = some (some (.ref f))) (hfn : isFn W.K (.ref f) = true) (hko : KeepOk W (.ref f)) (ha : DenPs W d sc es fs) (hs : ∀ env, starEach (.Name y py :: es) env = (false, eval (.Name y py) env) :: starEach es env) (hns : ∀ env pos, (backTo pos (starEach es env)).any (·.1) = false)
    (pl : Env → Value → Sem Bool) (he : ∀ env, eval (.Call (.Attribute (.Name o p1) meth apos) (.Name y py :: es) [] pos) env = (do
      let ov ← eval (.Name o p1) env
      standAt apos.atName
      let (f, first) ← holding [ov] (getMethod ov meth (pl env ov))
      callWith pos f first (backTo pos (starEach (.Name y py :: es) env)) [])) (hF : LSpec W d (.ref f) G) :
    DenX W d sc (.Call (.Attribute (.Name o p1) meth apos) (.Name y py :: es) [] pos) fun ρ => getV ρ o >>= fun self => getO ρ y >>= fun l => fs ρ >>= fun args => lentA C meth G ρ y self l args :=
  denx_lent h1 hn h1y hny hg hfi hfn hko ha hs hns pl he hF
def noneX (r : AV × Slots) : Option (AFlow × Slots) := match r.1 with | .none => some (.next, r.2) | _ => none
theorem den_exprXx {e : Expr} {pos : Pos} {F : Slots → Option (AV × Slots)} (h : DenX W d sc e F) (hs : ∀ env, swapsWith e none pos.line env = pure false) :
    DenS W d sc (.Expr e pos) fun ρ => F ρ >>= noneX := den_exprX h hs
-- comprehensions: the names of others that they read
def frees (scope : Scope) : List Str := scope.names.filterMap fun x => if x.2 == .free then some x.1 else none
def only (xs : List Str) (ρ : Slots) : Slots := fun x => if xs.contains x then ρ x else none
def compOk (scope sc : Scope) : Bool := (scope.kind == .function) && (scope.names.all fun x => x.2 != .cell) && (scope.names.all fun x => x.2 != .local || scope.names.lookup x.1 == some .local) &&
  (scope.names.all fun x => x.2 != .free || (scope.names.lookup x.1 == some .free && (sc.names.lookup x.1 == some .cell || sc.names.lookup x.1 == some .free)))
theorem compScope {scope sc : Scope} (h : compOk scope sc = true) : CompScope scope sc := by
  unfold compOk at h
  simp only [Bool.and_eq_true, List.all_eq_true, Bool.or_eq_true, bne_iff_ne, beq_iff_eq] at h
  obtain ⟨⟨⟨h1, h2⟩, h3⟩, h4⟩ := h
  refine ⟨h1, h2, fun x hx e => (h3 x hx).resolve_left (fun n => n e), fun x hx e => (h4 x hx).resolve_left (fun n => n e)⟩
theorem capt_only {scope : Scope} (hs : CompScope scope sc) (ρ : Slots) : capt scope ρ = only (frees scope) ρ := by
  funext x
  unfold capt only
  have : (scope.names.lookup x = some .free) ↔ (frees scope).contains x = true := by
    rw [List.contains_iff_mem]
    unfold frees
    rw [List.mem_filterMap]
    constructor
    · intro h; exact ⟨_, lookup_in h, rfl⟩
    · rintro ⟨⟨n, k⟩, hm, h⟩
      simp only at h
      split at h
      · rename_i hk
        cases h
        exact (hs.free _ hm (eq_of_beq hk)).1
      · cases h
  by_cases h : scope.names.lookup x = some .free
  · rw [if_pos h, if_pos (this.mp h)]
  · rw [if_neg h, if_neg (fun c => h (this.mpr c))]
theorem deno_compx {elt target iter : Expr} {ifs : List Expr} {scope : Scope} {pos : Pos} {g : Slots → Option (List AV)} {T : AV → Slots → Option Slots} {t : Slots → Option Bool} {f : Slots → Option AV} (xs : List Str) (hx : frees scope = xs) (hs : CompScope scope sc) (hi : DenIt W d sc target iter g)
    (htg : DenTgC W d (relabelS scope sc) target T) (hif : DenIfs W d (relabelS scope sc) ifs t) (helt : DenP W d (relabelS scope sc) elt f) (hset : ∀ env x, foldedSetIterable iter env x = pure x) :
    DenO W d sc (.ListComp elt [⟨target, iter, ifs, 0⟩] scope pos) fun ρ => g ρ >>= fun items => if items.length ≤ 1000000 then compA T t f items (only xs ρ) else none := by
  subst hx
  have := deno_comp (pos := pos) hs hi htg hif helt hset
  simp only [capt_only hs] at this
  exact this
theorem den_assign_compx {x : Str} {px spos : Pos} {elt target iter : Expr} {ifs : List Expr} {scope : Scope} {pos : Pos} {g : Slots → Option (List AV)} {T : AV → Slots → Option Slots} {t : Slots → Option Bool} {f : Slots → Option AV} (xs : List Str) (hx : frees scope = xs) (hs : CompScope scope sc) (hi : DenIt W d sc target iter g)
    (htg : DenTgC W d (relabelS scope sc) target T) (hif : DenIfs W d (relabelS scope sc) ifs t) (helt : DenP W d (relabelS scope sc) elt f) (hset : ∀ env x, foldedSetIterable iter env x = pure x)
    (hk : sc.names.lookup x = some .local) (hline : px.line = pos.line) (hany : (scope.names.any fun (n, k) => n == x && (k == .local || k == .cell)) = false) :
    DenS W d sc (.Assign [.Name x px] (.ListComp elt [⟨target, iter, ifs, 0⟩] scope pos) spos) fun ρ => g ρ >>= fun items => if items.length ≤ 1000000 then compA T t f items (only xs ρ) >>= fun l => some (.next, ρ.set x (.own ⟨none, l⟩)) else none := by
  subst hx
  have := den_assign_comp (spos := spos) hs hi htg hif helt hset hk hline hany
  simp only [capt_only hs] at this
  exact this
theorem kinds_in {l : List Str} {ns : List (Str × NameKind)} (h : (l.all fun x => ns.lookup x == some .local || ns.lookup x == some .cell) = true) (x : Str) (hx : x ∈ l) : ns.lookup x = some .local ∨ ns.lookup x = some .cell := by
  have := List.all_eq_true.mp h x hx
  simpa using this
theorem lspec_le {f : Value} {G : AV → List AV → List AV → Option (AV × List AV)} {e : Nat} (h : LSpec W d f G) (hde : d ≤ e) : LSpec W e f G :=
  fun A Z s vself self a vs items vals args av items' R I r hz hb hx hp rs ra hg => h A Z s vself self a vs items vals args av items' (R.le hde) I r hz hb hx hp rs ra hg
end
end Mine
end
section
set_option linter.unusedVariables false
namespace Mine
def stAt (p : Program) (i : Nat) : Stmt := p.main.body.getD i (.Pass ⟨0, 0, 0, 0⟩)
def bodyOf : Stmt → List Stmt
  | .FunctionDef _ _ b _ _ _ _ _ _ _ => b
  | .ClassDef _ _ _ b _ _ _ _ _ _ _ => b
  | _ => []
def scopeOf : Stmt → Scope
  | .FunctionDef _ _ _ _ _ _ s _ _ _ => s
  | _ => { kind := .function, names := [], isGenerator := false, isCoroutine := false }
def inBody (st : Stmt) (i : Nat) : Stmt := (bodyOf st).getD i (.Pass ⟨0, 0, 0, 0⟩)
def fdAt (K : Frag) (f : Addr) : Option FuncData := match K.lookup f with
  | some o => (match o.data with | .func fd => some fd | _ => none)
  | none => none
def fdK (K : Frag) (f : Addr) (h : (fdAt K f).isSome = true) : FuncData := (fdAt K f).get h
theorem fdAt_look {K : Frag} {f : Addr} (h : (fdAt K f).isSome = true) : ∃ o, K.lookup f = some o ∧ o.data = .func (fdK K f h) := by
  have e : fdAt K f = some (fdK K f h) := by unfold fdK; simp
  generalize fdK K f h = fd at e
  unfold fdAt at e
  split at e
  · rename_i o ho
    split at e
    · rename_i fd' hd; cases e; exact ⟨o, ho, hd⟩
    · cases e
  · cases e
def noCellB (sc : Scope) : Bool := sc.names.all fun x => x.2 != .cell && x.2 != .free
theorem fnk_of {W : Wd} {f : Addr} {body : List Stmt} (h : (fdAt W.K f).isSome = true) (hb : (fdK W.K f h).body = .stmts body) (hc : codeIn W.K (fdK W.K f h).code (fdK W.K f h).qualname = true) (hg : (fdK W.K f h).globals = mainGlobals) (hbl : (fdK W.K f h).builtins = builtinsNs)
    (hcl : (fdK W.K f h).closure = []) (hn : noCellB (fdK W.K f h).scope = true) (hk : (fdK W.K f h).scope.kind = .function) (hco : (fdK W.K f h).scope.isCoroutine = false) (hge : (fdK W.K f h).scope.isGenerator = false) : FnK W f (fdK W.K f h) body where
  look := fdAt_look h
  body := hb
  code := hc
  globals := hg
  builtins := hbl
  closure := hcl
  nocell x hx := by have := List.all_eq_true.mp hn x hx; simp at this; exact this.1
  nofree x hx := by have := List.all_eq_true.mp hn _ (lookup_in hx); simp at this
  kind := hk
  co := hco
  gen := hge
end Mine
end
section
set_option maxRecDepth 100000
namespace Mine
abbrev P04 := PySem.Challenge.pw_dm0064_04
noncomputable def W04 (w : World) (h₀ : Heap) (mg mb : Str → Option Value) (os : OsState) : Wd := ⟨P04, w, Mine.hd.heap_39 w.params, h₀, mg, mb, os, fun _ => False⟩
def bdText : List Stmt := bodyOf (stAt P04 9)
def scText : Scope := scopeOf (stAt P04 9)
def bdRead : List Stmt := bodyOf (stAt P04 10)
def scRead : Scope := scopeOf (stAt P04 10)
def bdJoin : List Stmt := bodyOf (stAt P04 11)
def scJoin : Scope := scopeOf (stAt P04 11)
def bdLaw : List Stmt := bodyOf (stAt P04 12)
def scLaw : Scope := scopeOf (stAt P04 12)
def bdSplit : List Stmt := bodyOf (inBody (stAt P04 7) 8)
def scSplit : Scope := scopeOf (inBody (stAt P04 7) 8)
def bdInit : List Stmt := bodyOf (inBody (stAt P04 7) 5)
def scInit : Scope := scopeOf (inBody (stAt P04 7) 5)
section
variable {w : World} {h₀ : Heap} {mg mb : Str → Option Value} {os : OsState}
theorem gl_len : (W04 w h₀ mg mb os).Glob "len" (.builtin "len") := .inr ⟨by kernel_rfl, by kernel_rfl, by decide⟩
theorem gl_abs : (W04 w h₀ mg mb os).Glob "abs" (.builtin "abs") := .inr ⟨by kernel_rfl, by kernel_rfl, by decide⟩
theorem gl_max : (W04 w h₀ mg mb os).Glob "max" (.builtin "max") := .inr ⟨by kernel_rfl, by kernel_rfl, by decide⟩
theorem gl_min : (W04 w h₀ mg mb os).Glob "min" (.builtin "min") := .inr ⟨by kernel_rfl, by kernel_rfl, by decide⟩
theorem gl_range : (W04 w h₀ mg mb os).Glob "range" (.type "range") := .inr ⟨by kernel_rfl, by kernel_rfl, by decide⟩
theorem gl_text : (W04 w h₀ mg mb os).Glob "_law_text" (.ref 124) := .inl (by kernel_rfl)
theorem gl_read : (W04 w h₀ mg mb os).Glob "_law_read" (.ref 131) := .inl (by kernel_rfl)
theorem gl_join : (W04 w h₀ mg mb os).Glob "_law_joined" (.ref 138) := .inl (by kernel_rfl)
theorem gl_diff : (W04 w h₀ mg mb os).Glob "HtmlDiff" (.ref 113) := .inl (by kernel_rfl)
theorem at_wrap : plainGet (W04 w h₀ mg mb os).K 113 "_wrapcolumn" = true := by kernel_rfl
theorem at_dict : hasDictIn (W04 w h₀ mg mb os).K 113 = true := by kernel_rfl
theorem at_find : findIn (W04 w h₀ mg mb os).K (.ref 113) "_wrapcolumn" = some none := by kernel_rfl
theorem me_get : plainGet (W04 w h₀ mg mb os).K 113 "_split_line" = true := by kernel_rfl
theorem me_find : findIn (W04 w h₀ mg mb os).K (.ref 113) "_split_line" = some (some (.ref 67)) := by kernel_rfl
theorem me_fn : isFn (W04 w h₀ mg mb os).K (.ref 67) = true := by kernel_rfl
theorem me_keep : KeepOk (W04 w h₀ mg mb os) (.ref 67) := keep_K (by kernel_rfl)
theorem ke_text : KeepOk (W04 w h₀ mg mb os) (.ref 124) := keep_K (by kernel_rfl)
theorem ke_read : KeepOk (W04 w h₀ mg mb os) (.ref 131) := keep_K (by kernel_rfl)
theorem ke_join : KeepOk (W04 w h₀ mg mb os) (.ref 138) := keep_K (by kernel_rfl)
theorem ke_diff : KeepOk (W04 w h₀ mg mb os) (.ref 113) := keep_K (by kernel_rfl)
theorem has_text : (fdAt (W04 w h₀ mg mb os).K 124).isSome = true := by kernel_rfl
theorem has_read : (fdAt (W04 w h₀ mg mb os).K 131).isSome = true := by kernel_rfl
theorem has_join : (fdAt (W04 w h₀ mg mb os).K 138).isSome = true := by kernel_rfl
theorem has_split : (fdAt (W04 w h₀ mg mb os).K 67).isSome = true := by kernel_rfl
theorem has_init : (fdAt (W04 w h₀ mg mb os).K 44).isSome = true := by kernel_rfl
theorem fn_text : FnK (W04 w h₀ mg mb os) 124 (fdK (W04 w h₀ mg mb os).K 124 has_text) bdText := fnk_of has_text (by kernel_rfl) (by kernel_rfl) (by kernel_rfl) (by kernel_rfl) (by kernel_rfl) (by kernel_rfl) (by kernel_rfl) (by kernel_rfl) (by kernel_rfl)
theorem fn_read : FnK (W04 w h₀ mg mb os) 131 (fdK (W04 w h₀ mg mb os).K 131 has_read) bdRead := fnk_of has_read (by kernel_rfl) (by kernel_rfl) (by kernel_rfl) (by kernel_rfl) (by kernel_rfl) (by kernel_rfl) (by kernel_rfl) (by kernel_rfl) (by kernel_rfl)
theorem fn_join : FnK (W04 w h₀ mg mb os) 138 (fdK (W04 w h₀ mg mb os).K 138 has_join) bdJoin := fnk_of has_join (by kernel_rfl) (by kernel_rfl) (by kernel_rfl) (by kernel_rfl) (by kernel_rfl) (by kernel_rfl) (by kernel_rfl) (by kernel_rfl) (by kernel_rfl)
theorem fn_split : FnK (W04 w h₀ mg mb os) 67 (fdK (W04 w h₀ mg mb os).K 67 has_split) bdSplit := fnk_of has_split (by kernel_rfl) (by kernel_rfl) (by kernel_rfl) (by kernel_rfl) (by kernel_rfl) (by kernel_rfl) (by kernel_rfl) (by kernel_rfl) (by kernel_rfl)
theorem fn_init : FnK (W04 w h₀ mg mb os) 44 (fdK (W04 w h₀ mg mb os).K 44 has_init) bdInit := fnk_of has_init (by kernel_rfl) (by kernel_rfl) (by kernel_rfl) (by kernel_rfl) (by kernel_rfl) (by kernel_rfl) (by kernel_rfl) (by kernel_rfl) (by kernel_rfl)
theorem sc_text : (fdK (W04 w h₀ mg mb os).K 124 has_text).scope = scText := by kernel_rfl
theorem sc_read : (fdK (W04 w h₀ mg mb os).K 131 has_read).scope = scRead := by kernel_rfl
theorem sc_join : (fdK (W04 w h₀ mg mb os).K 138 has_join).scope = scJoin := by kernel_rfl
theorem sc_split : (fdK (W04 w h₀ mg mb os).K 67 has_split).scope = scSplit := by kernel_rfl
theorem sc_init : (fdK (W04 w h₀ mg mb os).K 44 has_init).scope = scInit := by kernel_rfl
theorem cls_diff : ClsK (W04 w h₀ mg mb os) 113 44 := ⟨by kernel_rfl, by kernel_rfl, by kernel_rfl, by kernel_rfl, by kernel_rfl, by kernel_rfl, by kernel_rfl⟩
end
end Mine
end
section
set_option linter.unusedVariables false
namespace Mine
theorem reps_ints {Z : AddrSet} {h : Heap} : ∀ {vals : List Value} {ns : List Int}, IntsAre vals ns → RepVs Z h vals (ns.map .int)
  | [], [], _ => .nil
  | _ :: _, _ :: _, hi => by
    cases hi
    exact .cons (.int _ _) (reps_ints (by assumption))
def script0 (ns : List Int) : Slots := fun x => if x = "script" then some (.val (.lst (ns.map .int))) else none
theorem law_bridge {W : Wd} {s₁ : Shared} (ok : W.Ok) (hh : W.h₀ = s₁.heap) (hos : W.os = s₁.os) (hX : ∀ a, ¬ W.X a) (hg : s₁.gens = #[]) {h₁ : Heap} {L : Addr} {m : Str → Option Value} (F : Fr s₁.heap L h₁ m) {a : Addr} {vals : List Value} {ns : List Int}
    (hl : s₁.heap.IsList a vals.toArray) (hi : IntsAre vals ns) (hm : m "script" = some (.ref a)) {env : Env} {sc : Scope} (hE : EnvOk env sc) (hL : env.locals = L) (hc : env.cells = []) (hsc : sc.names.lookup ("script" : Str) = some .local) {A : Around} {d : Nat} (hR : Room A d) {body : List Stmt} {G : Slots → Option (AFlow × Slots)} (hG : DenSs W d sc body G)
    {ρ' : Slots} (hv : G (script0 ns) = some (.ret (.bool true), ρ')) {tk : Nat} {Q : Flow → Shared → Prop} {E : Value → Shared → Prop}
    (q : ∀ s', (∀ b o, s₁.heap.get? b = some o → s'.heap.get? b = some o) → s'.os = s₁.os → AllBare s'.gens → Q (.ret (.bool true)) s') : wpAny W.M A (execs body env) Q E { s₁ with heap := h₁, toks := tk } := by
  obtain ⟨oa, ha, hr⟩ := hl
  have hLn : s₁.heap.get? L = none := Heap.get?_none_of_le F.above
  have haL : a ≠ L := fun e => by rw [e, hLn] at ha; cases ha
  have I : Inv W (· = a) { s₁ with heap := h₁, toks := tk } := ⟨ok, fun b o e _ => F.keep b o (hh ▸ e), fun b x => (hX b x).elim, fun b z => ⟨oa, by rw [show b = a from z]; exact F.keep a oa ha⟩, hos.symm, .of_eq hg⟩
  have fo : ∀ b, FOwn env (script0 ns) (fun _ => 0) b → b = L := by
    rintro b (h | ⟨x, hx⟩ | ⟨x, l, hx, _⟩)
    · exact h.trans hL
    · rw [hc] at hx; cases hx
    · unfold script0 at hx; split at hx <;> cases hx
  have Lo : Loc W (· = a) h₁ env (script0 ns) (fun _ => 0) := by
    refine ⟨⟨m, hL ▸ F.ns, fun x sv hx => ?_⟩, fun b f z => ?_, fun b f => ?_, fun x l b hx _ => ?_, fun x y l l' hx => ?_, fun x c hx => ?_, fun x y c hx => ?_⟩
    · unfold script0 at hx
      split at hx
      · rename_i e; cases hx
        subst e
        exact ⟨_, .inl ⟨(hE.kind _).trans hsc, hm⟩, .lst rfl ⟨oa, F.keep a oa ha, hr⟩ (reps_ints hi)⟩
      · cases hx
    · exact haL (by rw [← fo b f]; exact (show b = a from z).symm)
    · rw [fo b f, hh]; exact ⟨hLn, hX _⟩
    · unfold script0 at hx; split at hx <;> cases hx
    · unfold script0 at hx; split at hx <;> cases hx
    · rw [hc] at hx; cases hx
    · rw [hc] at hx; cases hx
  refine hG A env (· = a) _ (script0 ns) (fun _ => 0) _ ρ' hR hE I Lo hv _ _ fun f s' Z' α' p r => ?_
  cases f <;> try exact r.elim
  cases r
  refine q s' (fun b o e => p.step.keep b o (fun h => ?_) (F.keep b o e)) (p.step.inv.os.trans hos) p.step.inv.bare
  rw [fo b h, hLn] at e; cases e
end Mine
end
section
set_option linter.unusedVariables false
set_option maxRecDepth 100000
set_option maxHeartbeats 4000000
namespace Mine
section
variable {w : World} {h₀ : Heap} {mg mb : Str → Option Value} {os : OsState} {d : Nat}
noncomputable def fText_k1  : Slots → Option (AFlow × Slots) := fun ρ => (((getV ρ "to") >>= fun a => some (.next, Slots.set ρ "mark" (.val a))) >>= thenA (fun ρ => some (.next, ρ)))
noncomputable def fText_k2  : Slots → Option (AFlow × Slots) := fun ρ => (((getV ρ "text") >>= fun a => (((((getV ρ "to") >>= fun a => (some (.str "")) >>= fun b => cmpA .NotEq a b)) >>= fun x => if x = true then (((some (.str "\x00")) >>= fun a => (getV ρ "to") >>= fun b => binA .Add a b)) else (some (.str "")))) >>= fun b => augA .Add a b >>= fun c => some (.next, Slots.set ρ "text" (.val c))) >>= thenA fText_k1)
noncomputable def fText_k3  : Slots → Option (AFlow × Slots) := fun ρ => (((getV ρ "text") >>= fun a => (getV ρ "sign") >>= fun b => augA .Add a b >>= fun c => some (.next, Slots.set ρ "text" (.val c))) >>= thenA (fun ρ => some (.next, ρ)))
noncomputable def fText_T4  : AV → Slots → Option Slots := (fun a ρ => seqA a >>= fun l => if l.length = 3 then (headTg (fun a ρ => some (Slots.set ρ "sign" (.val a))) (headTg (fun a ρ => some (Slots.set ρ "to" (.val a))) (headTg (fun a ρ => some (Slots.set ρ "new" (.val a))) (fun _ ρ => some ρ)))) l ρ else none)
noncomputable def fText_B5  : Slots → Option (AFlow × Slots) := fun ρ => (((((truthN ρ "new") >>= fun b => if b = true then some true else (((((getV ρ "to") >>= fun a => (getV ρ "mark") >>= fun b => cmpA .NotEq a b)) >>= fun b => if b = true then some true else (some false))))) >>= fun b => if b = true then ((((getV ρ "text") >>= fun a => (((((getV ρ "mark") >>= fun a => (some (.str "")) >>= fun b => cmpA .NotEq a b)) >>= fun x => if x = true then (some (.str "\x01")) else (some (.str "")))) >>= fun b => augA .Add a b >>= fun c => some (.next, Slots.set ρ "text" (.val c))) >>= thenA fText_k2)) else (some (.next, ρ))) >>= thenA fText_k3)
noncomputable def fText_k6  : Slots → Option (AFlow × Slots) := fun ρ => (((((((getV ρ "mark") >>= fun a => (some (.str "")) >>= fun b => cmpA .NotEq a b)) >>= fun x => if x = true then (((getV ρ "text") >>= fun a => (some (.str "\x01")) >>= fun b => binA .Add a b)) else (getV ρ "text"))) >>= fun a => some (.ret a, ρ)) >>= thenA (fun ρ => some (.next, ρ)))
noncomputable def fText_k7  : Slots → Option (AFlow × Slots) := fun ρ => (((((getV ρ "cells") >>= iterA)) >>= fun items => forA fText_T4 fText_B5 items ρ) >>= thenA fText_k6)
noncomputable def fText  : Slots → Option (AFlow × Slots) := fun ρ => ((((some (.str "")) >>= fun a => ((some (.str "")) >>= fun a => (some []) >>= fun l => some (SV.val a :: l)) >>= fun l => some (SV.val a :: l)) >>= fun l => if l.length = 2 ∧ l.length ≤ 1000000 then some (.next, setMany ρ ["text", "mark"] l) else none) >>= thenA fText_k7)
theorem fText_den  : DenSs (W04 w h₀ mg mb os) d scText bdText fText :=
  (dens_cons (den_assign_names (xs := [("text", _), ("mark", _)]) (es_val (den_str _ _ _) (es_val (den_str _ _ _) es_nil (fun _ => rfl)) (fun _ => rfl)) (fun x hx => kinds_in (l := ["text", "mark"]) (by kernel_rfl) x hx) (fun env he => by cases env; cases he; rfl) (fun env he => by cases env; cases he; kernel_rfl)) (dens_cons (den_for (it_val (den_name "cells" _ (by kernel_rfl) (by kernel_rfl)) (by constructor)) (tg_tuple (tgs_cons (tg_name (.inl (by kernel_rfl))) (tgs_cons (tg_name (.inl (by kernel_rfl))) (tgs_cons (tg_name (.inl (by kernel_rfl))) tgs_nil (fun _ => rfl)) (fun _ => rfl)) (fun _ => rfl)) (fun _ => rfl) (fun _ => rfl)) (dens_cons (den_if (denT_bool (denTs_or (denT_name (by kernel_rfl) (by kernel_rfl)) (denTs_or (denT_cmp (den_name "to" _ (by kernel_rfl) (by kernel_rfl)) (den_name "mark" _ (by kernel_rfl) (by kernel_rfl)) rfl) denTs_or0))) (dens_cons (den_aug (den_ite (denT_cmp (den_name "mark" _ (by kernel_rfl) (by kernel_rfl)) (den_str _ _ _) rfl) (den_str _ _ _) (den_str _ _ _)) (.inl (by kernel_rfl)) (by kernel_rfl)) (dens_cons (den_aug (den_ite (denT_cmp (den_name "to" _ (by kernel_rfl) (by kernel_rfl)) (den_str _ _ _) rfl) (den_bin (den_str _ _ _) (den_name "to" _ (by kernel_rfl) (by kernel_rfl))) (den_str _ _ _)) (.inl (by kernel_rfl)) (by kernel_rfl)) (dens_cons (den_assign (den_name "to" _ (by kernel_rfl) (by kernel_rfl)) (.inl (by kernel_rfl)) (fun _ => rfl)) dens_nil))) dens_nil) (dens_cons (den_aug (den_name "sign" _ (by kernel_rfl) (by kernel_rfl)) (.inl (by kernel_rfl)) (by kernel_rfl)) dens_nil)) (fun _ _ => rfl)) (dens_cons (den_return (den_ite (denT_cmp (den_name "mark" _ (by kernel_rfl) (by kernel_rfl)) (den_str _ _ _) rfl) (den_bin (den_name "text" _ (by kernel_rfl) (by kernel_rfl)) (den_str _ _ _)) (den_name "text" _ (by kernel_rfl) (by kernel_rfl)))) dens_nil)))
noncomputable def fRead_k1  : Slots → Option (AFlow × Slots) := fun ρ => (((getV ρ "at") >>= fun a => (((truthN ρ "inside") >>= fun x => if x = true then (some (.int 1)) else (some (.int 0)))) >>= fun b => augA .Add a b >>= fun c => some (.next, Slots.set ρ "at" (.val c))) >>= thenA (fun ρ => some (.next, ρ)))
noncomputable def fRead_k2  : Slots → Option (AFlow × Slots) := fun ρ => (((getV ρ "at") >>= fun a => (some (.int 1)) >>= fun b => augA .Add a b >>= fun c => some (.next, Slots.set ρ "at" (.val c))) >>= thenA (fun ρ => some (.next, ρ)))
noncomputable def fRead_C3  : Slots → Option Bool := fun ρ => ((getV ρ "at") >>= fun a => ((((getV ρ "text") >>= fun a => (some []) >>= fun l => some (a :: l)) >>= lenF)) >>= fun b => cmpA .Lt a b)
noncomputable def fRead_B4  : Slots → Option (AFlow × Slots) := fun ρ => (((((((getV ρ "text") >>= fun o => (getV ρ "at") >>= fun i => idxA o i)) >>= fun a => (some (.str "\x00\x01")) >>= fun b => cmpA .NotIn a b)) >>= fun b => if b = true then ((((getV ρ "seen") >>= fun a => (some (.int 1)) >>= fun b => augA .Add a b >>= fun c => some (.next, Slots.set ρ "seen" (.val c))) >>= thenA (fun ρ => some (.next, ρ)))) else ((((((getV ρ "inside") >>= fun a => (((((getV ρ "text") >>= fun o => (getV ρ "at") >>= fun i => idxA o i)) >>= fun a => (some (.str "\x01")) >>= fun b => (cmpA .Eq a b).map AV.bool)) >>= fun b => cmpA .NotEq a b)) >>= fun b => if b = true then ((((((some (.int 1)) >>= negA)) >>= fun a => some (.ret a, ρ)) >>= thenA (fun ρ => some (.next, ρ)))) else ((((((getV ρ "inside") >>= fun a => (truthA a).map fun b => AV.bool (!b))) >>= fun a => some (.next, Slots.set ρ "inside" (.val a))) >>= thenA fRead_k1))) >>= thenA (fun ρ => some (.next, ρ))))) >>= thenA fRead_k2)
noncomputable def fRead_k5  : Slots → Option (AFlow × Slots) := fun ρ => (((((truthN ρ "inside") >>= fun x => if x = true then (((some (.int 1)) >>= negA)) else (getV ρ "seen"))) >>= fun a => some (.ret a, ρ)) >>= thenA (fun ρ => some (.next, ρ)))
noncomputable def fRead_k6  : Slots → Option (AFlow × Slots) := fun ρ => ((whileA fRead_C3 fRead_B4 100000 ρ) >>= thenA fRead_k5)
noncomputable def fRead  : Slots → Option (AFlow × Slots) := fun ρ => ((((some (.int 0)) >>= fun a => ((some (.int 0)) >>= fun a => ((some (.bool false)) >>= fun a => (some []) >>= fun l => some (SV.val a :: l)) >>= fun l => some (SV.val a :: l)) >>= fun l => some (SV.val a :: l)) >>= fun l => if l.length = 3 ∧ l.length ≤ 1000000 then some (.next, setMany ρ ["seen", "at", "inside"] l) else none) >>= thenA fRead_k6)
theorem fRead_den  : DenSs (W04 w h₀ mg mb os) d scRead bdRead fRead :=
  (dens_cons (den_assign_names (xs := [("seen", _), ("at", _), ("inside", _)]) (es_val (den_int _ _ _) (es_val (den_int _ _ _) (es_val (den_bool _ _ _) es_nil (fun _ => rfl)) (fun _ => rfl)) (fun _ => rfl)) (fun x hx => kinds_in (l := ["seen", "at", "inside"]) (by kernel_rfl) x hx) (fun env he => by cases env; cases he; rfl) (fun env he => by cases env; cases he; kernel_rfl)) (dens_cons (den_while 100000 (denT_cmp (den_name "at" _ (by kernel_rfl) (by kernel_rfl)) (den_call gl_len (by kernel_rfl) (by kernel_rfl) (keep_builtin _) (denPs_cons (den_name "text" _ (by kernel_rfl) (by kernel_rfl)) denPs_nil (fun _ => rfl)) (fun _ _ => rfl) spec_len) rfl) (dens_cons (den_if (denT_cmp (den_idx (den_name "text" _ (by kernel_rfl) (by kernel_rfl)) (den_name "at" _ (by kernel_rfl) (by kernel_rfl)) (fun _ _ => rfl)) (den_str _ _ _) rfl) (dens_cons (den_aug (den_int _ _ _) (.inl (by kernel_rfl)) (by kernel_rfl)) dens_nil) (dens_cons (den_if (denT_cmp (den_name "inside" _ (by kernel_rfl) (by kernel_rfl)) (den_cmp (den_idx (den_name "text" _ (by kernel_rfl) (by kernel_rfl)) (den_name "at" _ (by kernel_rfl) (by kernel_rfl)) (fun _ _ => rfl)) (den_str _ _ _) rfl) rfl) (dens_cons (den_return (den_neg (den_int _ _ _))) dens_nil) (dens_cons (den_assign (den_not (den_name "inside" _ (by kernel_rfl) (by kernel_rfl))) (.inl (by kernel_rfl)) (fun _ => rfl)) (dens_cons (den_aug (den_ite (denT_name (by kernel_rfl) (by kernel_rfl)) (den_int _ _ _) (den_int _ _ _)) (.inl (by kernel_rfl)) (by kernel_rfl)) dens_nil))) dens_nil)) (dens_cons (den_aug (den_int _ _ _) (.inl (by kernel_rfl)) (by kernel_rfl)) dens_nil))) (dens_cons (den_return (den_ite (denT_name (by kernel_rfl) (by kernel_rfl)) (den_neg (den_int _ _ _)) (den_name "seen" _ (by kernel_rfl) (by kernel_rfl)))) dens_nil)))
noncomputable def fJoin_k1  : Slots → Option (AFlow × Slots) := fun ρ => (((((((getV ρ "ahead") >>= fun o => ((((some (.int 1)) >>= negA)) >>= fun a => (asInt a).map some) >>= fun i => (some none) >>= fun j => cutA o i j)) >>= fun a => (some (.str "\x01")) >>= fun b => cmpA .NotEq a b)) >>= fun b => if b = true then ((((((getV ρ "ahead") >>= fun a => (getV ρ "text") >>= fun b => binA .Add a b)) >>= fun a => some (.next, Slots.set ρ "text" (.val a))) >>= thenA (fun ρ => some (.next, ρ)))) else ((((((((getV ρ "text") >>= fun o => (some none) >>= fun i => ((some (.int 2)) >>= fun a => (asInt a).map some) >>= fun j => cutA o i j)) >>= fun a => (((some (.str "\x00")) >>= fun a => (((((((getV ρ "ahead") >>= fun a => strArg a >>= fun x => ((some (.str "\x00")) >>= fun a => (some []) >>= fun l => some (a :: l)) >>= fun l => splitF (.str x :: l))) >>= fun o => (((some (.int 1)) >>= negA)) >>= fun i => idxA o i)) >>= fun o => (some none) >>= fun i => ((some (.int 1)) >>= fun a => (asInt a).map some) >>= fun j => cutA o i j)) >>= fun b => binA .Add a b)) >>= fun b => cmpA .Eq a b)) >>= fun b => if b = true then ((((((((getV ρ "ahead") >>= fun o => (some none) >>= fun i => ((((some (.int 1)) >>= negA)) >>= fun a => (asInt a).map some) >>= fun j => cutA o i j)) >>= fun a => (((getV ρ "text") >>= fun o => ((some (.int 2)) >>= fun a => (asInt a).map some) >>= fun i => (some none) >>= fun j => cutA o i j)) >>= fun b => binA .Add a b)) >>= fun a => some (.next, Slots.set ρ "text" (.val a))) >>= thenA (fun ρ => some (.next, ρ)))) else ((((some (.str "\x00")) >>= fun a => some (.next, Slots.set ρ "text" (.val a))) >>= thenA (fun ρ => some (.next, ρ))))) >>= thenA (fun ρ => some (.next, ρ))))) >>= thenA (fun ρ => some (.next, ρ)))
noncomputable def fJoin_k2  : Slots → Option (AFlow × Slots) := fun ρ => (((getO ρ "lines") >>= fun l => ((((getV ρ "head") >>= fun a => ((getV ρ "text") >>= fun a => (some []) >>= fun l => some (a :: l)) >>= fun l => some (a :: l)) >>= fun l => if l.length ≤ 1000000 then some (.tup l) else none)) >>= fun a => if l.items.length ≤ 1000000 then some (.next, Slots.set ρ "lines" (.own ⟨l.place, l.items ++ [a]⟩)) else none) >>= thenA (fun ρ => some (.next, ρ)))
noncomputable def fJoin_T3  : AV → Slots → Option Slots := (fun a ρ => seqA a >>= fun l => if l.length = 2 then (headTg (fun a ρ => some (Slots.set ρ "head" (.val a))) (headTg (fun a ρ => some (Slots.set ρ "text" (.val a))) (fun _ ρ => some ρ))) l ρ else none)
noncomputable def fJoin_B4  : Slots → Option (AFlow × Slots) := fun ρ => (((((getV ρ "head") >>= fun a => (some (.str ">")) >>= fun b => cmpA .Eq a b)) >>= fun b => if b = true then ((((((getO ρ "lines") >>= fun l => lastL l.items >>= fun r => if l.items.length ≤ 1000000 then some (r.2, Slots.set ρ "lines" (.own ⟨l.place, r.1⟩)) else none)) >>= fun r => (fun a ρ => seqA a >>= fun l => if l.length = 2 then (headTg (fun a ρ => some (Slots.set ρ "head" (.val a))) (headTg (fun a ρ => some (Slots.set ρ "ahead" (.val a))) (fun _ ρ => some ρ))) l ρ else none) r.1 r.2 >>= fun ρ₂ => some (.next, ρ₂)) >>= thenA fJoin_k1)) else (some (.next, ρ))) >>= thenA fJoin_k2)
noncomputable def fJoin_z5  : Slots → Option (AFlow × Slots) := fun ρ => (((getV ρ "lines") >>= fun a => some (.ret a, ρ)) >>= thenA (fun ρ => some (.next, ρ)))
noncomputable def fJoin_k6  : Slots → Option (AFlow × Slots) := fun ρ => (fJoin_z5 (freeze "lines" ρ))
noncomputable def fJoin_k7  : Slots → Option (AFlow × Slots) := fun ρ => (((((getV ρ "rows") >>= iterA)) >>= fun items => forA fJoin_T3 fJoin_B4 items ρ) >>= thenA fJoin_k6)
noncomputable def fJoin  : Slots → Option (AFlow × Slots) := fun ρ => (((((some []) >>= fun l => if l.length ≤ 1000000 then some l else none)) >>= fun l => some (.next, Slots.set ρ "lines" (.own ⟨none, l⟩))) >>= thenA fJoin_k7)
theorem fJoin_den  : DenSs (W04 w h₀ mg mb os) d scJoin bdJoin fJoin :=
  (dens_cons (den_assignO (deno_list denPs_nil) (.inl (by kernel_rfl)) (fun _ => rfl)) (dens_cons (den_for (it_val (den_name "rows" _ (by kernel_rfl) (by kernel_rfl)) (by constructor)) (tg_tuple (tgs_cons (tg_name (.inl (by kernel_rfl))) (tgs_cons (tg_name (.inl (by kernel_rfl))) tgs_nil (fun _ => rfl)) (fun _ => rfl)) (fun _ => rfl) (fun _ => rfl)) (dens_cons (den_if (denT_cmp (den_name "head" _ (by kernel_rfl) (by kernel_rfl)) (den_str _ _ _) rfl) (dens_cons (den_assignT (denx_pop (by kernel_rfl) (by kernel_rfl) rfl) (tg_tuple (tgs_cons (tg_name (.inl (by kernel_rfl))) (tgs_cons (tg_name (.inl (by kernel_rfl))) tgs_nil (fun _ => rfl)) (fun _ => rfl)) (fun _ => rfl) (fun _ => rfl)) (fun env he => by cases env; cases he; rfl) (fun env he => by cases env; cases he; rfl) (fun _ => rfl)) (dens_cons (den_if (denT_cmp (den_cut (den_name "ahead" _ (by kernel_rfl) (by kernel_rfl)) (part_some (den_neg (den_int _ _ _))) part_none) (den_str _ _ _) rfl) (dens_cons (den_assign (den_bin (den_name "ahead" _ (by kernel_rfl) (by kernel_rfl)) (den_name "text" _ (by kernel_rfl) (by kernel_rfl))) (.inl (by kernel_rfl)) (fun _ => rfl)) dens_nil) (dens_cons (den_if (denT_cmp (den_cut (den_name "text" _ (by kernel_rfl) (by kernel_rfl)) part_none (part_some (den_int _ _ _))) (den_bin (den_str _ _ _) (den_cut (den_idx (den_meth_str (den_name "ahead" _ (by kernel_rfl) (by kernel_rfl)) (fun _ => rfl) (fun _ => rfl) rfl F.slot_str_split F.type_str_split (denPs_cons (den_str _ _ _) denPs_nil (fun _ => rfl)) (fun _ _ => rfl) spec_split) (den_neg (den_int _ _ _)) (fun _ _ => rfl)) part_none (part_some (den_int _ _ _)))) rfl) (dens_cons (den_assign (den_bin (den_cut (den_name "ahead" _ (by kernel_rfl) (by kernel_rfl)) part_none (part_some (den_neg (den_int _ _ _)))) (den_cut (den_name "text" _ (by kernel_rfl) (by kernel_rfl)) (part_some (den_int _ _ _)) part_none)) (.inl (by kernel_rfl)) (fun _ => rfl)) dens_nil) (dens_cons (den_assign (den_str _ _ _) (.inl (by kernel_rfl)) (fun _ => rfl)) dens_nil)) dens_nil)) dens_nil)) dens_nil) (dens_cons (den_append (den_tuple (denPs_cons (den_name "head" _ (by kernel_rfl) (by kernel_rfl)) (denPs_cons (den_name "text" _ (by kernel_rfl) (by kernel_rfl)) denPs_nil (fun _ => rfl)) (fun _ => rfl))) (by kernel_rfl) (by kernel_rfl) (fun _ => rfl) rfl) dens_nil)) (fun _ _ => rfl)) (dens_freeze "lines" (dens_cons (den_return (den_name "lines" _ (by kernel_rfl) (by kernel_rfl))) dens_nil))))
noncomputable def fSplit_k1 (GS : AV → List AV → List AV → Option (AV × List AV)) : Slots → Option (AFlow × Slots) := fun ρ => ((some (.ret .none, ρ)) >>= thenA (fun ρ => some (.next, ρ)))
noncomputable def fSplit_k2 (GS : AV → List AV → List AV → Option (AV × List AV)) : Slots → Option (AFlow × Slots) := fun ρ => ((some (.ret .none, ρ)) >>= thenA (fun ρ => some (.next, ρ)))
noncomputable def fSplit_k3 (GS : AV → List AV → List AV → Option (AV × List AV)) : Slots → Option (AFlow × Slots) := fun ρ => (((getV ρ "i") >>= fun a => (some (.int 1)) >>= fun b => augA .Add a b >>= fun c => some (.next, Slots.set ρ "i" (.val c))) >>= thenA (fun ρ => some (.next, ρ)))
noncomputable def fSplit_k4 (GS : AV → List AV → List AV → Option (AV × List AV)) : Slots → Option (AFlow × Slots) := fun ρ => (((((getV ρ "text") >>= fun o => (getV ρ "i") >>= fun i => idxA o i)) >>= fun a => some (.next, Slots.set ρ "mark" (.val a))) >>= thenA (fSplit_k3 GS))
noncomputable def fSplit_k5 (GS : AV → List AV → List AV → Option (AV × List AV)) : Slots → Option (AFlow × Slots) := fun ρ => (((some (.str "")) >>= fun a => some (.next, Slots.set ρ "mark" (.val a))) >>= thenA (fun ρ => some (.next, ρ)))
noncomputable def fSplit_k6 (GS : AV → List AV → List AV → Option (AV × List AV)) : Slots → Option (AFlow × Slots) := fun ρ => (((getV ρ "n") >>= fun a => (some (.int 1)) >>= fun b => augA .Add a b >>= fun c => some (.next, Slots.set ρ "n" (.val c))) >>= thenA (fun ρ => some (.next, ρ)))
noncomputable def fSplit_C7 (GS : AV → List AV → List AV → Option (AV × List AV)) : Slots → Option Bool := fun ρ => ((((getV ρ "n") >>= fun a => (getV ρ "max") >>= fun b => cmpA .Lt a b)) >>= fun b => if b = true then (((((getV ρ "i") >>= fun a => (getV ρ "size") >>= fun b => cmpA .Lt a b)) >>= fun b => if b = true then (some true) else some false)) else some false)
noncomputable def fSplit_B8 (GS : AV → List AV → List AV → Option (AV × List AV)) : Slots → Option (AFlow × Slots) := fun ρ => (((((((getV ρ "text") >>= fun o => (getV ρ "i") >>= fun i => idxA o i)) >>= fun a => (some (.str "\x00")) >>= fun b => cmpA .Eq a b)) >>= fun b => if b = true then ((((getV ρ "i") >>= fun a => (some (.int 1)) >>= fun b => augA .Add a b >>= fun c => some (.next, Slots.set ρ "i" (.val c))) >>= thenA (fSplit_k4 GS))) else ((((((((getV ρ "text") >>= fun o => (getV ρ "i") >>= fun i => idxA o i)) >>= fun a => (some (.str "\x01")) >>= fun b => cmpA .Eq a b)) >>= fun b => if b = true then ((((getV ρ "i") >>= fun a => (some (.int 1)) >>= fun b => augA .Add a b >>= fun c => some (.next, Slots.set ρ "i" (.val c))) >>= thenA (fSplit_k5 GS))) else ((((getV ρ "i") >>= fun a => (some (.int 1)) >>= fun b => augA .Add a b >>= fun c => some (.next, Slots.set ρ "i" (.val c))) >>= thenA (fSplit_k6 GS)))) >>= thenA (fun ρ => some (.next, ρ))))) >>= thenA (fun ρ => some (.next, ρ)))
noncomputable def fSplit_k9 (GS : AV → List AV → List AV → Option (AV × List AV)) : Slots → Option (AFlow × Slots) := fun ρ => (((((((some (.str "\x00")) >>= fun a => (getV ρ "mark") >>= fun b => binA .Add a b)) >>= fun a => (getV ρ "line2") >>= fun b => binA .Add a b)) >>= fun a => some (.next, Slots.set ρ "line2" (.val a))) >>= thenA (fun ρ => some (.next, ρ)))
noncomputable def fSplit_k10 (GS : AV → List AV → List AV → Option (AV × List AV)) : Slots → Option (AFlow × Slots) := fun ρ => (((((getV ρ "self") >>= fun self => (getO ρ "data_list") >>= fun l => ((some (.str ">")) >>= fun a => ((getV ρ "line2") >>= fun a => (some []) >>= fun l => some (a :: l)) >>= fun l => some (a :: l)) >>= fun args => lentA 113 "_split_line" GS ρ "data_list" self l args)) >>= noneX) >>= thenA (fun ρ => some (.next, ρ)))
noncomputable def fSplit_k11 (GS : AV → List AV → List AV → Option (AV × List AV)) : Slots → Option (AFlow × Slots) := fun ρ => (((getO ρ "data_list") >>= fun l => ((((getV ρ "line_num") >>= fun a => ((getV ρ "line1") >>= fun a => (some []) >>= fun l => some (a :: l)) >>= fun l => some (a :: l)) >>= fun l => if l.length ≤ 1000000 then some (.tup l) else none)) >>= fun a => if l.items.length ≤ 1000000 then some (.next, Slots.set ρ "data_list" (.own ⟨l.place, l.items ++ [a]⟩)) else none) >>= thenA (fSplit_k10 GS))
noncomputable def fSplit_k12 (GS : AV → List AV → List AV → Option (AV × List AV)) : Slots → Option (AFlow × Slots) := fun ρ => (((truthN ρ "mark") >>= fun b => if b = true then ((((((getV ρ "line1") >>= fun a => (some (.str "\x01")) >>= fun b => binA .Add a b)) >>= fun a => some (.next, Slots.set ρ "line1" (.val a))) >>= thenA (fSplit_k9 GS))) else (some (.next, ρ))) >>= thenA (fSplit_k11 GS))
noncomputable def fSplit_k13 (GS : AV → List AV → List AV → Option (AV × List AV)) : Slots → Option (AFlow × Slots) := fun ρ => (((((getV ρ "text") >>= fun o => ((getV ρ "i") >>= fun a => (asInt a).map some) >>= fun i => (some none) >>= fun j => cutA o i j)) >>= fun a => some (.next, Slots.set ρ "line2" (.val a))) >>= thenA (fSplit_k12 GS))
noncomputable def fSplit_k14 (GS : AV → List AV → List AV → Option (AV × List AV)) : Slots → Option (AFlow × Slots) := fun ρ => (((((getV ρ "text") >>= fun o => (some none) >>= fun i => ((getV ρ "i") >>= fun a => (asInt a).map some) >>= fun j => cutA o i j)) >>= fun a => some (.next, Slots.set ρ "line1" (.val a))) >>= thenA (fSplit_k13 GS))
noncomputable def fSplit_k15 (GS : AV → List AV → List AV → Option (AV × List AV)) : Slots → Option (AFlow × Slots) := fun ρ => ((whileA (fSplit_C7 GS) (fSplit_B8 GS) 100000 ρ) >>= thenA (fSplit_k14 GS))
noncomputable def fSplit_k16 (GS : AV → List AV → List AV → Option (AV × List AV)) : Slots → Option (AFlow × Slots) := fun ρ => (((some (.str "")) >>= fun a => some (.next, Slots.set ρ "mark" (.val a))) >>= thenA (fSplit_k15 GS))
noncomputable def fSplit_k17 (GS : AV → List AV → List AV → Option (AV × List AV)) : Slots → Option (AFlow × Slots) := fun ρ => (((some (.int 0)) >>= fun a => some (.next, Slots.set ρ "n" (.val a))) >>= thenA (fSplit_k16 GS))
noncomputable def fSplit_k18 (GS : AV → List AV → List AV → Option (AV × List AV)) : Slots → Option (AFlow × Slots) := fun ρ => (((some (.int 0)) >>= fun a => some (.next, Slots.set ρ "i" (.val a))) >>= thenA (fSplit_k17 GS))
noncomputable def fSplit_k19 (GS : AV → List AV → List AV → Option (AV × List AV)) : Slots → Option (AFlow × Slots) := fun ρ => (((((((getV ρ "size") >>= fun a => (getV ρ "max") >>= fun b => cmpA .LtE a b)) >>= fun b => if b = true then some true else (((((((getV ρ "size") >>= fun a => (((((getV ρ "text") >>= fun a => strArg a >>= fun x => ((some (.str "\x00")) >>= fun a => (some []) >>= fun l => some (a :: l)) >>= fun l => countF (.str x :: l))) >>= fun a => (some (.int 3)) >>= fun b => binA .Mult a b)) >>= fun b => binA .Sub a b)) >>= fun a => (getV ρ "max") >>= fun b => cmpA .LtE a b)) >>= fun b => if b = true then some true else (some false))))) >>= fun b => if b = true then ((((getO ρ "data_list") >>= fun l => ((((getV ρ "line_num") >>= fun a => ((getV ρ "text") >>= fun a => (some []) >>= fun l => some (a :: l)) >>= fun l => some (a :: l)) >>= fun l => if l.length ≤ 1000000 then some (.tup l) else none)) >>= fun a => if l.items.length ≤ 1000000 then some (.next, Slots.set ρ "data_list" (.own ⟨l.place, l.items ++ [a]⟩)) else none) >>= thenA (fSplit_k2 GS))) else (some (.next, ρ))) >>= thenA (fSplit_k18 GS))
noncomputable def fSplit_k20 (GS : AV → List AV → List AV → Option (AV × List AV)) : Slots → Option (AFlow × Slots) := fun ρ => (((((getV ρ "self") >>= attrA 113 "_wrapcolumn")) >>= fun a => some (.next, Slots.set ρ "max" (.val a))) >>= thenA (fSplit_k19 GS))
noncomputable def fSplit_k21 (GS : AV → List AV → List AV → Option (AV × List AV)) : Slots → Option (AFlow × Slots) := fun ρ => ((((((getV ρ "text") >>= fun a => (some []) >>= fun l => some (a :: l)) >>= lenF)) >>= fun a => some (.next, Slots.set ρ "size" (.val a))) >>= thenA (fSplit_k20 GS))
noncomputable def fSplit (GS : AV → List AV → List AV → Option (AV × List AV)) : Slots → Option (AFlow × Slots) := fun ρ => (((((truthN ρ "line_num").map (!·))) >>= fun b => if b = true then ((((getO ρ "data_list") >>= fun l => ((((getV ρ "line_num") >>= fun a => ((getV ρ "text") >>= fun a => (some []) >>= fun l => some (a :: l)) >>= fun l => some (a :: l)) >>= fun l => if l.length ≤ 1000000 then some (.tup l) else none)) >>= fun a => if l.items.length ≤ 1000000 then some (.next, Slots.set ρ "data_list" (.own ⟨l.place, l.items ++ [a]⟩)) else none) >>= thenA (fSplit_k1 GS))) else (some (.next, ρ))) >>= thenA (fSplit_k21 GS))
theorem fSplit_den {GS : AV → List AV → List AV → Option (AV × List AV)} (hS : LSpec (W04 w h₀ mg mb os) d (.ref 67) GS) : DenSs (W04 w h₀ mg mb os) d scSplit bdSplit (fSplit GS) :=
  (dens_cons (den_if (denT_not (denT_name (by kernel_rfl) (by kernel_rfl))) (dens_cons (den_append (den_tuple (denPs_cons (den_name "line_num" _ (by kernel_rfl) (by kernel_rfl)) (denPs_cons (den_name "text" _ (by kernel_rfl) (by kernel_rfl)) denPs_nil (fun _ => rfl)) (fun _ => rfl))) (by kernel_rfl) (by kernel_rfl) (fun _ => rfl) rfl) (dens_cons den_return0 dens_nil)) dens_nil) (dens_cons (den_assign (den_call gl_len (by kernel_rfl) (by kernel_rfl) (keep_builtin _) (denPs_cons (den_name "text" _ (by kernel_rfl) (by kernel_rfl)) denPs_nil (fun _ => rfl)) (fun _ _ => rfl) spec_len) (.inl (by kernel_rfl)) (fun _ => rfl)) (dens_cons (den_assign (den_attr at_wrap at_dict at_find (by kernel_rfl) (by kernel_rfl)) (.inl (by kernel_rfl)) (fun _ => rfl)) (dens_cons (den_if (denT_bool (denTs_or (denT_cmp (den_name "size" _ (by kernel_rfl) (by kernel_rfl)) (den_name "max" _ (by kernel_rfl) (by kernel_rfl)) rfl) (denTs_or (denT_cmp (den_bin (den_name "size" _ (by kernel_rfl) (by kernel_rfl)) (den_bin (den_meth_str (den_name "text" _ (by kernel_rfl) (by kernel_rfl)) (fun _ => rfl) (fun _ => rfl) rfl F.slot_str_count F.type_str_count (denPs_cons (den_str _ _ _) denPs_nil (fun _ => rfl)) (fun _ _ => rfl) spec_count) (den_int _ _ _))) (den_name "max" _ (by kernel_rfl) (by kernel_rfl)) rfl) denTs_or0))) (dens_cons (den_append (den_tuple (denPs_cons (den_name "line_num" _ (by kernel_rfl) (by kernel_rfl)) (denPs_cons (den_name "text" _ (by kernel_rfl) (by kernel_rfl)) denPs_nil (fun _ => rfl)) (fun _ => rfl))) (by kernel_rfl) (by kernel_rfl) (fun _ => rfl) rfl) (dens_cons den_return0 dens_nil)) dens_nil) (dens_cons (den_assign (den_int _ _ _) (.inl (by kernel_rfl)) (fun _ => rfl)) (dens_cons (den_assign (den_int _ _ _) (.inl (by kernel_rfl)) (fun _ => rfl)) (dens_cons (den_assign (den_str _ _ _) (.inl (by kernel_rfl)) (fun _ => rfl)) (dens_cons (den_while 100000 (denT_bool (denTs_and (denT_cmp (den_name "n" _ (by kernel_rfl) (by kernel_rfl)) (den_name "max" _ (by kernel_rfl) (by kernel_rfl)) rfl) (denTs_and (denT_cmp (den_name "i" _ (by kernel_rfl) (by kernel_rfl)) (den_name "size" _ (by kernel_rfl) (by kernel_rfl)) rfl) denTs_and0))) (dens_cons (den_if (denT_cmp (den_idx (den_name "text" _ (by kernel_rfl) (by kernel_rfl)) (den_name "i" _ (by kernel_rfl) (by kernel_rfl)) (fun _ _ => rfl)) (den_str _ _ _) rfl) (dens_cons (den_aug (den_int _ _ _) (.inl (by kernel_rfl)) (by kernel_rfl)) (dens_cons (den_assign (den_idx (den_name "text" _ (by kernel_rfl) (by kernel_rfl)) (den_name "i" _ (by kernel_rfl) (by kernel_rfl)) (fun _ _ => rfl)) (.inl (by kernel_rfl)) (fun _ => rfl)) (dens_cons (den_aug (den_int _ _ _) (.inl (by kernel_rfl)) (by kernel_rfl)) dens_nil))) (dens_cons (den_if (denT_cmp (den_idx (den_name "text" _ (by kernel_rfl) (by kernel_rfl)) (den_name "i" _ (by kernel_rfl) (by kernel_rfl)) (fun _ _ => rfl)) (den_str _ _ _) rfl) (dens_cons (den_aug (den_int _ _ _) (.inl (by kernel_rfl)) (by kernel_rfl)) (dens_cons (den_assign (den_str _ _ _) (.inl (by kernel_rfl)) (fun _ => rfl)) dens_nil)) (dens_cons (den_aug (den_int _ _ _) (.inl (by kernel_rfl)) (by kernel_rfl)) (dens_cons (den_aug (den_int _ _ _) (.inl (by kernel_rfl)) (by kernel_rfl)) dens_nil))) dens_nil)) dens_nil)) (dens_cons (den_assign (den_cut (den_name "text" _ (by kernel_rfl) (by kernel_rfl)) part_none (part_some (den_name "i" _ (by kernel_rfl) (by kernel_rfl)))) (.inl (by kernel_rfl)) (fun _ => rfl)) (dens_cons (den_assign (den_cut (den_name "text" _ (by kernel_rfl) (by kernel_rfl)) (part_some (den_name "i" _ (by kernel_rfl) (by kernel_rfl))) part_none) (.inl (by kernel_rfl)) (fun _ => rfl)) (dens_cons (den_if (denT_name (by kernel_rfl) (by kernel_rfl)) (dens_cons (den_assign (den_bin (den_name "line1" _ (by kernel_rfl) (by kernel_rfl)) (den_str _ _ _)) (.inl (by kernel_rfl)) (fun _ => rfl)) (dens_cons (den_assign (den_bin (den_bin (den_str _ _ _) (den_name "mark" _ (by kernel_rfl) (by kernel_rfl))) (den_name "line2" _ (by kernel_rfl) (by kernel_rfl))) (.inl (by kernel_rfl)) (fun _ => rfl)) dens_nil)) dens_nil) (dens_cons (den_append (den_tuple (denPs_cons (den_name "line_num" _ (by kernel_rfl) (by kernel_rfl)) (denPs_cons (den_name "line1" _ (by kernel_rfl) (by kernel_rfl)) denPs_nil (fun _ => rfl)) (fun _ => rfl))) (by kernel_rfl) (by kernel_rfl) (fun _ => rfl) rfl) (dens_cons (den_exprXx (denx_lentx (by kernel_rfl) (by kernel_rfl) (by kernel_rfl) (by kernel_rfl) me_get me_find me_fn me_keep (denPs_cons (den_str _ _ _) (denPs_cons (den_name "line2" _ (by kernel_rfl) (by kernel_rfl)) denPs_nil (fun _ => rfl)) (fun _ => rfl)) (fun _ => rfl) (fun _ _ => rfl) (fun _ _ => _) (fun _ => rfl) hS) (fun _ => rfl)) dens_nil)))))))))))))
noncomputable def fLaw_T1 (GT GR GJ GC : List AV → Option AV) (GS : AV → List AV → List AV → Option (AV × List AV)) : AV → Slots → Option Slots := (fun a ρ => some (Slots.set ρ "x" (.val a)))
noncomputable def fLaw_f2 (GT GR GJ GC : List AV → Option AV) (GS : AV → List AV → List AV → Option (AV × List AV)) : Slots → Option AV := fun ρ => (((getV ρ "x") >>= fun a => (some []) >>= fun l => some (a :: l)) >>= absF)
noncomputable def fLaw_k3 (GT GR GJ GC : List AV → Option AV) (GS : AV → List AV → List AV → Option (AV × List AV)) : Slots → Option (AFlow × Slots) := fun ρ => (((((some []) >>= fun l => if l.length ≤ 1000000 then some l else none)) >>= fun l => some (.next, Slots.set ρ "cells" (.own ⟨none, l⟩))) >>= thenA (fun ρ => some (.next, ρ)))
noncomputable def fLaw_z4 (GT GR GJ GC : List AV → Option AV) (GS : AV → List AV → List AV → Option (AV × List AV)) : Slots → Option (AFlow × Slots) := fun ρ => (((getO ρ "lines") >>= fun l => (((((((((((((getL ρ "lines") >>= fun l => if l.length ≤ 16777216 then some (.int l.length) else none)) >>= fun a => (some (.int 1)) >>= fun b => binA .Add a b)) >>= fun a => ((some .none) >>= fun a => ((some (.str "")) >>= fun a => ((some (.int 0)) >>= fun a => (some []) >>= fun l => some (a :: l)) >>= fun l => some (a :: l)) >>= fun l => some (a :: l)) >>= fun l => some (a :: l)) >>= fun l => if l.length ≤ 1000000 then some (.lst l) else none)) >>= fun o => (((((getV ρ "x") >>= fun a => (some (.int 6)) >>= fun b => binA .FloorDiv a b)) >>= fun a => (some (.int 4)) >>= fun b => binA .Mod a b)) >>= fun i => idxA o i)) >>= fun a => ((getV ρ "cells") >>= fun a => (some []) >>= fun l => some (a :: l)) >>= fun l => some (a :: l)) >>= fun l => if l.length ≤ 1000000 then some (.tup l) else none)) >>= fun a => if l.items.length ≤ 1000000 then some (.next, Slots.set ρ "lines" (.own ⟨l.place, l.items ++ [a]⟩)) else none) >>= thenA (fLaw_k3 GT GR GJ GC GS))
noncomputable def fLaw_k5 (GT GR GJ GC : List AV → Option AV) (GS : AV → List AV → List AV → Option (AV × List AV)) : Slots → Option (AFlow × Slots) := fun ρ => (((getO ρ "cells") >>= fun l => ((((getV ρ "sign") >>= fun a => (((((((some (.str "")) >>= fun a => ((some (.str "+")) >>= fun a => ((some (.str "-")) >>= fun a => ((some (.str "^")) >>= fun a => (some []) >>= fun l => some (a :: l)) >>= fun l => some (a :: l)) >>= fun l => some (a :: l)) >>= fun l => some (a :: l)) >>= fun l => if l.length ≤ 1000000 then some (.lst l) else none)) >>= fun o => (((getV ρ "x") >>= fun a => (some (.int 4)) >>= fun b => binA .Mod a b)) >>= fun i => idxA o i)) >>= fun a => ((((((getV ρ "k") >>= fun a => (some (.int 0)) >>= fun b => (cmpA .Eq a b).map AV.bool)) >>= fun a => truthA a >>= fun b => if b = true then (((((((getV ρ "x") >>= fun a => (some (.int 4)) >>= fun b => binA .FloorDiv a b)) >>= fun a => (some (.int 3)) >>= fun b => binA .Mod a b)) >>= fun a => (some (.int 0)) >>= fun b => (cmpA .Eq a b).map AV.bool)) else some a)) >>= fun a => (some []) >>= fun l => some (a :: l)) >>= fun l => some (a :: l)) >>= fun l => some (a :: l)) >>= fun l => if l.length ≤ 1000000 then some (.tup l) else none)) >>= fun a => if l.items.length ≤ 1000000 then some (.next, Slots.set ρ "cells" (.own ⟨l.place, l.items ++ [a]⟩)) else none) >>= thenA (fun ρ => some (.next, ρ)))
noncomputable def fLaw_T6 (GT GR GJ GC : List AV → Option AV) (GS : AV → List AV → List AV → Option (AV × List AV)) : AV → Slots → Option Slots := (fun a ρ => some (Slots.set ρ "k" (.val a)))
noncomputable def fLaw_B7 (GT GR GJ GC : List AV → Option AV) (GS : AV → List AV → List AV → Option (AV × List AV)) : Slots → Option (AFlow × Slots) := fun ρ => (((((some (.str "ab c\td+e-f^g\n01hi<jk>l&mn")) >>= fun o => (((((((getV ρ "x") >>= fun a => (some (.int 6)) >>= fun b => binA .FloorDiv a b)) >>= fun a => (some (.int 20)) >>= fun b => binA .Mod a b)) >>= fun a => (getV ρ "k") >>= fun b => binA .Add a b)) >>= fun i => idxA o i)) >>= fun a => some (.next, Slots.set ρ "sign" (.val a))) >>= thenA (fLaw_k5 GT GR GJ GC GS))
noncomputable def fLaw_T8 (GT GR GJ GC : List AV → Option AV) (GS : AV → List AV → List AV → Option (AV × List AV)) : AV → Slots → Option Slots := (fun a ρ => some (Slots.set ρ "x" (.val a)))
noncomputable def fLaw_B9 (GT GR GJ GC : List AV → Option AV) (GS : AV → List AV → List AV → Option (AV × List AV)) : Slots → Option (AFlow × Slots) := fun ρ => (((((((getV ρ "x") >>= fun a => (some (.int 6)) >>= fun b => binA .Mod a b)) >>= fun a => (some (.int 5)) >>= fun b => cmpA .Eq a b)) >>= fun b => if b = true then (((fLaw_z4 GT GR GJ GC GS) (freeze "cells" ρ))) else (((((((((some (.int 1)) >>= fun a => (((((getV ρ "x") >>= fun a => (some (.int 12)) >>= fun b => binA .FloorDiv a b)) >>= fun a => (some (.int 4)) >>= fun b => binA .Mod a b)) >>= fun b => binA .Add a b)) >>= fun a => (some []) >>= fun l => some (a :: l)) >>= rangeA)) >>= fun items => forA (fLaw_T6 GT GR GJ GC GS) (fLaw_B7 GT GR GJ GC GS) items ρ) >>= thenA (fun ρ => some (.next, ρ))))) >>= thenA (fun ρ => some (.next, ρ)))
noncomputable def fLaw_T10 (GT GR GJ GC : List AV → Option AV) (GS : AV → List AV → List AV → Option (AV × List AV)) : AV → Slots → Option Slots := (fun a ρ => seqA a >>= fun l => if l.length = 2 then (headTg (fun a ρ => some (Slots.set ρ "head" (.val a))) (headTg (fun a ρ => some (Slots.set ρ "cells" (.val a))) (fun _ ρ => some ρ))) l ρ else none)
noncomputable def fLaw_f11 (GT GR GJ GC : List AV → Option AV) (GS : AV → List AV → List AV → Option (AV × List AV)) : Slots → Option AV := fun ρ => (((getV ρ "head") >>= fun a => (((((getV ρ "cells") >>= fun a => (some []) >>= fun l => some (a :: l)) >>= GT)) >>= fun a => (some []) >>= fun l => some (a :: l)) >>= fun l => some (a :: l)) >>= fun l => if l.length ≤ 1000000 then some (.tup l) else none)
noncomputable def fLaw_T12 (GT GR GJ GC : List AV → Option AV) (GS : AV → List AV → List AV → Option (AV × List AV)) : AV → Slots → Option Slots := (fun a ρ => seqA a >>= fun l => if l.length = 2 then (headTg (fun a ρ => some (Slots.set ρ "head" (.val a))) (headTg (fun a ρ => some (Slots.set ρ "cells" (.val a))) (fun _ ρ => some ρ))) l ρ else none)
noncomputable def fLaw_f13 (GT GR GJ GC : List AV → Option AV) (GS : AV → List AV → List AV → Option (AV × List AV)) : Slots → Option AV := fun ρ => (((getV ρ "head") >>= fun a => ((((getL ρ "cells") >>= fun l => if l.length ≤ 16777216 then some (.int l.length) else none)) >>= fun a => (some []) >>= fun l => some (a :: l)) >>= fun l => some (a :: l)) >>= fun l => if l.length ≤ 1000000 then some (.tup l) else none)
noncomputable def fLaw_b14 (GT GR GJ GC : List AV → Option AV) (GS : AV → List AV → List AV → Option (AV × List AV)) : Slots → Option (AFlow × Slots) := fun ρ => (((some (.bool false)) >>= fun a => some (.ret a, ρ)) >>= thenA (fun ρ => some (.next, ρ)))
noncomputable def fLaw_o15 (GT GR GJ GC : List AV → Option AV) (GS : AV → List AV → List AV → Option (AV × List AV)) : Slots → Option (AFlow × Slots) := fun ρ => some (.next, ρ)
noncomputable def fLaw_T16 (GT GR GJ GC : List AV → Option AV) (GS : AV → List AV → List AV → Option (AV × List AV)) : AV → Slots → Option Slots := (fun a ρ => seqA a >>= fun l => if l.length = 2 then (headTg (fun a ρ => some (Slots.set ρ "head" (.val a))) (headTg (fun a ρ => some (Slots.set ρ "text" (.val a))) (fun _ ρ => some ρ))) l ρ else none)
noncomputable def fLaw_B17 (GT GR GJ GC : List AV → Option AV) (GS : AV → List AV → List AV → Option (AV × List AV)) : Slots → Option (AFlow × Slots) := fun ρ => (((((getV ρ "sheet") >>= fun self => (getO ρ "rows") >>= fun l => ((getV ρ "head") >>= fun a => ((getV ρ "text") >>= fun a => (some []) >>= fun l => some (a :: l)) >>= fun l => some (a :: l)) >>= fun args => lentA 113 "_split_line" GS ρ "rows" self l args)) >>= fun x => (fun ρ : Slots => some .none) x.2 >>= fun y => cmpA .IsNot x.1 y >>= fun b => if b = true then (fLaw_b14 GT GR GJ GC GS) x.2 else (fLaw_o15 GT GR GJ GC GS) x.2) >>= thenA (fun ρ => some (.next, ρ)))
noncomputable def fLaw_T18 (GT GR GJ GC : List AV → Option AV) (GS : AV → List AV → List AV → Option (AV × List AV)) : AV → Slots → Option Slots := (fun a ρ => some (Slots.set ρ "at" (.val a)))
noncomputable def fLaw_B19 (GT GR GJ GC : List AV → Option AV) (GS : AV → List AV → List AV → Option (AV × List AV)) : Slots → Option (AFlow × Slots) := fun ρ => (((getO ρ "due") >>= fun l => ((((((((getV ρ "at") >>= fun a => (some (.int 0)) >>= fun b => cmpA .Eq a b)) >>= fun x => if x = true then (getV ρ "head") else (some (.str ">")))) >>= fun a => (((((getV ρ "column") >>= fun a => ((((getV ρ "size") >>= fun a => (getV ρ "at") >>= fun b => binA .Sub a b)) >>= fun a => (some []) >>= fun l => some (a :: l)) >>= fun l => some (a :: l)) >>= minF)) >>= fun a => (some []) >>= fun l => some (a :: l)) >>= fun l => some (a :: l)) >>= fun l => if l.length ≤ 1000000 then some (.tup l) else none)) >>= fun a => if l.items.length ≤ 1000000 then some (.next, Slots.set ρ "due" (.own ⟨l.place, l.items ++ [a]⟩)) else none) >>= thenA (fun ρ => some (.next, ρ)))
noncomputable def fLaw_T20 (GT GR GJ GC : List AV → Option AV) (GS : AV → List AV → List AV → Option (AV × List AV)) : AV → Slots → Option Slots := (fun a ρ => seqA a >>= fun l => if l.length = 2 then (headTg (fun a ρ => some (Slots.set ρ "head" (.val a))) (headTg (fun a ρ => some (Slots.set ρ "size" (.val a))) (fun _ ρ => some ρ))) l ρ else none)
noncomputable def fLaw_B21 (GT GR GJ GC : List AV → Option AV) (GS : AV → List AV → List AV → Option (AV × List AV)) : Slots → Option (AFlow × Slots) := fun ρ => (((((truthN ρ "head").map (!·))) >>= fun b => if b = true then ((((getO ρ "due") >>= fun l => ((((getV ρ "head") >>= fun a => ((getV ρ "size") >>= fun a => (some []) >>= fun l => some (a :: l)) >>= fun l => some (a :: l)) >>= fun l => if l.length ≤ 1000000 then some (.tup l) else none)) >>= fun a => if l.items.length ≤ 1000000 then some (.next, Slots.set ρ "due" (.own ⟨l.place, l.items ++ [a]⟩)) else none) >>= thenA (fun ρ => some (.next, ρ)))) else (((((((some (.int 0)) >>= fun a => (((((some (.int 1)) >>= fun a => ((getV ρ "size") >>= fun a => (some []) >>= fun l => some (a :: l)) >>= fun l => some (a :: l)) >>= maxF)) >>= fun a => ((getV ρ "column") >>= fun a => (some []) >>= fun l => some (a :: l)) >>= fun l => some (a :: l)) >>= fun l => some (a :: l)) >>= rangeA)) >>= fun items => forA (fLaw_T18 GT GR GJ GC GS) (fLaw_B19 GT GR GJ GC GS) items ρ) >>= thenA (fun ρ => some (.next, ρ))))) >>= thenA (fun ρ => some (.next, ρ)))
noncomputable def fLaw_T22 (GT GR GJ GC : List AV → Option AV) (GS : AV → List AV → List AV → Option (AV × List AV)) : AV → Slots → Option Slots := (fun a ρ => seqA a >>= fun l => if l.length = 2 then (headTg (fun a ρ => some (Slots.set ρ "head" (.val a))) (headTg (fun a ρ => some (Slots.set ρ "text" (.val a))) (fun _ ρ => some ρ))) l ρ else none)
noncomputable def fLaw_f23 (GT GR GJ GC : List AV → Option AV) (GS : AV → List AV → List AV → Option (AV × List AV)) : Slots → Option AV := fun ρ => (((getV ρ "head") >>= fun a => (((((getV ρ "text") >>= fun a => (some []) >>= fun l => some (a :: l)) >>= GR)) >>= fun a => (some []) >>= fun l => some (a :: l)) >>= fun l => some (a :: l)) >>= fun l => if l.length ≤ 1000000 then some (.tup l) else none)
noncomputable def fLaw_k24 (GT GR GJ GC : List AV → Option AV) (GS : AV → List AV → List AV → Option (AV × List AV)) : Slots → Option (AFlow × Slots) := fun ρ => ((((((((getV ρ "held") >>= fun a => (some []) >>= fun l => some (a :: l)) >>= GJ)) >>= fun a => (getV ρ "document") >>= fun b => cmpA .NotEq a b)) >>= fun b => if b = true then ((((some (.bool false)) >>= fun a => some (.ret a, ρ)) >>= thenA (fun ρ => some (.next, ρ)))) else (some (.next, ρ))) >>= thenA (fun ρ => some (.next, ρ)))
noncomputable def fLaw_k25 (GT GR GJ GC : List AV → Option AV) (GS : AV → List AV → List AV → Option (AV × List AV)) : Slots → Option (AFlow × Slots) := fun ρ => (((((((((((getV ρ "held") >>= iterA)) >>= fun items => if items.length ≤ 1000000 then compA (fLaw_T22 GT GR GJ GC GS) (fun _ => some true) (fLaw_f23 GT GR GJ GC GS) items (only [] ρ) else none)).map AV.lst)) >>= fun a => (getV ρ "sizes") >>= fun b => cmpA .NotEq a b)) >>= fun b => if b = true then ((((some (.bool false)) >>= fun a => some (.ret a, ρ)) >>= thenA (fun ρ => some (.next, ρ)))) else (some (.next, ρ))) >>= thenA (fLaw_k24 GT GR GJ GC GS))
noncomputable def fLaw_z26 (GT GR GJ GC : List AV → Option AV) (GS : AV → List AV → List AV → Option (AV × List AV)) : Slots → Option (AFlow × Slots) := fun ρ => ((((getV ρ "rows") >>= fun a => ((getV ρ "due") >>= fun a => (some []) >>= fun l => some (SV.val a :: l)) >>= fun l => some (SV.val a :: l)) >>= fun l => if l.length = 2 ∧ l.length ≤ 1000000 then some (.next, setMany ρ ["sizes", "held"] l.reverse) else none) >>= thenA (fLaw_k25 GT GR GJ GC GS))
noncomputable def fLaw_z27 (GT GR GJ GC : List AV → Option AV) (GS : AV → List AV → List AV → Option (AV × List AV)) : Slots → Option (AFlow × Slots) := fun ρ => ((fLaw_z26 GT GR GJ GC GS) (freeze "due" ρ))
noncomputable def fLaw_k28 (GT GR GJ GC : List AV → Option AV) (GS : AV → List AV → List AV → Option (AV × List AV)) : Slots → Option (AFlow × Slots) := fun ρ => ((fLaw_z27 GT GR GJ GC GS) (freeze "rows" ρ))
noncomputable def fLaw_k29 (GT GR GJ GC : List AV → Option AV) (GS : AV → List AV → List AV → Option (AV × List AV)) : Slots → Option (AFlow × Slots) := fun ρ => (((((getV ρ "sizes") >>= iterA)) >>= fun items => forA (fLaw_T20 GT GR GJ GC GS) (fLaw_B21 GT GR GJ GC GS) items ρ) >>= thenA (fLaw_k28 GT GR GJ GC GS))
noncomputable def fLaw_k30 (GT GR GJ GC : List AV → Option AV) (GS : AV → List AV → List AV → Option (AV × List AV)) : Slots → Option (AFlow × Slots) := fun ρ => (((((getV ρ "held") >>= iterA)) >>= fun items => forA (fLaw_T16 GT GR GJ GC GS) (fLaw_B17 GT GR GJ GC GS) items ρ) >>= thenA (fLaw_k29 GT GR GJ GC GS))
noncomputable def fLaw_T31 (GT GR GJ GC : List AV → Option AV) (GS : AV → List AV → List AV → Option (AV × List AV)) : AV → Slots → Option Slots := (fun a ρ => some (Slots.set ρ "column" (.val a)))
noncomputable def fLaw_B32 (GT GR GJ GC : List AV → Option AV) (GS : AV → List AV → List AV → Option (AV × List AV)) : Slots → Option (AFlow × Slots) := fun ρ => (((((((some (.int 8)) >>= fun a => ((getV ρ "column") >>= fun a => (some []) >>= fun l => some (a :: l)) >>= fun l => some (a :: l)) >>= GC)) >>= fun a => ((((some []) >>= fun l => if l.length ≤ 1000000 then some l else none)) >>= fun a => ((((some []) >>= fun l => if l.length ≤ 1000000 then some l else none)) >>= fun a => (some []) >>= fun l => some (SV.own ⟨none, a⟩ :: l)) >>= fun l => some (SV.own ⟨none, a⟩ :: l)) >>= fun l => some (SV.val a :: l)) >>= fun l => if l.length = 3 ∧ l.length ≤ 1000000 then some (.next, setMany ρ ["due", "rows", "sheet"] l.reverse) else none) >>= thenA (fLaw_k30 GT GR GJ GC GS))
noncomputable def fLaw_k33 (GT GR GJ GC : List AV → Option AV) (GS : AV → List AV → List AV → Option (AV × List AV)) : Slots → Option (AFlow × Slots) := fun ρ => (((some (.bool true)) >>= fun a => some (.ret a, ρ)) >>= thenA (fun ρ => some (.next, ρ)))
noncomputable def fLaw_k34 (GT GR GJ GC : List AV → Option AV) (GS : AV → List AV → List AV → Option (AV × List AV)) : Slots → Option (AFlow × Slots) := fun ρ => ((((((((((some (.int 3)) >>= fun a => (((((getV ρ "numbers") >>= fun o => (some (.int 0)) >>= fun i => idxA o i)) >>= fun a => (some (.int 7)) >>= fun b => binA .Mod a b)) >>= fun b => binA .Add a b)) >>= fun a => ((((some (.int 2)) >>= fun a => (((((getV ρ "numbers") >>= fun o => (some (.int 1)) >>= fun i => idxA o i)) >>= fun a => (some (.int 5)) >>= fun b => binA .Mod a b)) >>= fun b => binA .Add a b)) >>= fun a => ((((some (.int 1)) >>= fun a => (((((getV ρ "numbers") >>= fun o => (some (.int 2)) >>= fun i => idxA o i)) >>= fun a => (some (.int 4)) >>= fun b => binA .Mod a b)) >>= fun b => binA .Add a b)) >>= fun a => (some []) >>= fun l => some (a :: l)) >>= fun l => some (a :: l)) >>= fun l => some (a :: l)) >>= fun l => if l.length ≤ 1000000 then some (.lst l) else none)) >>= iterA)) >>= fun items => forA (fLaw_T31 GT GR GJ GC GS) (fLaw_B32 GT GR GJ GC GS) items ρ) >>= thenA (fLaw_k33 GT GR GJ GC GS))
noncomputable def fLaw_z35 (GT GR GJ GC : List AV → Option AV) (GS : AV → List AV → List AV → Option (AV × List AV)) : Slots → Option (AFlow × Slots) := fun ρ => (((getV ρ "document") >>= fun a => some (.next, Slots.set ρ "held" (.val a))) >>= thenA (fLaw_k34 GT GR GJ GC GS))
noncomputable def fLaw_z36 (GT GR GJ GC : List AV → Option AV) (GS : AV → List AV → List AV → Option (AV × List AV)) : Slots → Option (AFlow × Slots) := fun ρ => ((fLaw_z35 GT GR GJ GC GS) (freeze "sizes" ρ))
noncomputable def fLaw_k37 (GT GR GJ GC : List AV → Option AV) (GS : AV → List AV → List AV → Option (AV × List AV)) : Slots → Option (AFlow × Slots) := fun ρ => ((fLaw_z36 GT GR GJ GC GS) (freeze "document" ρ))
noncomputable def fLaw_k38 (GT GR GJ GC : List AV → Option AV) (GS : AV → List AV → List AV → Option (AV × List AV)) : Slots → Option (AFlow × Slots) := fun ρ => (((((getV ρ "lines") >>= iterA)) >>= fun items => if items.length ≤ 1000000 then compA (fLaw_T12 GT GR GJ GC GS) (fun _ => some true) (fLaw_f13 GT GR GJ GC GS) items (only [] ρ) >>= fun l => some (.next, Slots.set ρ "sizes" (.own ⟨none, l⟩)) else none) >>= thenA (fLaw_k37 GT GR GJ GC GS))
noncomputable def fLaw_z39 (GT GR GJ GC : List AV → Option AV) (GS : AV → List AV → List AV → Option (AV × List AV)) : Slots → Option (AFlow × Slots) := fun ρ => (((((getV ρ "lines") >>= iterA)) >>= fun items => if items.length ≤ 1000000 then compA (fLaw_T10 GT GR GJ GC GS) (fun _ => some true) (fLaw_f11 GT GR GJ GC GS) items (only [] ρ) >>= fun l => some (.next, Slots.set ρ "document" (.own ⟨none, l⟩)) else none) >>= thenA (fLaw_k38 GT GR GJ GC GS))
noncomputable def fLaw_k40 (GT GR GJ GC : List AV → Option AV) (GS : AV → List AV → List AV → Option (AV × List AV)) : Slots → Option (AFlow × Slots) := fun ρ => ((fLaw_z39 GT GR GJ GC GS) (freeze "lines" ρ))
noncomputable def fLaw_z41 (GT GR GJ GC : List AV → Option AV) (GS : AV → List AV → List AV → Option (AV × List AV)) : Slots → Option (AFlow × Slots) := fun ρ => (((getO ρ "lines") >>= fun l => ((((((((getL ρ "lines") >>= fun l => if l.length ≤ 16777216 then some (.int l.length) else none)) >>= fun a => (some (.int 1)) >>= fun b => binA .Add a b)) >>= fun a => ((getV ρ "cells") >>= fun a => (some []) >>= fun l => some (a :: l)) >>= fun l => some (a :: l)) >>= fun l => if l.length ≤ 1000000 then some (.tup l) else none)) >>= fun a => if l.items.length ≤ 1000000 then some (.next, Slots.set ρ "lines" (.own ⟨l.place, l.items ++ [a]⟩)) else none) >>= thenA (fLaw_k40 GT GR GJ GC GS))
noncomputable def fLaw_k42 (GT GR GJ GC : List AV → Option AV) (GS : AV → List AV → List AV → Option (AV × List AV)) : Slots → Option (AFlow × Slots) := fun ρ => ((fLaw_z41 GT GR GJ GC GS) (freeze "cells" ρ))
noncomputable def fLaw_z43 (GT GR GJ GC : List AV → Option AV) (GS : AV → List AV → List AV → Option (AV × List AV)) : Slots → Option (AFlow × Slots) := fun ρ => (((((((getV ρ "numbers") >>= fun o => ((some (.int 3)) >>= fun a => (asInt a).map some) >>= fun i => (some none) >>= fun j => cutA o i j)) >>= iterA)) >>= fun items => forA (fLaw_T8 GT GR GJ GC GS) (fLaw_B9 GT GR GJ GC GS) items ρ) >>= thenA (fLaw_k42 GT GR GJ GC GS))
noncomputable def fLaw_k44 (GT GR GJ GC : List AV → Option AV) (GS : AV → List AV → List AV → Option (AV × List AV)) : Slots → Option (AFlow × Slots) := fun ρ => ((fLaw_z43 GT GR GJ GC GS) (freeze "numbers" ρ))
noncomputable def fLaw_k45 (GT GR GJ GC : List AV → Option AV) (GS : AV → List AV → List AV → Option (AV × List AV)) : Slots → Option (AFlow × Slots) := fun ρ => ((((((some []) >>= fun l => if l.length ≤ 1000000 then some l else none)) >>= fun a => ((((some []) >>= fun l => if l.length ≤ 1000000 then some l else none)) >>= fun a => (some []) >>= fun l => some (SV.own ⟨none, a⟩ :: l)) >>= fun l => some (SV.own ⟨none, a⟩ :: l)) >>= fun l => if l.length = 2 ∧ l.length ≤ 1000000 then some (.next, setMany ρ ["cells", "lines"] l.reverse) else none) >>= thenA (fLaw_k44 GT GR GJ GC GS))
noncomputable def fLaw_k46 (GT GR GJ GC : List AV → Option AV) (GS : AV → List AV → List AV → Option (AV × List AV)) : Slots → Option (AFlow × Slots) := fun ρ => (((getO ρ "numbers") >>= fun l => ((((((some (.int 4)) >>= fun a => ((some (.int 3)) >>= fun a => ((some (.int 1)) >>= fun a => ((some (.int 38)) >>= fun a => ((some (.int 27)) >>= fun a => ((some (.int 45)) >>= fun a => ((some (.int 75)) >>= fun a => ((some (.int 5)) >>= fun a => ((some (.int 38)) >>= fun a => ((some (.int 11)) >>= fun a => (some []) >>= fun l => some (a :: l)) >>= fun l => some (a :: l)) >>= fun l => some (a :: l)) >>= fun l => some (a :: l)) >>= fun l => some (a :: l)) >>= fun l => some (a :: l)) >>= fun l => some (a :: l)) >>= fun l => some (a :: l)) >>= fun l => some (a :: l)) >>= fun l => some (a :: l)) >>= fun l => if l.length ≤ 1000000 then some (.lst l) else none)) >>= fun o => ((((getL ρ "numbers") >>= fun l => if l.length ≤ 16777216 then some (.int l.length) else none)) >>= fun a => (asInt a).map some) >>= fun i => (some none) >>= fun j => cutO o i j)) >>= fun r => if l.items.length + r.length ≤ 1000000 then some (.next, Slots.set ρ "numbers" (.own ⟨l.place, l.items ++ r⟩)) else none) >>= thenA (fLaw_k45 GT GR GJ GC GS))
noncomputable def fLaw (GT GR GJ GC : List AV → Option AV) (GS : AV → List AV → List AV → Option (AV × List AV)) : Slots → Option (AFlow × Slots) := fun ρ => (((((getV ρ "script") >>= iterA)) >>= fun items => if items.length ≤ 1000000 then compA (fLaw_T1 GT GR GJ GC GS) (fun _ => some true) (fLaw_f2 GT GR GJ GC GS) items (only [] ρ) >>= fun l => some (.next, Slots.set ρ "numbers" (.own ⟨none, l⟩)) else none) >>= thenA (fLaw_k46 GT GR GJ GC GS))
theorem fLaw_den {GT GR GJ GC : List AV → Option AV} {GS : AV → List AV → List AV → Option (AV × List AV)} (hT : FSpec (W04 w h₀ mg mb os) d (.ref 124) GT) (hR : FSpec (W04 w h₀ mg mb os) d (.ref 131) GR) (hJ : FSpec (W04 w h₀ mg mb os) d (.ref 138) GJ) (hC : FSpec (W04 w h₀ mg mb os) d (.ref 113) GC) (hS : LSpec (W04 w h₀ mg mb os) d (.ref 67) GS) : DenSs (W04 w h₀ mg mb os) d scLaw bdLaw (fLaw GT GR GJ GC GS) :=
  (dens_cons (den_assign_compx [] (by kernel_rfl) (compScope (by kernel_rfl)) (it_val (den_name "script" _ (by kernel_rfl) (by kernel_rfl)) (by constructor)) (tgc_name (by kernel_rfl)) ifs_nil (den_call gl_abs (by kernel_rfl) (by kernel_rfl) (keep_builtin _) (denPs_cons (den_name "x" _ (by kernel_rfl) (by kernel_rfl)) denPs_nil (fun _ => rfl)) (fun _ _ => rfl) spec_abs) (fun _ _ => rfl) (by kernel_rfl) rfl (by kernel_rfl)) (dens_cons (den_iadd (deno_cuto (den_list (denPs_cons (den_int _ _ _) (denPs_cons (den_int _ _ _) (denPs_cons (den_int _ _ _) (denPs_cons (den_int _ _ _) (denPs_cons (den_int _ _ _) (denPs_cons (den_int _ _ _) (denPs_cons (den_int _ _ _) (denPs_cons (den_int _ _ _) (denPs_cons (den_int _ _ _) (denPs_cons (den_int _ _ _) denPs_nil (fun _ => rfl)) (fun _ => rfl)) (fun _ => rfl)) (fun _ => rfl)) (fun _ => rfl)) (fun _ => rfl)) (fun _ => rfl)) (fun _ => rfl)) (fun _ => rfl)) (fun _ => rfl))) (part_some (den_len_name gl_len (by kernel_rfl) (by kernel_rfl) (by kernel_rfl))) part_none) (.inl (by kernel_rfl)) (by kernel_rfl)) (dens_cons (den_assign_swap (names := ["lines", "cells"]) (es_own (deno_list denPs_nil) (es_own (deno_list denPs_nil) es_nil (fun _ => rfl)) (fun _ => rfl)) (fun x hx => kinds_in (l := ["lines", "cells"]) (by kernel_rfl) x hx) (fun env he => by cases env; cases he; rfl) (fun env he => by cases env; cases he; kernel_rfl)) (dens_freeze "numbers" (dens_cons (den_for (it_val (den_cut (den_name "numbers" _ (by kernel_rfl) (by kernel_rfl)) (part_some (den_int _ _ _)) part_none) (by constructor)) (tg_name (.inl (by kernel_rfl))) (dens_cons (den_if (denT_cmp (den_bin (den_name "x" _ (by kernel_rfl) (by kernel_rfl)) (den_int _ _ _)) (den_int _ _ _) rfl) (dens_freeze "cells" (dens_cons (den_append (den_tuple (denPs_cons (den_idx (den_list (denPs_cons (den_bin (den_len_name gl_len (by kernel_rfl) (by kernel_rfl) (by kernel_rfl)) (den_int _ _ _)) (denPs_cons (den_none _ _) (denPs_cons (den_str _ _ _) (denPs_cons (den_int _ _ _) denPs_nil (fun _ => rfl)) (fun _ => rfl)) (fun _ => rfl)) (fun _ => rfl))) (den_bin (den_bin (den_name "x" _ (by kernel_rfl) (by kernel_rfl)) (den_int _ _ _)) (den_int _ _ _)) (fun _ _ => rfl)) (denPs_cons (den_name "cells" _ (by kernel_rfl) (by kernel_rfl)) denPs_nil (fun _ => rfl)) (fun _ => rfl))) (by kernel_rfl) (by kernel_rfl) (fun _ => rfl) rfl) (dens_cons (den_assignO (deno_list denPs_nil) (.inl (by kernel_rfl)) (fun _ => rfl)) dens_nil))) (dens_cons (den_for (it_range gl_range (by kernel_rfl) (denPs_cons (den_bin (den_int _ _ _) (den_bin (den_bin (den_name "x" _ (by kernel_rfl) (by kernel_rfl)) (den_int _ _ _)) (den_int _ _ _))) denPs_nil (fun _ => rfl)) (fun _ _ => rfl) (by constructor)) (tg_name (.inl (by kernel_rfl))) (dens_cons (den_assign (den_idx (den_str _ _ _) (den_bin (den_bin (den_bin (den_name "x" _ (by kernel_rfl) (by kernel_rfl)) (den_int _ _ _)) (den_int _ _ _)) (den_name "k" _ (by kernel_rfl) (by kernel_rfl))) (fun _ _ => rfl)) (.inl (by kernel_rfl)) (fun _ => rfl)) (dens_cons (den_append (den_tuple (denPs_cons (den_name "sign" _ (by kernel_rfl) (by kernel_rfl)) (denPs_cons (den_idx (den_list (denPs_cons (den_str _ _ _) (denPs_cons (den_str _ _ _) (denPs_cons (den_str _ _ _) (denPs_cons (den_str _ _ _) denPs_nil (fun _ => rfl)) (fun _ => rfl)) (fun _ => rfl)) (fun _ => rfl))) (den_bin (den_name "x" _ (by kernel_rfl) (by kernel_rfl)) (den_int _ _ _)) (fun _ _ => rfl)) (denPs_cons (den_bool' (denB_and (den_cmp (den_name "k" _ (by kernel_rfl) (by kernel_rfl)) (den_int _ _ _) rfl) (denB_one (den_cmp (den_bin (den_bin (den_name "x" _ (by kernel_rfl) (by kernel_rfl)) (den_int _ _ _)) (den_int _ _ _)) (den_int _ _ _) rfl)))) denPs_nil (fun _ => rfl)) (fun _ => rfl)) (fun _ => rfl))) (by kernel_rfl) (by kernel_rfl) (fun _ => rfl) rfl) dens_nil)) (fun _ _ => rfl)) dens_nil)) dens_nil) (fun _ _ => rfl)) (dens_freeze "cells" (dens_cons (den_append (den_tuple (denPs_cons (den_bin (den_len_name gl_len (by kernel_rfl) (by kernel_rfl) (by kernel_rfl)) (den_int _ _ _)) (denPs_cons (den_name "cells" _ (by kernel_rfl) (by kernel_rfl)) denPs_nil (fun _ => rfl)) (fun _ => rfl))) (by kernel_rfl) (by kernel_rfl) (fun _ => rfl) rfl) (dens_freeze "lines" (dens_cons (den_assign_compx [] (by kernel_rfl) (compScope (by kernel_rfl)) (it_val (den_name "lines" _ (by kernel_rfl) (by kernel_rfl)) (by constructor)) (tgc_tuple (tgcs_cons (tgc_name (by kernel_rfl)) (tgcs_cons (tgc_name (by kernel_rfl)) tgcs_nil (fun _ => rfl)) (fun _ => rfl)) (fun _ => rfl) (fun _ => rfl)) ifs_nil (den_tuple (denPs_cons (den_name "head" _ (by kernel_rfl) (by kernel_rfl)) (denPs_cons (den_call gl_text (by kernel_rfl) (by kernel_rfl) ke_text (denPs_cons (den_name "cells" _ (by kernel_rfl) (by kernel_rfl)) denPs_nil (fun _ => rfl)) (fun _ _ => rfl) hT) denPs_nil (fun _ => rfl)) (fun _ => rfl))) (fun _ _ => rfl) (by kernel_rfl) rfl (by kernel_rfl)) (dens_cons (den_assign_compx [] (by kernel_rfl) (compScope (by kernel_rfl)) (it_val (den_name "lines" _ (by kernel_rfl) (by kernel_rfl)) (by constructor)) (tgc_tuple (tgcs_cons (tgc_name (by kernel_rfl)) (tgcs_cons (tgc_name (by kernel_rfl)) tgcs_nil (fun _ => rfl)) (fun _ => rfl)) (fun _ => rfl) (fun _ => rfl)) ifs_nil (den_tuple (denPs_cons (den_name "head" _ (by kernel_rfl) (by kernel_rfl)) (denPs_cons (den_len_name gl_len (by kernel_rfl) (by kernel_rfl) (by kernel_rfl)) denPs_nil (fun _ => rfl)) (fun _ => rfl))) (fun _ _ => rfl) (by kernel_rfl) rfl (by kernel_rfl)) (dens_freeze "document" (dens_freeze "sizes" (dens_cons (den_assign (den_name "document" _ (by kernel_rfl) (by kernel_rfl)) (.inl (by kernel_rfl)) (fun _ => rfl)) (dens_cons (den_for (it_val (den_list (denPs_cons (den_bin (den_int _ _ _) (den_bin (den_idx (den_name "numbers" _ (by kernel_rfl) (by kernel_rfl)) (den_int _ _ _) (fun _ _ => rfl)) (den_int _ _ _))) (denPs_cons (den_bin (den_int _ _ _) (den_bin (den_idx (den_name "numbers" _ (by kernel_rfl) (by kernel_rfl)) (den_int _ _ _) (fun _ _ => rfl)) (den_int _ _ _))) (denPs_cons (den_bin (den_int _ _ _) (den_bin (den_idx (den_name "numbers" _ (by kernel_rfl) (by kernel_rfl)) (den_int _ _ _) (fun _ _ => rfl)) (den_int _ _ _))) denPs_nil (fun _ => rfl)) (fun _ => rfl)) (fun _ => rfl))) (by constructor)) (tg_name (.inl (by kernel_rfl))) (dens_cons (den_assign_swap (names := ["sheet", "rows", "due"]) (es_val (den_call gl_diff (by kernel_rfl) (by kernel_rfl) ke_diff (denPs_cons (den_int _ _ _) (denPs_cons (den_name "column" _ (by kernel_rfl) (by kernel_rfl)) denPs_nil (fun _ => rfl)) (fun _ => rfl)) (fun _ _ => rfl) hC) (es_own (deno_list denPs_nil) (es_own (deno_list denPs_nil) es_nil (fun _ => rfl)) (fun _ => rfl)) (fun _ => rfl)) (fun x hx => kinds_in (l := ["sheet", "rows", "due"]) (by kernel_rfl) x hx) (fun env he => by cases env; cases he; rfl) (fun env he => by cases env; cases he; kernel_rfl)) (dens_cons (den_for (it_val (den_name "held" _ (by kernel_rfl) (by kernel_rfl)) (by constructor)) (tg_tuple (tgs_cons (tg_name (.inl (by kernel_rfl))) (tgs_cons (tg_name (.inl (by kernel_rfl))) tgs_nil (fun _ => rfl)) (fun _ => rfl)) (fun _ => rfl) (fun _ => rfl)) (dens_cons (den_ifX (denx_lentx (by kernel_rfl) (by kernel_rfl) (by kernel_rfl) (by kernel_rfl) me_get me_find me_fn me_keep (denPs_cons (den_name "head" _ (by kernel_rfl) (by kernel_rfl)) (denPs_cons (den_name "text" _ (by kernel_rfl) (by kernel_rfl)) denPs_nil (fun _ => rfl)) (fun _ => rfl)) (fun _ => rfl) (fun _ _ => rfl) (fun _ _ => _) (fun _ => rfl) hS) (den_none _ _) rfl (dens_cons (den_return (den_bool _ _ _)) dens_nil) dens_nil) dens_nil) (fun _ _ => rfl)) (dens_cons (den_for (it_val (den_name "sizes" _ (by kernel_rfl) (by kernel_rfl)) (by constructor)) (tg_tuple (tgs_cons (tg_name (.inl (by kernel_rfl))) (tgs_cons (tg_name (.inl (by kernel_rfl))) tgs_nil (fun _ => rfl)) (fun _ => rfl)) (fun _ => rfl) (fun _ => rfl)) (dens_cons (den_if (denT_not (denT_name (by kernel_rfl) (by kernel_rfl))) (dens_cons (den_append (den_tuple (denPs_cons (den_name "head" _ (by kernel_rfl) (by kernel_rfl)) (denPs_cons (den_name "size" _ (by kernel_rfl) (by kernel_rfl)) denPs_nil (fun _ => rfl)) (fun _ => rfl))) (by kernel_rfl) (by kernel_rfl) (fun _ => rfl) rfl) dens_nil) (dens_cons (den_for (it_range gl_range (by kernel_rfl) (denPs_cons (den_int _ _ _) (denPs_cons (den_call gl_max (by kernel_rfl) (by kernel_rfl) (keep_builtin _) (denPs_cons (den_int _ _ _) (denPs_cons (den_name "size" _ (by kernel_rfl) (by kernel_rfl)) denPs_nil (fun _ => rfl)) (fun _ => rfl)) (fun _ _ => rfl) spec_max) (denPs_cons (den_name "column" _ (by kernel_rfl) (by kernel_rfl)) denPs_nil (fun _ => rfl)) (fun _ => rfl)) (fun _ => rfl)) (fun _ _ => rfl) (by constructor)) (tg_name (.inl (by kernel_rfl))) (dens_cons (den_append (den_tuple (denPs_cons (den_ite (denT_cmp (den_name "at" _ (by kernel_rfl) (by kernel_rfl)) (den_int _ _ _) rfl) (den_name "head" _ (by kernel_rfl) (by kernel_rfl)) (den_str _ _ _)) (denPs_cons (den_call gl_min (by kernel_rfl) (by kernel_rfl) (keep_builtin _) (denPs_cons (den_name "column" _ (by kernel_rfl) (by kernel_rfl)) (denPs_cons (den_bin (den_name "size" _ (by kernel_rfl) (by kernel_rfl)) (den_name "at" _ (by kernel_rfl) (by kernel_rfl))) denPs_nil (fun _ => rfl)) (fun _ => rfl)) (fun _ _ => rfl) spec_min) denPs_nil (fun _ => rfl)) (fun _ => rfl))) (by kernel_rfl) (by kernel_rfl) (fun _ => rfl) rfl) dens_nil) (fun _ _ => rfl)) dens_nil)) dens_nil) (fun _ _ => rfl)) (dens_freeze "rows" (dens_freeze "due" (dens_cons (den_assign_swap (names := ["held", "sizes"]) (es_val (den_name "rows" _ (by kernel_rfl) (by kernel_rfl)) (es_val (den_name "due" _ (by kernel_rfl) (by kernel_rfl)) es_nil (fun _ => rfl)) (fun _ => rfl)) (fun x hx => kinds_in (l := ["held", "sizes"]) (by kernel_rfl) x hx) (fun env he => by cases env; cases he; rfl) (fun env he => by cases env; cases he; kernel_rfl)) (dens_cons (den_if (denT_cmp (den_ofO (deno_compx [] (by kernel_rfl) (compScope (by kernel_rfl)) (it_val (den_name "held" _ (by kernel_rfl) (by kernel_rfl)) (by constructor)) (tgc_tuple (tgcs_cons (tgc_name (by kernel_rfl)) (tgcs_cons (tgc_name (by kernel_rfl)) tgcs_nil (fun _ => rfl)) (fun _ => rfl)) (fun _ => rfl) (fun _ => rfl)) ifs_nil (den_tuple (denPs_cons (den_name "head" _ (by kernel_rfl) (by kernel_rfl)) (denPs_cons (den_call gl_read (by kernel_rfl) (by kernel_rfl) ke_read (denPs_cons (den_name "text" _ (by kernel_rfl) (by kernel_rfl)) denPs_nil (fun _ => rfl)) (fun _ _ => rfl) hR) denPs_nil (fun _ => rfl)) (fun _ => rfl))) (fun _ _ => rfl))) (den_name "sizes" _ (by kernel_rfl) (by kernel_rfl)) rfl) (dens_cons (den_return (den_bool _ _ _)) dens_nil) dens_nil) (dens_cons (den_if (denT_cmp (den_call gl_join (by kernel_rfl) (by kernel_rfl) ke_join (denPs_cons (den_name "held" _ (by kernel_rfl) (by kernel_rfl)) denPs_nil (fun _ => rfl)) (fun _ _ => rfl) hJ) (den_name "document" _ (by kernel_rfl) (by kernel_rfl)) rfl) (dens_cons (den_return (den_bool _ _ _)) dens_nil) dens_nil) dens_nil)))))))) (fun _ _ => rfl)) (dens_cons (den_return (den_bool _ _ _)) dens_nil)))))))))))))))
end
end Mine
end
section
set_option linter.unusedVariables false
namespace Mine
-- texts as lists of signs
def tx (l : List Nat) : Str := ⟨l.toArray⟩
theorem tx_inj {a b : List Nat} : (tx a = tx b) ↔ a = b := by
  unfold tx
  constructor
  · intro h; have := congrArg Str.cps h; simpa using this
  · intro h; rw [h]
theorem tx_beq (a b : List Nat) : (tx a == tx b) = (a == b) := by
  rw [Bool.eq_iff_iff]; simp [tx_inj]
theorem tx_append (a b : List Nat) : tx a ++ tx b = tx (a ++ b) := by
  show Str.append _ _ = _
  unfold Str.append tx; simp
theorem tx_length (a : List Nat) : (tx a).length = a.length := by unfold tx Str.length; simp
theorem tx_list (a : List Nat) : (tx a).cps.toList = a := by unfold tx; simp
theorem sign1_tx (c : Nat) : sign1 c = tx [c] := Eq.trans rfl rfl
theorem ofString_inj (a b : String) : (Str.ofString a = Str.ofString b) = (a = b) := by
  rw [Str.ofString_eq_toList, Str.ofString_eq_toList]
  apply propext
  constructor
  · intro h
    have h1 : a.toList.map Char.toNat = b.toList.map Char.toNat := by
      have := congrArg Str.cps h; simpa using this
    have h2 : a.toList = b.toList := List.map_inj_right (fun x y e => Char.ext (UInt32.toNat_inj.mp e)) |>.mp h1
    exact String.toList_inj.mp h2
  · intro h; rw [h]
theorem l_empty : (Str.ofString "" : Str) = tx [] := by decide +kernel
theorem l_zero : (Str.ofString "\x00" : Str) = tx [0] := by decide +kernel
theorem l_one : (Str.ofString "\x01" : Str) = tx [1] := by decide +kernel
theorem l_gt : (Str.ofString ">" : Str) = tx [62] := by decide +kernel
theorem l_zeroone : (Str.ofString "\x00\x01" : Str) = tx [0, 1] := by decide +kernel
-- names
theorem set_eq (ρ : Slots) (x y : Str) (v : SV) : (ρ.set x v) y = if y = x then some v else ρ y := Eq.trans rfl rfl
theorem getV_val {ρ : Slots} {x : Str} {a : AV} (h : ρ x = some (.val a)) : getV ρ x = some a := by unfold getV; rw [h]
theorem bind_some' {β γ : Type} (a : β) (f : β → Option γ) : (some a >>= f) = f a := Eq.trans rfl rfl
theorem thenA_next (G : Slots → Option (AFlow × Slots)) (ρ : Slots) : thenA G (.next, ρ) = G ρ := Eq.trans rfl rfl
theorem aug_str (a b : List Nat) (h : a.length + b.length ≤ 16777216) : augA .Add (.str (tx a)) (.str (tx b)) = some (.str (tx (a ++ b))) := by
  show (if (tx a).length + (tx b).length ≤ 16777216 then some (AV.str (tx a ++ tx b)) else none) = _
  rw [tx_length, tx_length, if_pos h, tx_append]
theorem bin_str (a b : List Nat) (h : a.length + b.length ≤ 16777216) : binA .Add (.str (tx a)) (.str (tx b)) = some (.str (tx (a ++ b))) := by
  show (if (tx a).length + (tx b).length ≤ 16777216 then some (AV.str (tx a ++ tx b)) else none) = _
  rw [tx_length, tx_length, if_pos h, tx_append]
theorem eq_str (a b : List Nat) : cmpA .Eq (.str (tx a)) (.str (tx b)) = some (a == b) := by
  show some (tx a == tx b) = _; rw [tx_beq]
theorem ne_str (a b : List Nat) : cmpA .NotEq (.str (tx a)) (.str (tx b)) = some (!(a == b)) := by
  show some (!(tx a == tx b)) = _; rw [tx_beq]
theorem getV_set (ρ : Slots) (x y : Str) (a : AV) : getV (ρ.set x (.val a)) y = if y = x then some a else getV ρ y := by
  unfold getV; rw [set_eq]; by_cases e : y = x
  · rw [if_pos e, if_pos e]
  · rw [if_neg e, if_neg e]
theorem getV_setO (ρ : Slots) (x y : Str) (l : OL) : getV (ρ.set x (.own l)) y = if y = x then none else getV ρ y := by
  unfold getV; rw [set_eq]; by_cases e : y = x
  · rw [if_pos e, if_pos e]
  · rw [if_neg e, if_neg e]
theorem getO_set (ρ : Slots) (x y : Str) (a : AV) : getO (ρ.set x (.val a)) y = if y = x then none else getO ρ y := by
  unfold getO; rw [set_eq]; by_cases e : y = x
  · rw [if_pos e, if_pos e]
  · rw [if_neg e, if_neg e]
theorem getO_setO (ρ : Slots) (x y : Str) (l : OL) : getO (ρ.set x (.own l)) y = if y = x then some l else getO ρ y := by
  unfold getO; rw [set_eq]; by_cases e : y = x
  · rw [if_pos e, if_pos e]
  · rw [if_neg e, if_neg e]
theorem truthN_val {ρ : Slots} {x : Str} {a : AV} (h : getV ρ x = some a) : truthN ρ x = truthA a := by
  unfold getV at h; unfold truthN
  split at h
  · rename_i v e; cases h; rw [e]
  · cases h
theorem truthN_set (ρ : Slots) (x y : Str) (a : AV) : truthN (ρ.set x (.val a)) y = if y = x then truthA a else truthN ρ y := by
  unfold truthN; rw [set_eq]; by_cases e : y = x
  · rw [if_pos e, if_pos e]
  · rw [if_neg e, if_neg e]
theorem thenA_ret (G : Slots → Option (AFlow × Slots)) (a : AV) (ρ : Slots) : thenA G (.ret a, ρ) = some (.ret a, ρ) := Eq.trans rfl rfl
theorem truth_bool (b : Bool) : truthA (.bool b) = some b := Eq.trans rfl rfl
theorem truth_str (l : List Nat) (h : l.length ≤ 16777216) : truthA (.str (tx l)) = some (l.length != 0) := by
  show (if (tx l).length ≤ 16777216 then some ((tx l).length != 0) else none) = _
  rw [tx_length, if_pos h]
theorem truth_int (i : Int) : truthA (.int i) = some (i != 0) := Eq.trans rfl rfl
theorem neg_int (i : Int) : negA (.int i) = some (.int (-i)) := Eq.trans rfl rfl
theorem map_some' {β γ : Type} (a : β) (f : β → γ) : (some a).map f = some (f a) := Eq.trans rfl rfl
theorem iter_lst (l : List AV) : iterA (.lst l) = some l := Eq.trans rfl rfl
theorem as_int (i : Int) : asInt (.int i) = some i := Eq.trans rfl rfl
theorem inStr_one (c : Nat) (l : List Nat) : inStr (tx [c]) (tx l) = l.contains c := by
  show (!(Builtin.Str.occurrences (tx l) ⟨#[c]⟩ 0 (tx l).length 1).isEmpty) = _
  rw [StrLaws.found_one, tx_list]
  simp [List.contains_eq_mem]
theorem idx_str (l : List Nat) (k : Nat) (hk : k < l.length) (hz : l.length ≤ 1000000) : idxA (.str (tx l)) (.int k) = some (.str (tx [l[k]])) := by
  unfold idxA
  simp only [AV.int?, bind_some', tx_list, itemL, sign1_tx]
  rw [if_pos ⟨by (first | lia | omega), by (first | lia | omega)⟩, if_pos (by (first | lia | omega))]
  simp [hk]
theorem len_str (l : List Nat) (hz : l.length ≤ 1000000) : lenF [.str (tx l)] = some (.int l.length) := by
  show (if (tx l).length ≤ 16777216 then some (AV.int (tx l).length) else none) = _
  rw [tx_length, if_pos (by (first | lia | omega))]
theorem lt_int' (a b : Int) : cmpA .Lt (.int a) (.int b) = some (decide (a < b)) := Eq.trans rfl rfl
theorem le_int' (a b : Int) : cmpA .LtE (.int a) (.int b) = some (decide (a ≤ b)) := Eq.trans rfl rfl
theorem eq_int' (a b : Int) : cmpA .Eq (.int a) (.int b) = some (a == b) := Eq.trans rfl rfl
theorem notin_str (a b : List Nat) : cmpA .NotIn (.str (tx a)) (.str (tx b)) = some (!inStr (tx a) (tx b)) := Eq.trans rfl rfl
theorem aug_int (a b : Int) : augA .Add (.int a) (.int b) = some (.int (a + b)) := Eq.trans rfl rfl
theorem ne_bool (a b : Bool) : cmpA .NotEq (.bool a) (.bool b) = some (!(a == b)) := Eq.trans rfl rfl
def asF (names : List Str) (F : Slots → Option (AFlow × Slots)) : List AV → Option AV := fun args => if args.length = names.length then (F (bindA names args)).map fun r => retA r.1 else none
def one1 (n : Str) (a : AV) : Slots := fun x => if x = n then some (.val a) else none
theorem getV_one (n y : Str) (a : AV) : getV (one1 n a) y = if y = n then some a else none := by
  unfold getV one1; by_cases e : y = n
  · rw [if_pos e, if_pos e]
  · rw [if_neg e, if_neg e]
theorem asF1 (n : Str) (F : Slots → Option (AFlow × Slots)) (a : AV) : asF [n] F [a] = (F (one1 n a)).map fun r => retA r.1 := by
  have hb : bindA [n] [a] = one1 n a := by
    funext x; unfold bindA one1; simp [List.lookup_cons]
    by_cases e : x = n
    · subst e; simp
    · have : (x == n) = false := by simpa using e
      rw [this, if_neg e]; rfl
  unfold asF
  rw [hb]; rfl
theorem bindS {β γ : Type} {x : Option β} {a : β} {f : β → Option γ} {r : Option γ} (h : x = some a) (k : f a = r) : (x >>= f) = r := by rw [h]; exact k
theorem iteT {β : Type} {x y r : β} (k : x = r) : (if (true = true) then x else y) = r := k
theorem iteF {β : Type} {x y r : β} (k : y = r) : (if (false = true) then x else y) = r := k
theorem getV_hit (ρ : Slots) (x : Str) (a : AV) : getV (ρ.set x (.val a)) x = some a := by rw [getV_set, if_pos rfl]
theorem sne {x y : String} (h : (x == y) = false) : (Str.ofString x) ≠ (Str.ofString y) := fun e => by rw [ofString_inj] at e; rw [e, beq_self_eq_true] at h; cases h
theorem getV_skip {ρ : Slots} {x y : String} {v : SV} {r : Option AV} (h : (x == y) = false) (k : getV ρ (Str.ofString x) = r) : getV (ρ.set (Str.ofString y) v) (Str.ofString x) = r := by
  unfold getV at k ⊢; rw [set_eq, if_neg (sne h)]; exact k
theorem set_hit (ρ : Slots) (x : Str) (v : SV) : (ρ.set x v) x = some v := by rw [set_eq, if_pos rfl]
theorem set_skip {ρ : Slots} {x y : String} {v : SV} {r : Option SV} (h : (x == y) = false) (k : ρ (Str.ofString x) = r) : (ρ.set (Str.ofString y) v) (Str.ofString x) = r := by
  rw [set_eq, if_neg (sne h)]; exact k
theorem thenS {G : Slots → Option (AFlow × Slots)} {ρ : Slots} {r : Option (AFlow × Slots)} (k : G ρ = r) : thenA G (.next, ρ) = r := k
theorem getO_hit (ρ : Slots) (x : Str) (l : OL) : getO (ρ.set x (.own l)) x = some l := by unfold getO; rw [set_eq, if_pos rfl]
theorem getO_skip {ρ : Slots} {x y : String} {v : SV} {r : Option OL} (h : (x == y) = false) (k : getO ρ (Str.ofString x) = r) : getO (ρ.set (Str.ofString y) v) (Str.ofString x) = r := by
  unfold getO at k ⊢; rw [set_eq, if_neg (sne h)]; exact k
theorem truthN_hit (ρ : Slots) (x : Str) (a : AV) : truthN (ρ.set x (.val a)) x = truthA a := by unfold truthN; rw [set_eq, if_pos rfl]
theorem truthN_skip {ρ : Slots} {x y : String} {v : SV} {r : Option Bool} (h : (x == y) = false) (k : truthN ρ (Str.ofString x) = r) : truthN (ρ.set (Str.ofString y) v) (Str.ofString x) = r := by
  unfold truthN at k ⊢; rw [set_eq, if_neg (sne h)]; exact k
theorem ne_empty (a : List Nat) : cmpA .NotEq (.str (tx a)) (.str (Str.ofString "")) = some (!(a == [])) := by rw [l_empty, ne_str]
theorem truthN_hitB (ρ : Slots) (x : Str) (b : Bool) : truthN (ρ.set x (.val (.bool b))) x = some b := by rw [truthN_hit]; rfl
theorem noneS {ρ : Slots} {r : Option (AFlow × Slots)} (k : some (.next, ρ) = r) : noneX (.none, ρ) = r := k
theorem ifP {β : Type} {p : Prop} {inst : Decidable p} {x y r : β} (h : p) (k : x = r) : (@ite β p inst x y) = r := by rw [if_pos h]; exact k
theorem mapS {β γ : Type} {x : Option β} {a : β} {f : β → γ} {r : Option γ} (h : x = some a) (k : some (f a) = r) : x.map f = r := by rw [h]; exact k
end Mine
end
section
set_option linter.unusedVariables false
set_option linter.unusedSimpArgs false
namespace Mine
theorem cut_str (l : List Nat) (lo hi : Option Int) (hz : l.length ≤ 1000000) : cutA (.str (tx l)) lo hi = some (.str (tx (cutL l lo hi))) := by
  show (if (tx l).length ≤ 16777216 then some (AV.str (cutS (tx l) lo hi)) else none) = _
  rw [tx_length, if_pos (by (first | lia | omega))]
  unfold cutS; rw [tx_list]; rfl
theorem clip_nat (n k : Nat) (h : k ≤ n) : clipAt n (k : Int) = k := by
  unfold clipAt
  rw [if_neg (Int.not_lt.mpr (Int.natCast_nonneg k)), Int.min_eq_left (Int.ofNat_le.mpr h), Int.max_eq_right (Int.natCast_nonneg k)]; rfl
theorem clip_over (n k : Nat) (h : n ≤ k) : clipAt n (k : Int) = n := by
  unfold clipAt
  rw [if_neg (Int.not_lt.mpr (Int.natCast_nonneg k)), Int.min_eq_right (Int.ofNat_le.mpr h), Int.max_eq_right (Int.natCast_nonneg n)]; rfl
theorem clip_m1 (n : Nat) : clipAt n (-1) = n - 1 := by
  cases n with
  | zero => rfl
  | succ n =>
    unfold clipAt
    rw [if_pos (by decide), show (-1 : Int) + ((n + 1 : Nat) : Int) = n by (first | lia | omega), Int.min_eq_left (Int.ofNat_le.mpr (Nat.le_succ n)), Int.max_eq_right (Int.natCast_nonneg n)]; rfl
theorem cut_take (l : List Nat) (k : Nat) : cutL l none (some (k : Int)) = l.take k := by
  unfold cutL
  simp only [Option.elim]
  rcases Nat.le_total k l.length with h | h
  · rw [clip_nat _ _ h]; simp
  · rw [clip_over _ _ h, List.take_of_length_le h]; simp
theorem cut_drop (l : List Nat) (k : Nat) : cutL l (some (k : Int)) none = l.drop k := by
  unfold cutL
  simp only [Option.elim]
  rcases Nat.le_total k l.length with h | h
  · rw [clip_nat _ _ h, List.take_of_length_le]; simp
  · rw [clip_over _ _ h, List.drop_of_length_le h]; simp
theorem cut_last (l : List Nat) : cutL l (some (-1)) none = l.drop (l.length - 1) := by
  unfold cutL
  simp only [Option.elim]
  rw [clip_m1, List.take_of_length_le]; simp
theorem cut_init (l : List Nat) : cutL l none (some (-1)) = l.take (l.length - 1) := by
  unfold cutL
  simp only [Option.elim]
  rw [clip_m1]; simp
theorem same_last {c : Nat} : ∀ {A B u v : List Nat}, A ++ c :: B = u ++ c :: v → c ∉ v → (c ∉ B → B = v) ∧ (c ∈ B → ∃ u', B = u' ++ c :: v)
  | [], B, [], v, h, hv => by
    simp only [List.nil_append, List.cons.injEq, true_and] at h
    exact ⟨fun _ => h, fun hb => (hv (h ▸ hb)).elim⟩
  | [], B, d :: u, v, h, hv => by
    simp only [List.nil_append, List.cons_append, List.cons.injEq] at h
    exact ⟨fun hb => (hb (by rw [h.2]; simp)).elim, fun _ => ⟨u, h.2⟩⟩
  | a :: A, B, [], v, h, hv => by
    simp only [List.nil_append, List.cons_append, List.cons.injEq] at h
    exact (hv (by rw [← h.2]; simp)).elim
  | a :: A, B, d :: u, v, h, hv => by
    simp only [List.cons_append, List.cons.injEq] at h
    exact same_last h.2 hv
theorem join_last {c : Nat} : ∀ (ps : List Str) {u v : List Nat}, (∀ p ∈ ps, c ∉ p.cps.toList) → (Str.join ⟨#[c]⟩ ps).cps.toList = u ++ c :: v → c ∉ v → ps.getLast? = some (tx v)
  | [], u, v, hp, h, hv => by simp [Str.join, Str.empty] at h
  | [x], u, v, hp, h, hv => by
    have h' : x.cps.toList = u ++ c :: v := h
    exact (hp x (by simp) (by rw [h']; simp)).elim
  | x :: y :: r, u, v, hp, h, hv => by
    have e : (Str.join ⟨#[c]⟩ (x :: y :: r)).cps.toList = x.cps.toList ++ c :: (Str.join ⟨#[c]⟩ (y :: r)).cps.toList := by
      show ((Str.append (Str.append x ⟨#[c]⟩) (Str.join ⟨#[c]⟩ (y :: r))).cps).toList = _
      simp [Str.append]
    rw [e] at h
    obtain ⟨h1, h2⟩ := same_last h hv
    by_cases hc : c ∈ (Str.join ⟨#[c]⟩ (y :: r)).cps.toList
    · obtain ⟨u', hu⟩ := h2 hc
      have := join_last (y :: r) (fun p hp' => hp p (List.mem_cons_of_mem _ hp')) hu hv
      rw [List.getLast?_cons_cons]; exact this
    · have hB := h1 hc
      cases r with
      | nil =>
        have hB' : y.cps.toList = v := hB
        simp only [List.getLast?_cons_cons, List.getLast?_singleton, Option.some.injEq]
        rw [← hB']; unfold tx; simp
      | cons z r =>
        exfalso
        apply hc
        have e' : (Str.join ⟨#[c]⟩ (y :: z :: r)).cps.toList = y.cps.toList ++ c :: (Str.join ⟨#[c]⟩ (z :: r)).cps.toList := by
          show ((Str.append (Str.append y ⟨#[c]⟩) (Str.join ⟨#[c]⟩ (z :: r))).cps).toList = _
          simp [Str.append]
        rw [e']; simp
theorem split_last (u v : List Nat) (hv : 0 ∉ v) : (Txt.split (tx (u ++ 0 :: v)) (tx [0])).getLast? = some (tx v) := by
  refine join_last (c := 0) _ (StrLaws.split_free _ 0) (u := u) ?_ hv
  have := StrLaws.join_split (tx (u ++ 0 :: v)) ⟨#[0]⟩
  show (Str.join ⟨#[0]⟩ (Txt.split (tx (u ++ 0 :: v)) ⟨#[0]⟩)).cps.toList = _
  rw [this, tx_list]
theorem splitF_eq (l : List Nat) (hz : l.length ≤ 1000000) : splitF [.str (tx l), .str (tx [0])] = some (.lst ((Txt.split (tx l) (tx [0])).map .str)) := by
  have h1 := StrLaws.occ_length_le (tx l) (tx [0]) 0 (tx l).length ((tx l).length + 1)
  show (if (tx [0]).length ≠ 0 ∧ (tx l).length ≤ 16777216 ∧ (Builtin.Str.partsBetween (tx l) (Builtin.Str.occurrences (tx l) (tx [0]) 0 (tx l).length ((tx l).length + 1)) (tx [0]).length).length ≤ 16777216 then some (AV.lst ((Txt.split (tx l) (tx [0])).map .str)) else none) = _
  refine if_pos ⟨by rw [tx_length]; simp, by rw [tx_length]; (first | lia | omega), ?_⟩
  rw [len_partsBetween]
  rw [tx_length] at h1 ⊢
  (first | lia | omega)
theorem idx_last (l : List AV) (a : AV) (h : l.getLast? = some a) (hz : l.length ≤ 100000000) : idxA (.lst l) (.int (-1)) = some a := by
  rw [idxA_lst, if_pos ⟨by decide, by decide⟩]
  unfold itemL
  rw [if_neg (by decide)]
  cases l with
  | nil => cases h
  | cons b r =>
    rw [List.getLast?_eq_getElem?] at h
    rw [List.length_cons] at h ⊢
    rw [if_pos (by (first | lia | omega)), show ((-1 : Int) + ((r.length + 1 : Nat) : Int)) = (r.length : Int) by (first | lia | omega), Int.toNat_natCast]
    exact h
inductive Runs (T : AV → Slots → Option Slots) (B : Slots → Option (AFlow × Slots)) : List AV → Slots → Slots → Prop
  | nil {ρ : Slots} : Runs T B [] ρ ρ
  | cons {x : AV} {xs : List AV} {ρ ρ₁ ρ' : Slots} : (T x ρ >>= B) = some (.next, ρ₁) → Runs T B xs ρ₁ ρ' → Runs T B (x :: xs) ρ ρ'
theorem Runs.append {T : AV → Slots → Option Slots} {B : Slots → Option (AFlow × Slots)} {xs ys : List AV} {ρ ρ₁ ρ' : Slots} (h : Runs T B xs ρ ρ₁) (g : Runs T B ys ρ₁ ρ') : Runs T B (xs ++ ys) ρ ρ' := by
  induction h with
  | nil => exact g
  | cons e _ ih => exact .cons e (ih g)
theorem Runs.forA {T : AV → Slots → Option Slots} {B : Slots → Option (AFlow × Slots)} {xs : List AV} {ρ ρ' : Slots} (h : Runs T B xs ρ ρ') : Mine.forA T B xs ρ = some (.next, ρ') := by
  induction h with
  | nil => rfl
  | cons e _ ih =>
    obtain ⟨ρ₀, e₀, e₁⟩ := bindO e
    simp only [Mine.forA, e₀, bind_some', e₁, ih]
end Mine
end
section
set_option linter.unusedVariables false
set_option linter.unusedSimpArgs false
set_option maxHeartbeats 1000000
namespace Mine
structure Cell where
  s : Nat
  m : Option Nat
  new : Bool
def mk : Option Nat → List Nat
  | none => []
  | some c => [c]
def cellA (c : Cell) : AV := .tup [.str (tx [c.s]), .str (tx (mk c.m)), .bool c.new]
def brk (cur : Option Nat) (c : Cell) : Bool := c.new || !(mk c.m == mk cur)
def close : Option Nat → List Nat
  | none => []
  | some _ => [1]
def opens : Option Nat → List Nat
  | none => []
  | some k => [0, k]
def stepE (cur : Option Nat) (c : Cell) : List Nat := (if brk cur c then close cur ++ opens c.m else []) ++ [c.s]
def encO : Option Nat → List Cell → List Nat
  | _, [] => []
  | cur, c :: r => stepE cur c ++ encO c.m r
def lastM : Option Nat → List Cell → Option Nat
  | cur, [] => cur
  | _, c :: r => lastM c.m r
def enc (cur : Option Nat) (C : List Cell) : List Nat := encO cur C ++ close (lastM cur C)
theorem mk_inj {a b : Option Nat} : (mk a == mk b) = (a == b) := by
  cases a <;> cases b <;> simp [mk]
theorem close_len (a : Option Nat) : (close a).length ≤ 1 := by cases a <;> simp [close]
theorem opens_len (a : Option Nat) : (opens a).length ≤ 2 := by cases a <;> simp [opens]
theorem stepE_len (cur : Option Nat) (c : Cell) : (stepE cur c).length ≤ 4 := by
  have := close_len cur; have := opens_len c.m
  unfold stepE; split <;> simp <;> (first | lia | omega)
theorem tt_close {ρ : Slots} {cur : Option Nat} (hm : getV ρ "mark" = some (.str (tx (mk cur)))) :
    (((getV ρ "mark" >>= fun a => (some (AV.str "")) >>= fun b => cmpA .NotEq a b)) >>= fun x => if x = true then (some (AV.str "\x01")) else (some (AV.str ""))) = some (.str (tx (close cur))) := by
  cases cur with
  | none => exact bindS (bindS hm (ne_empty [])) (iteF (by rw [l_empty]; rfl))
  | some c => exact bindS (bindS hm (ne_empty [c])) (iteT (by rw [l_one]; rfl))
theorem tt_open {ρ : Slots} {m : Option Nat} (hm : getV ρ "to" = some (.str (tx (mk m)))) :
    (((getV ρ "to" >>= fun a => (some (AV.str "")) >>= fun b => cmpA .NotEq a b)) >>= fun x => if x = true then (((some (AV.str "\x00")) >>= fun a => (getV ρ "to") >>= fun b => binA .Add a b)) else (some (AV.str ""))) = some (.str (tx (opens m))) := by
  cases m with
  | none => exact bindS (bindS hm (ne_empty [])) (iteF (by rw [l_empty]; rfl))
  | some c => exact bindS (bindS hm (ne_empty [c])) (iteT (bindS rfl (bindS hm (by rw [l_zero]; exact bin_str [0] [c] (by show 2 ≤ 16777216; decide)))))
theorem tt_last {ρ : Slots} {t : List Nat} {s : Nat} (h1 : getV ρ "text" = some (.str (tx t))) (h2 : getV ρ "sign" = some (.str (tx [s]))) (hz : t.length ≤ 1000004) : fText_k3 ρ = some (.next, ρ.set "text" (.val (.str (tx (t ++ [s]))))) :=
  bindS (bindS h1 (bindS h2 (bindS (aug_str t [s] (by simp only [List.length_singleton]; (first | lia | omega))) rfl))) rfl
theorem text_turn {ρ : Slots} {t : List Nat} {cur : Option Nat} (c : Cell) (h1 : ρ "text" = some (.val (.str (tx t)))) (h2 : ρ "mark" = some (.val (.str (tx (mk cur))))) (hz : t.length ≤ 1000000) :
    ∃ ρ', (fText_T4 (cellA c) ρ >>= fText_B5) = some (.next, ρ') ∧ ρ' "text" = some (.val (.str (tx (t ++ stepE cur c)))) ∧ ρ' "mark" = some (.val (.str (tx (mk c.m)))) := by
  obtain ⟨s, m, new⟩ := c
  obtain ⟨ρ₀, e₀, gt, gm, gs, go, gn⟩ : ∃ ρ₀, fText_T4 (cellA ⟨s, m, new⟩) ρ = some ρ₀ ∧ ρ₀ "text" = some (.val (.str (tx t))) ∧ ρ₀ "mark" = some (.val (.str (tx (mk cur)))) ∧ getV ρ₀ "sign" = some (.str (tx [s])) ∧ getV ρ₀ "to" = some (.str (tx (mk m))) ∧ truthN ρ₀ "new" = some new :=
    ⟨((ρ.set "sign" (.val (.str (tx [s])))).set "to" (.val (.str (tx (mk m))))).set "new" (.val (.bool new)), rfl, set_skip rfl (set_skip rfl (set_skip rfl h1)), set_skip rfl (set_skip rfl (set_skip rfl h2)),
      getV_skip rfl (getV_skip rfl (getV_hit _ _ _)), getV_skip rfl (getV_hit _ _ _), by rw [truthN_set, if_pos rfl]; rfl⟩
  have hte : ((truthN ρ₀ "new") >>= fun b => if b = true then some true else (((((getV ρ₀ "to") >>= fun a => (getV ρ₀ "mark") >>= fun b => cmpA .NotEq a b)) >>= fun b => if b = true then some true else (some false)))) = some (brk cur ⟨s, m, new⟩) := by
    cases new with
    | true => exact bindS gn (iteT rfl)
    | false =>
      refine bindS gn (iteF (bindS (bindS go (bindS (getV_val gm) (ne_str _ _))) ?_))
      show _ = some (!(mk m == mk cur))
      cases (mk m == mk cur) <;> rfl
  cases hb : brk cur ⟨s, m, new⟩ with
  | false =>
    rw [hb] at hte
    refine ⟨_, bindS e₀ (bindS (bindS hte (iteF rfl)) (tt_last (getV_val gt) gs (by (first | lia | omega)))), ?_, set_skip rfl ?_⟩
    · rw [set_hit]; unfold stepE; rw [hb]; rfl
    · rw [gm]
      have : (mk m == mk cur) = true := by
        unfold brk at hb; revert hb; cases (mk m == mk cur) <;> simp
      rw [eq_of_beq this]
  | true =>
    rw [hb] at hte
    have hc := close_len cur
    have ho := opens_len m
    refine ⟨_, bindS e₀ (bindS (bindS hte (iteT (bindS (bindS (getV_val gt) (bindS (tt_close (getV_val gm)) (bindS (aug_str t (close cur) (by (first | lia | omega))) rfl))) (bindS (bindS (getV_hit _ _ _) (bindS (tt_open (getV_skip rfl go)) (bindS (aug_str (t ++ close cur) (opens m) (by simp only [List.length_append]; (first | lia | omega))) rfl)))
      (bindS (bindS (getV_skip rfl (getV_skip rfl go)) rfl) rfl))))) (tt_last (getV_skip rfl (getV_hit _ _ _)) (getV_skip rfl (getV_skip rfl (getV_skip rfl gs))) (by simp only [List.length_append]; (first | lia | omega)))), ?_, set_skip rfl (set_hit _ _ _)⟩
    rw [set_hit]; unfold stepE; rw [hb]; simp only [if_true, List.append_assoc]
theorem text_loop : ∀ (C : List Cell) (ρ : Slots) (t : List Nat) (cur : Option Nat), ρ "text" = some (.val (.str (tx t))) → ρ "mark" = some (.val (.str (tx (mk cur)))) → t.length + 4 * C.length ≤ 1000000 →
    ∃ ρ', forA fText_T4 fText_B5 (C.map cellA) ρ = some (.next, ρ') ∧ ρ' "text" = some (.val (.str (tx (t ++ encO cur C)))) ∧ ρ' "mark" = some (.val (.str (tx (mk (lastM cur C)))))
  | [], ρ, t, cur, h1, h2, _ => ⟨ρ, rfl, by simp [encO, h1], h2⟩
  | c :: r, ρ, t, cur, h1, h2, hz => by
    simp only [List.length_cons] at hz
    obtain ⟨ρ₁, e₁, a₁, b₁⟩ := text_turn c h1 h2 (by (first | lia | omega))
    have hs := stepE_len cur c
    obtain ⟨ρ₂, e₂, a₂, b₂⟩ := text_loop r ρ₁ _ _ a₁ b₁ (by simp only [List.length_append]; (first | lia | omega))
    refine ⟨ρ₂, ?_, by rw [a₂]; simp [encO], b₂⟩
    obtain ⟨ρ₀, e₀, e₁'⟩ := bindO e₁
    simp only [List.map_cons, forA, e₀, bind_some', e₁', e₂]
theorem enc_len : ∀ (C : List Cell) (cur : Option Nat), (encO cur C).length ≤ 4 * C.length
  | [], _ => by simp [encO]
  | c :: r, cur => by
    have := stepE_len cur c
    have := enc_len r c.m
    simp [encO]; (first | lia | omega)
noncomputable def GT : List AV → Option AV := asF ["cells"] fText
theorem GT_eq (C : List Cell) (hz : C.length ≤ 10000) : GT [.lst (C.map cellA)] = some (.str (tx (enc none C))) := by
  unfold GT
  rw [asF1]
  unfold fText fText_k7
  obtain ⟨ρ', e, a, b⟩ := text_loop C (setMany (one1 "cells" (.lst (C.map cellA))) ["text", "mark"] [.val (.str (tx [])), .val (.str (tx (mk none)))]) [] none (by simp [setMany, set_eq, ofString_inj]) (by simp [setMany, set_eq, ofString_inj]) (by simp; (first | lia | omega))
  have hl := enc_len C none
  simp only [setMany, mk] at e
  simp [thenA, l_empty, l_one, getV, setMany, set_eq, ofString_inj, iterA, bind_some', one1]
  rw [e]
  simp [thenA, fText_k6, getV, a, b, l_empty, l_one, ne_str]
  cases h : lastM none C <;> simp (disch := first | (simp; done) | (simp; (first | lia | omega)) | (first | lia | omega) | decide) [mk, retA, enc, close, h, bin_str, thenA]
end Mine
end
section
set_option linter.unusedVariables false
set_option linter.unusedSimpArgs false
set_option maxHeartbeats 1000000
namespace Mine
def readL : List Nat → Bool → Nat → Option Nat
  | [], false, n => some n
  | [], true, _ => none
  | 0 :: _ :: l, false, n => readL l true n
  | 1 :: l, true, n => readL l false n
  | 0 :: _, _, _ => none
  | 1 :: _, _, _ => none
  | _ :: l, b, n => readL l b (n + 1)
structure ReadSt (ρ : Slots) (t : List Nat) (k n : Nat) (b : Bool) : Prop where
  text : getV ρ "text" = some (.str (tx t))
  seen : getV ρ "seen" = some (.int n)
  at_ : getV ρ "at" = some (.int k)
  inside : getV ρ "inside" = some (.bool b)
theorem notin_01 (c : Nat) : cmpA .NotIn (.str (tx [c])) (.str (Str.ofString "\x00\x01")) = some (!([0, 1] : List Nat).contains c) := by
  rw [l_zeroone, notin_str, inStr_one]
theorem eq_one (c : Nat) : (cmpA .Eq (.str (tx [c])) (.str (Str.ofString "\x01"))).map AV.bool = some (.bool (c == 1)) := by
  rw [l_one, eq_str]; simp
theorem rd_cond {ρ : Slots} {t : List Nat} {k n : Nat} {b : Bool} (st : ReadSt ρ t k n b) (hz : t.length ≤ 1000000) : fRead_C3 ρ = some (decide ((k : Int) < (t.length : Int))) := by
  obtain ⟨h1, h2, h3, h4⟩ := st
  have hl := len_str t hz
  have ht := lt_int' k t.length
  unfold fRead_C3
  (repeat' first | with_reducible exact Mine.getV_hit _ _ _ | with_reducible exact Mine.getO_hit _ _ _ | with_reducible assumption | with_reducible refine Mine.getV_skip ?_ ?_ | with_reducible refine Mine.getO_skip ?_ ?_ | with_reducible exact Mine.truthN_hitB _ _ _ | with_reducible refine Mine.truthN_skip ?_ ?_ | with_reducible exact Mine.aug_int _ _ | with_reducible exact Mine.truth_bool _ | with_reducible exact Mine.iter_lst _ | with_reducible refine Mine.iteT ?_ | with_reducible refine Mine.iteF ?_ | with_reducible apply Mine.bindS | with_reducible refine Mine.thenS ?_ | with_reducible exact Mine.thenA_ret _ _ _ | with_reducible refine Mine.noneS ?_ | with_reducible apply Mine.ifP | with_reducible rfl | exact Nat.le_of_ble_eq_true rfl | exact ⟨rfl, Nat.le_of_ble_eq_true rfl⟩ | decide)
theorem rd_open {ρ : Slots} {t : List Nat} {k n : Nat} (st : ReadSt ρ t k n false) (hi : idxA (.str (tx t)) (.int k) = some (.str (tx [0]))) :
    fRead_B4 ρ = some (.next, ((ρ.set "inside" (.val (.bool true))).set "at" (.val (.int (k + 1)))).set "at" (.val (.int (k + 1 + 1)))) := by
  obtain ⟨h1, h2, h3, h4⟩ := st
  have hn : cmpA .NotIn (.str (tx [0])) (.str (Str.ofString "\x00\x01")) = some false := notin_01 0
  have he : (cmpA .Eq (.str (tx [0])) (.str (Str.ofString "\x01"))).map AV.bool = some (.bool false) := eq_one 0
  have hv : cmpA .NotEq (.bool false) (.bool false) = some false := ne_bool _ _
  have hb : (truthA (.bool false)).map (fun b => AV.bool (!b)) = some (.bool true) := rfl
  unfold fRead_B4 fRead_k1 fRead_k2
  (repeat' first | with_reducible exact Mine.getV_hit _ _ _ | with_reducible exact Mine.getO_hit _ _ _ | with_reducible assumption | with_reducible refine Mine.getV_skip ?_ ?_ | with_reducible refine Mine.getO_skip ?_ ?_ | with_reducible exact Mine.truthN_hitB _ _ _ | with_reducible refine Mine.truthN_skip ?_ ?_ | with_reducible exact Mine.aug_int _ _ | with_reducible exact Mine.truth_bool _ | with_reducible exact Mine.iter_lst _ | with_reducible refine Mine.iteT ?_ | with_reducible refine Mine.iteF ?_ | with_reducible apply Mine.bindS | with_reducible refine Mine.thenS ?_ | with_reducible exact Mine.thenA_ret _ _ _ | with_reducible refine Mine.noneS ?_ | with_reducible apply Mine.ifP | with_reducible rfl | exact Nat.le_of_ble_eq_true rfl | exact ⟨rfl, Nat.le_of_ble_eq_true rfl⟩ | decide)
theorem rd_close {ρ : Slots} {t : List Nat} {k n : Nat} (st : ReadSt ρ t k n true) (hi : idxA (.str (tx t)) (.int k) = some (.str (tx [1]))) :
    fRead_B4 ρ = some (.next, ((ρ.set "inside" (.val (.bool false))).set "at" (.val (.int (k + 0)))).set "at" (.val (.int (k + 0 + 1)))) := by
  obtain ⟨h1, h2, h3, h4⟩ := st
  have hn : cmpA .NotIn (.str (tx [1])) (.str (Str.ofString "\x00\x01")) = some false := notin_01 1
  have he : (cmpA .Eq (.str (tx [1])) (.str (Str.ofString "\x01"))).map AV.bool = some (.bool true) := eq_one 1
  have hv : cmpA .NotEq (.bool true) (.bool true) = some false := ne_bool _ _
  have hb : (truthA (.bool true)).map (fun b => AV.bool (!b)) = some (.bool false) := rfl
  unfold fRead_B4 fRead_k1 fRead_k2
  (repeat' first | with_reducible exact Mine.getV_hit _ _ _ | with_reducible exact Mine.getO_hit _ _ _ | with_reducible assumption | with_reducible refine Mine.getV_skip ?_ ?_ | with_reducible refine Mine.getO_skip ?_ ?_ | with_reducible exact Mine.truthN_hitB _ _ _ | with_reducible refine Mine.truthN_skip ?_ ?_ | with_reducible exact Mine.aug_int _ _ | with_reducible exact Mine.truth_bool _ | with_reducible exact Mine.iter_lst _ | with_reducible refine Mine.iteT ?_ | with_reducible refine Mine.iteF ?_ | with_reducible apply Mine.bindS | with_reducible refine Mine.thenS ?_ | with_reducible exact Mine.thenA_ret _ _ _ | with_reducible refine Mine.noneS ?_ | with_reducible apply Mine.ifP | with_reducible rfl | exact Nat.le_of_ble_eq_true rfl | exact ⟨rfl, Nat.le_of_ble_eq_true rfl⟩ | decide)
theorem rd_sign {ρ : Slots} {t : List Nat} {k n : Nat} {b : Bool} {c : Nat} (st : ReadSt ρ t k n b) (hi : idxA (.str (tx t)) (.int k) = some (.str (tx [c]))) (c0 : c ≠ 0) (c1 : c ≠ 1) :
    fRead_B4 ρ = some (.next, (ρ.set "seen" (.val (.int (n + 1)))).set "at" (.val (.int (k + 1)))) := by
  obtain ⟨h1, h2, h3, h4⟩ := st
  have hn := notin_01 c
  rw [show (!([0, 1] : List Nat).contains c) = true by simp [c0, c1]] at hn
  unfold fRead_B4 fRead_k2
  (repeat' first | with_reducible exact Mine.getV_hit _ _ _ | with_reducible exact Mine.getO_hit _ _ _ | with_reducible assumption | with_reducible refine Mine.getV_skip ?_ ?_ | with_reducible refine Mine.getO_skip ?_ ?_ | with_reducible exact Mine.truthN_hitB _ _ _ | with_reducible refine Mine.truthN_skip ?_ ?_ | with_reducible exact Mine.aug_int _ _ | with_reducible exact Mine.truth_bool _ | with_reducible exact Mine.iter_lst _ | with_reducible refine Mine.iteT ?_ | with_reducible refine Mine.iteF ?_ | with_reducible apply Mine.bindS | with_reducible refine Mine.thenS ?_ | with_reducible exact Mine.thenA_ret _ _ _ | with_reducible refine Mine.noneS ?_ | with_reducible apply Mine.ifP | with_reducible rfl | exact Nat.le_of_ble_eq_true rfl | exact ⟨rfl, Nat.le_of_ble_eq_true rfl⟩ | decide)
theorem read_loop (t : List Nat) (r : Nat) (hz : t.length ≤ 1000000) (fuel : Nat) : ∀ (l p : List Nat) (ρ : Slots) (n : Nat) (b : Bool), t = p ++ l → l.length < fuel → ReadSt ρ t p.length n b → readL l b n = some r →
    ∃ ρ', whileA fRead_C3 fRead_B4 fuel ρ = some (.next, ρ') ∧ ReadSt ρ' t t.length r false := by
  induction fuel with
  | zero => intro l p ρ n b ht hf; (first | lia | omega)
  | succ fuel read_loop =>
  intro l p ρ n b ht hf h hr
  have hC := rd_cond h hz
  cases l with
  | nil =>
    cases b <;> cases hr
    rw [List.append_nil] at ht
    subst ht
    rw [decide_eq_false (by (first | lia | omega))] at hC
    exact ⟨ρ, by unfold whileA; exact bindS hC (iteF rfl), h⟩
  | cons c l =>
    have hl : t.length = p.length + (l.length + 1) := by rw [ht, List.length_append, List.length_cons]
    have hk : p.length < t.length := by (first | lia | omega)
    rw [decide_eq_true (by (first | lia | omega))] at hC
    have hi := idx_str t p.length hk hz
    rw [show t[p.length]'hk = c by simp [ht]] at hi
    rw [List.length_cons] at hf
    have go : ∀ (ρ₁ ρ' : Slots), fRead_B4 ρ = some (.next, ρ₁) → whileA fRead_C3 fRead_B4 fuel ρ₁ = some (.next, ρ') → whileA fRead_C3 fRead_B4 (fuel + 1) ρ = some (.next, ρ') := fun ρ₁ ρ' e1 e2 => by
      unfold whileA; exact bindS hC (iteT (bindS e1 e2))
    obtain ⟨h1, h2, h3, h4⟩ := id h
    by_cases c0 : c = 0
    · subst c0
      cases b with
      | true => simp [readL] at hr
      | false =>
        cases l with
        | nil => simp [readL] at hr
        | cons m l =>
          simp only [readL] at hr
          obtain ⟨ρ', e, st⟩ := read_loop l (p ++ [0, m]) (((ρ.set "inside" (.val (.bool true))).set "at" (.val (.int (p.length + 1)))).set "at" (.val (.int (p.length + 1 + 1)))) n true (by rw [ht, List.append_assoc]; rfl) (by rw [List.length_cons] at hf; (first | lia | omega))
            ⟨getV_skip rfl (getV_skip rfl (getV_skip rfl h1)), getV_skip rfl (getV_skip rfl (getV_skip rfl h2)), by rw [List.length_append]; exact getV_hit _ _ _, getV_skip rfl (getV_skip rfl (getV_hit _ _ _))⟩ hr
          exact ⟨ρ', go _ _ (rd_open h hi) e, st⟩
    · by_cases c1 : c = 1
      · subst c1
        cases b with
        | false => simp [readL] at hr
        | true =>
          simp only [readL] at hr
          obtain ⟨ρ', e, st⟩ := read_loop l (p ++ [1]) (((ρ.set "inside" (.val (.bool false))).set "at" (.val (.int (p.length + 0)))).set "at" (.val (.int (p.length + 0 + 1)))) n false (by rw [ht, List.append_assoc]; rfl) (by (first | lia | omega))
            ⟨getV_skip rfl (getV_skip rfl (getV_skip rfl h1)), getV_skip rfl (getV_skip rfl (getV_skip rfl h2)), by rw [List.length_append]; exact getV_hit _ _ _, getV_skip rfl (getV_skip rfl (getV_hit _ _ _))⟩ hr
          exact ⟨ρ', go _ _ (rd_close h hi) e, st⟩
      · have hr' : readL l b (n + 1) = some r := by
          rw [readL] at hr
          · exact hr
          all_goals simp_all
        obtain ⟨ρ', e, st⟩ := read_loop l (p ++ [c]) ((ρ.set "seen" (.val (.int (n + 1)))).set "at" (.val (.int (p.length + 1)))) (n + 1) b (by rw [ht, List.append_assoc]; rfl) (by (first | lia | omega))
          ⟨getV_skip rfl (getV_skip rfl h1), getV_skip rfl (getV_hit _ _ _), by rw [List.length_append]; exact getV_hit _ _ _, getV_skip rfl (getV_skip rfl h4)⟩ hr'
        exact ⟨ρ', go _ _ (rd_sign h hi c0 c1) e, st⟩
noncomputable def GR : List AV → Option AV := asF ["text"] fRead
theorem GR_eq (t : List Nat) (n : Nat) (hz : t.length ≤ 90000) (h : readL t false 0 = some n) : GR [.str (tx t)] = some (.int n) := by
  unfold GR
  rw [asF1]
  unfold fRead fRead_k6
  obtain ⟨ρ', e, h1, h2, h3, h4⟩ := read_loop t n (by (first | lia | omega)) 100000 t [] (setMany (one1 "text" (.str (tx t))) ["seen", "at", "inside"] [.val (.int 0), .val (.int 0), .val (.bool false)]) 0 false rfl (by (first | lia | omega))
    ⟨by simp [setMany, getV_set, ofString_inj, getV_one], by simp [setMany, getV_set, ofString_inj], by simp [setMany, getV_set, ofString_inj], by simp [setMany, getV_set, ofString_inj]⟩ h
  simp only [setMany] at e
  simp [thenA, setMany, bind_some']
  rw [e]
  simp [thenA, fRead_k5, truthN_val h4, truth_bool, h1, h2, h3, h4, retA]
end Mine
end
section
set_option linter.unusedVariables false
set_option linter.unusedSimpArgs false
set_option maxHeartbeats 1000000
namespace Mine
abbrev Row := AV × List Nat
def rowA (r : Row) : AV := .tup [r.1, .str (tx r.2)]
def NoGt (h : AV) : Prop := cmpA .Eq h (.str (tx [62])) = some false
theorem join_T (h : AV) (t : List Nat) (ρ : Slots) : fJoin_T3 (rowA (h, t)) ρ = some ((ρ.set "head" (.val h)).set "text" (.val (.str (tx t)))) := Eq.trans rfl rfl
theorem join_turn0 {ρ : Slots} {l : List Row} {h : AV} {t : List Nat} (hl : getO ρ "lines" = some ⟨none, l.map rowA⟩) (hz : l.length ≤ 100000) (hh : NoGt h) :
    ∃ ρ', (fJoin_T3 (rowA (h, t)) ρ >>= fJoin_B4) = some (.next, ρ') ∧ getO ρ' "lines" = some ⟨none, (l ++ [(h, t)]).map rowA⟩ := by
  have hh' : cmpA .Eq h (.str (Str.ofString ">")) = some false := by rw [l_gt]; exact hh
  have hz1 : (l.map rowA).length ≤ 1000000 := by rw [List.length_map]; (first | lia | omega)
  have e : fJoin_B4 ((ρ.set "head" (.val h)).set "text" (.val (.str (tx t)))) = some (.next, ((ρ.set "head" (.val h)).set "text" (.val (.str (tx t)))).set "lines" (.own ⟨none, l.map rowA ++ [AV.tup [h, .str (tx t)]]⟩)) := by
    unfold fJoin_B4 fJoin_k2
    (repeat' first | with_reducible exact Mine.getV_hit _ _ _ | with_reducible exact Mine.getO_hit _ _ _ | with_reducible assumption | with_reducible refine Mine.getV_skip ?_ ?_ | with_reducible refine Mine.getO_skip ?_ ?_ | with_reducible exact Mine.truthN_hitB _ _ _ | with_reducible refine Mine.truthN_skip ?_ ?_ | with_reducible exact Mine.aug_int _ _ | with_reducible exact Mine.truth_bool _ | with_reducible exact Mine.iter_lst _ | with_reducible refine Mine.iteT ?_ | with_reducible refine Mine.iteF ?_ | with_reducible apply Mine.bindS | with_reducible refine Mine.thenS ?_ | with_reducible exact Mine.thenA_ret _ _ _ | with_reducible refine Mine.noneS ?_ | with_reducible apply Mine.ifP | with_reducible rfl | exact Nat.le_of_ble_eq_true rfl | exact ⟨rfl, Nat.le_of_ble_eq_true rfl⟩ | decide)
  exact ⟨_, bindS (join_T ..) e, by rw [List.map_append]; exact getO_hit _ _ _⟩
theorem lastL_row (l : List Row) (r : Row) : lastL ((l ++ [r]).map rowA) = some (l.map rowA, rowA r) := by
  rw [List.map_append]; exact lastL_snoc _ _
def joinS (ρ : Slots) (h0 : AV) (a t x : List Nat) (l : List Row) : Slots :=
  ((((((ρ.set "head" (.val (.str (tx [62])))).set "text" (.val (.str (tx t)))).set "lines" (.own ⟨none, l.map rowA⟩)).set "head" (.val h0)).set "ahead" (.val (.str (tx a)))).set "text" (.val (.str (tx x)))).set "lines" (.own ⟨none, l.map rowA ++ [rowA (h0, x)]⟩)
theorem join_tail {ρ : Slots} {l : List Row} {h0 : AV} {a t x : List Nat} (hl : getO ρ "lines" = some ⟨none, (l ++ [(h0, a)]).map rowA⟩) (hz : l.length ≤ 100000)
    (hk : fJoin_k1 (((((ρ.set "head" (.val (.str (tx [62])))).set "text" (.val (.str (tx t)))).set "lines" (.own ⟨none, l.map rowA⟩)).set "head" (.val h0)).set "ahead" (.val (.str (tx a)))) =
      some (.next, ((((((ρ.set "head" (.val (.str (tx [62])))).set "text" (.val (.str (tx t)))).set "lines" (.own ⟨none, l.map rowA⟩)).set "head" (.val h0)).set "ahead" (.val (.str (tx a)))).set "text" (.val (.str (tx x)))))) :
    (fJoin_T3 (rowA (.str (tx [62]), t)) ρ >>= fJoin_B4) = some (.next, joinS ρ h0 a t x l) := by
  have e0 : cmpA .Eq (.str (tx [62])) (.str (Str.ofString ">")) = some true := by rw [l_gt, eq_str]; rfl
  have hz1 : (l.map rowA).length ≤ 1000000 := by rw [List.length_map]; (first | lia | omega)
  have hz2 : ((l ++ [(h0, a)]).map rowA).length ≤ 1000000 := by rw [List.length_map, List.length_append, List.length_singleton]; (first | lia | omega)
  have hlast := lastL_row l (h0, a)
  have es : ∀ ρ : Slots, (seqA (rowA (h0, a)) >>= fun l => if l.length = 2 then (headTg (fun a ρ => some (Slots.set ρ "head" (.val a))) (headTg (fun a ρ => some (Slots.set ρ "ahead" (.val a))) (fun _ ρ => some ρ))) l ρ else none) = some ((ρ.set "head" (.val h0)).set "ahead" (.val (.str (tx a)))) := fun _ => Eq.trans rfl rfl
  have es' := es (((ρ.set "head" (.val (.str (tx [62])))).set "text" (.val (.str (tx t)))).set "lines" (.own ⟨none, l.map rowA⟩))
  clear es
  refine bindS (join_T ..) ?_
  show _ = some (AFlow.next, Slots.set _ "lines" (.own ⟨none, l.map rowA ++ [AV.tup [h0, .str (tx x)]]⟩))
  unfold fJoin_B4 fJoin_k2
  (repeat' first | with_reducible exact Mine.getV_hit _ _ _ | with_reducible exact Mine.getO_hit _ _ _ | with_reducible assumption | with_reducible refine Mine.getV_skip ?_ ?_ | with_reducible refine Mine.getO_skip ?_ ?_ | with_reducible exact Mine.truthN_hitB _ _ _ | with_reducible refine Mine.truthN_skip ?_ ?_ | with_reducible exact Mine.aug_int _ _ | with_reducible exact Mine.truth_bool _ | with_reducible exact Mine.iter_lst _ | with_reducible refine Mine.iteT ?_ | with_reducible refine Mine.iteF ?_ | with_reducible apply Mine.bindS | with_reducible refine Mine.thenS ?_ | with_reducible exact Mine.thenA_ret _ _ _ | with_reducible refine Mine.noneS ?_ | with_reducible apply Mine.ifP | with_reducible rfl | exact Nat.le_of_ble_eq_true rfl | exact ⟨rfl, Nat.le_of_ble_eq_true rfl⟩ | decide)
theorem joinS_lines (ρ : Slots) (h0 : AV) (a t x : List Nat) (l : List Row) : getO (joinS ρ h0 a t x l) "lines" = some ⟨none, (l ++ [(h0, x)]).map rowA⟩ := by
  unfold joinS; rw [List.map_append]; exact getO_hit _ _ _
theorem neg_one : negA (.int 1) = some (.int (-1)) := rfl
theorem join_k1a {ρ : Slots} {a t : List Nat} (ga : getV ρ "ahead" = some (.str (tx a))) (gt : getV ρ "text" = some (.str (tx t))) (ha : a.length ≤ 1000000) (ht : t.length ≤ 1000000) (hn : a.drop (a.length - 1) ≠ [1]) : fJoin_k1 ρ = some (.next, ρ.set "text" (.val (.str (tx (a ++ t))))) := by
  have c1 := cut_str a (some (-1)) none ha
  rw [cut_last] at c1
  have n1 : cmpA .NotEq (.str (tx (a.drop (a.length - 1)))) (.str (Str.ofString "\x01")) = some true := by
    rw [l_one, ne_str, beq_eq_false_iff_ne.mpr hn]; rfl
  have as1 : (asInt (.int (-1))).map some = some (some (-1 : Int)) := rfl
  have b1 := bin_str a t (by (first | lia | omega))
  have n0 := neg_one
  unfold fJoin_k1
  (repeat' first | with_reducible exact Mine.getV_hit _ _ _ | with_reducible exact Mine.getO_hit _ _ _ | with_reducible assumption | with_reducible refine Mine.getV_skip ?_ ?_ | with_reducible refine Mine.getO_skip ?_ ?_ | with_reducible exact Mine.truthN_hitB _ _ _ | with_reducible refine Mine.truthN_skip ?_ ?_ | with_reducible exact Mine.aug_int _ _ | with_reducible exact Mine.truth_bool _ | with_reducible exact Mine.iter_lst _ | with_reducible refine Mine.iteT ?_ | with_reducible refine Mine.iteF ?_ | with_reducible apply Mine.bindS | with_reducible refine Mine.thenS ?_ | with_reducible exact Mine.thenA_ret _ _ _ | with_reducible refine Mine.noneS ?_ | with_reducible apply Mine.ifP | with_reducible rfl | exact Nat.le_of_ble_eq_true rfl | exact ⟨rfl, Nat.le_of_ble_eq_true rfl⟩ | decide)
theorem join_k1b {ρ : Slots} {a t b c : List Nat} {m : Nat} (ga : getV ρ "ahead" = some (.str (tx a))) (gt : getV ρ "text" = some (.str (tx (0 :: m :: t)))) (ha : a.length ≤ 1000000) (ht : t.length + 2 ≤ 1000000) (h1 : a.drop (a.length - 1) = [1]) (h2 : a.take (a.length - 1) = b) (hc : (m :: c).length ≤ 1000000)
    (hi : idxA (.lst ((Txt.split (tx a) (tx [0])).map AV.str)) (.int (-1)) = some (.str (tx (m :: c)))) : fJoin_k1 ρ = some (.next, ρ.set "text" (.val (.str (tx (b ++ t))))) := by
  have ht' : (0 :: m :: t).length ≤ 1000000 := ht
  have c1 := cut_str a (some (-1)) none ha
  rw [cut_last, h1] at c1
  have c2 := cut_str a none (some (-1)) ha
  rw [cut_init, h2] at c2
  have c3 := cut_str (m :: c) none (some 1) hc
  rw [show cutL (m :: c) none (some 1) = [m] from cut_take _ 1] at c3
  have c4 := cut_str (0 :: m :: t) none (some 2) ht'
  rw [show cutL (0 :: m :: t) none (some 2) = [0, m] from cut_take _ 2] at c4
  have c5 := cut_str (0 :: m :: t) (some 2) none ht'
  rw [show cutL (0 :: m :: t) (some 2) none = t from cut_drop _ 2] at c5
  have n1 : cmpA .NotEq (.str (tx [1])) (.str (Str.ofString "\x01")) = some false := by rw [l_one, ne_str]; rfl
  have as1 : (asInt (.int (-1))).map some = some (some (-1 : Int)) := rfl
  have as2 : (asInt (.int 1)).map some = some (some (1 : Int)) := rfl
  have as3 : (asInt (.int 2)).map some = some (some (2 : Int)) := rfl
  have sa : strArg (.str (tx a)) = some (tx a) := rfl
  have sp : splitF [.str (tx a), .str (Str.ofString "\x00")] = some (.lst ((Txt.split (tx a) (tx [0])).map .str)) := by rw [l_zero]; exact splitF_eq a ha
  have b1 : binA .Add (.str (Str.ofString "\x00")) (.str (tx [m])) = some (.str (tx ([0] ++ [m]))) := by rw [l_zero]; exact bin_str [0] [m] (Nat.le_of_ble_eq_true rfl)
  have e1 : cmpA .Eq (.str (tx [0, m])) (.str (tx ([0] ++ [m]))) = some true := by rw [eq_str]; exact congrArg some (beq_self_eq_true [0, m])
  have hb : b.length ≤ 1000000 := h2 ▸ Nat.le_trans (List.length_take_le' _ _) ha
  have b2 := bin_str b t (by (first | lia | omega))
  have n0 := neg_one
  unfold fJoin_k1
  (repeat' first | with_reducible exact Mine.getV_hit _ _ _ | with_reducible exact Mine.getO_hit _ _ _ | with_reducible assumption | with_reducible refine Mine.getV_skip ?_ ?_ | with_reducible refine Mine.getO_skip ?_ ?_ | with_reducible exact Mine.truthN_hitB _ _ _ | with_reducible refine Mine.truthN_skip ?_ ?_ | with_reducible exact Mine.aug_int _ _ | with_reducible exact Mine.truth_bool _ | with_reducible exact Mine.iter_lst _ | with_reducible refine Mine.iteT ?_ | with_reducible refine Mine.iteF ?_ | with_reducible apply Mine.bindS | with_reducible refine Mine.thenS ?_ | with_reducible exact Mine.thenA_ret _ _ _ | with_reducible refine Mine.noneS ?_ | with_reducible apply Mine.ifP | with_reducible rfl | exact Nat.le_of_ble_eq_true rfl | exact ⟨rfl, Nat.le_of_ble_eq_true rfl⟩ | decide)
theorem join_turn1 {ρ : Slots} {l : List Row} {h0 : AV} {a t : List Nat} (hl : getO ρ "lines" = some ⟨none, (l ++ [(h0, a)]).map rowA⟩) (hz : l.length ≤ 100000) (ha : a.length ≤ 1000000) (ht : t.length ≤ 1000000) (hn : a.drop (a.length - 1) ≠ [1]) :
    ∃ ρ', (fJoin_T3 (rowA (.str (tx [62]), t)) ρ >>= fJoin_B4) = some (.next, ρ') ∧ getO ρ' "lines" = some ⟨none, (l ++ [(h0, a ++ t)]).map rowA⟩ := by
  refine ⟨_, join_tail (x := a ++ t) hl hz (join_k1a (getV_hit _ _ _) ?_ ha ht hn), joinS_lines ..⟩
  (repeat' first | with_reducible exact Mine.getV_hit _ _ _ | with_reducible exact Mine.getO_hit _ _ _ | with_reducible assumption | with_reducible refine Mine.getV_skip ?_ ?_ | with_reducible refine Mine.getO_skip ?_ ?_ | with_reducible exact Mine.truthN_hitB _ _ _ | with_reducible refine Mine.truthN_skip ?_ ?_ | with_reducible exact Mine.aug_int _ _ | with_reducible exact Mine.truth_bool _ | with_reducible exact Mine.iter_lst _ | with_reducible refine Mine.iteT ?_ | with_reducible refine Mine.iteF ?_ | with_reducible apply Mine.bindS | with_reducible refine Mine.thenS ?_ | with_reducible exact Mine.thenA_ret _ _ _ | with_reducible refine Mine.noneS ?_ | with_reducible apply Mine.ifP | with_reducible rfl | exact Nat.le_of_ble_eq_true rfl | exact ⟨rfl, Nat.le_of_ble_eq_true rfl⟩ | decide)
theorem join_turn2 {ρ : Slots} {l : List Row} {h0 : AV} {u v t : List Nat} {m : Nat} (hl : getO ρ "lines" = some ⟨none, (l ++ [(h0, u ++ 0 :: (m :: (v ++ [1])))]).map rowA⟩) (hz : l.length ≤ 100000) (ha : (u ++ 0 :: (m :: (v ++ [1]))).length ≤ 1000000) (ht : t.length + 2 ≤ 1000000) (hm : m ≠ 0) (hv : 0 ∉ v) :
    ∃ ρ', (fJoin_T3 (rowA (.str (tx [62]), 0 :: m :: t)) ρ >>= fJoin_B4) = some (.next, ρ') ∧ getO ρ' "lines" = some ⟨none, (l ++ [(h0, u ++ 0 :: m :: v ++ t)]).map rowA⟩ := by
  have eA : u ++ 0 :: (m :: (v ++ [1])) = (u ++ 0 :: m :: v) ++ [1] := by rw [List.append_assoc]; rfl
  have eL : (u ++ 0 :: (m :: (v ++ [1]))).length = (u ++ 0 :: m :: v).length + 1 := by rw [eA, List.length_append]; rfl
  have hsp := split_last u (m :: (v ++ [1])) (by simp; exact ⟨fun h => hm h.symm, hv⟩)
  have hlen : ((Txt.split (tx (u ++ 0 :: (m :: (v ++ [1])))) (tx [0])).map AV.str).length ≤ 100000000 := by
    rw [List.length_map]
    have := split_le (tx (u ++ 0 :: (m :: (v ++ [1])))) (tx [0])
    rw [tx_length] at this; (first | lia | omega)
  refine ⟨_, join_tail (x := u ++ 0 :: m :: v ++ t) hl hz (join_k1b (c := v ++ [1]) (getV_hit _ _ _) ?_ ha ht ?_ ?_ ?_ (idx_last _ _ (by rw [List.getLast?_map, hsp]; rfl) hlen)), joinS_lines ..⟩
  · (repeat' first | with_reducible exact Mine.getV_hit _ _ _ | with_reducible exact Mine.getO_hit _ _ _ | with_reducible assumption | with_reducible refine Mine.getV_skip ?_ ?_ | with_reducible refine Mine.getO_skip ?_ ?_ | with_reducible exact Mine.truthN_hitB _ _ _ | with_reducible refine Mine.truthN_skip ?_ ?_ | with_reducible exact Mine.aug_int _ _ | with_reducible exact Mine.truth_bool _ | with_reducible exact Mine.iter_lst _ | with_reducible refine Mine.iteT ?_ | with_reducible refine Mine.iteF ?_ | with_reducible apply Mine.bindS | with_reducible refine Mine.thenS ?_ | with_reducible exact Mine.thenA_ret _ _ _ | with_reducible refine Mine.noneS ?_ | with_reducible apply Mine.ifP | with_reducible rfl | exact Nat.le_of_ble_eq_true rfl | exact ⟨rfl, Nat.le_of_ble_eq_true rfl⟩ | decide)
  · rw [eL, eA, Nat.add_sub_cancel, List.drop_left]
  · rw [eL, eA, Nat.add_sub_cancel, List.take_left]
  · rw [List.length_append, List.length_cons] at ha; (first | lia | omega)
end Mine
end
section
set_option linter.unusedVariables false
set_option linter.unusedSimpArgs false
set_option maxHeartbeats 1000000
namespace Mine
abbrev LG := AV → List AV → List AV → Option (AV × List AV)
def scan : Nat → List Nat → Option Nat → Nat → Option (Nat × Option Nat)
  | 0, _, mark, i => some (i, mark)
  | _ + 1, [], mark, i => some (i, mark)
  | k + 1, c :: l, mark, i =>
    if c = 0 then (match l with | m :: l' => scan (k + 1) l' (some m) (i + 2) | [] => none)
    else if c = 1 then scan (k + 1) l none (i + 1) else scan k l mark (i + 1)
structure SplSt (ρ : Slots) (t : List Nat) (col : Nat) (i n : Nat) (mark : Option Nat) (self hd : AV) (dl : OL) : Prop where
  text : getV ρ "text" = some (.str (tx t))
  size : getV ρ "size" = some (.int t.length)
  max : getV ρ "max" = some (.int col)
  i : getV ρ "i" = some (.int i)
  n : getV ρ "n" = some (.int n)
  mark : getV ρ "mark" = some (.str (tx (mk mark)))
  self : getV ρ "self" = some self
  hd : getV ρ "line_num" = some hd
  dl : getO ρ "data_list" = some dl
theorem eq_zero' (c : Nat) : cmpA .Eq (.str (tx [c])) (.str (Str.ofString "\x00")) = some (c == 0) := by
  rw [l_zero, eq_str]; simp
theorem eq_one' (c : Nat) : cmpA .Eq (.str (tx [c])) (.str (Str.ofString "\x01")) = some (c == 1) := by
  rw [l_one, eq_str]; simp
theorem spl_open {GS : LG} {ρ : Slots} {t : List Nat} {k m : Nat} (h1 : getV ρ "text" = some (.str (tx t))) (h4 : getV ρ "i" = some (.int k)) (hi : idxA (.str (tx t)) (.int k) = some (.str (tx [0]))) (hi2 : idxA (.str (tx t)) (.int ((k : Int) + 1)) = some (.str (tx [m]))) :
    fSplit_B8 GS ρ = some (.next, ((ρ.set "i" (.val (.int ((k : Int) + 1)))).set "mark" (.val (.str (tx [m])))).set "i" (.val (.int ((k : Int) + 1 + 1)))) := by
  have e0 : cmpA .Eq (.str (tx [0])) (.str (Str.ofString "\x00")) = some true := eq_zero' 0
  unfold fSplit_B8 fSplit_k4 fSplit_k3
  (repeat' first | with_reducible exact Mine.getV_hit _ _ _ | with_reducible exact Mine.getO_hit _ _ _ | with_reducible assumption | with_reducible refine Mine.getV_skip ?_ ?_ | with_reducible refine Mine.getO_skip ?_ ?_ | with_reducible exact Mine.truthN_hitB _ _ _ | with_reducible refine Mine.truthN_skip ?_ ?_ | with_reducible exact Mine.aug_int _ _ | with_reducible exact Mine.truth_bool _ | with_reducible exact Mine.iter_lst _ | with_reducible refine Mine.iteT ?_ | with_reducible refine Mine.iteF ?_ | with_reducible apply Mine.bindS | with_reducible refine Mine.thenS ?_ | with_reducible exact Mine.thenA_ret _ _ _ | with_reducible refine Mine.noneS ?_ | with_reducible apply Mine.ifP | with_reducible rfl | exact Nat.le_of_ble_eq_true rfl | exact ⟨rfl, Nat.le_of_ble_eq_true rfl⟩ | decide)
theorem spl_close {GS : LG} {ρ : Slots} {t : List Nat} {k : Nat} (h1 : getV ρ "text" = some (.str (tx t))) (h4 : getV ρ "i" = some (.int k)) (hi : idxA (.str (tx t)) (.int k) = some (.str (tx [1]))) :
    fSplit_B8 GS ρ = some (.next, (ρ.set "i" (.val (.int ((k : Int) + 1)))).set "mark" (.val (.str (tx [])))) := by
  have e0 : cmpA .Eq (.str (tx [1])) (.str (Str.ofString "\x00")) = some false := eq_zero' 1
  have e1 : cmpA .Eq (.str (tx [1])) (.str (Str.ofString "\x01")) = some true := eq_one' 1
  rw [← l_empty]
  unfold fSplit_B8 fSplit_k5
  (repeat' first | with_reducible exact Mine.getV_hit _ _ _ | with_reducible exact Mine.getO_hit _ _ _ | with_reducible assumption | with_reducible refine Mine.getV_skip ?_ ?_ | with_reducible refine Mine.getO_skip ?_ ?_ | with_reducible exact Mine.truthN_hitB _ _ _ | with_reducible refine Mine.truthN_skip ?_ ?_ | with_reducible exact Mine.aug_int _ _ | with_reducible exact Mine.truth_bool _ | with_reducible exact Mine.iter_lst _ | with_reducible refine Mine.iteT ?_ | with_reducible refine Mine.iteF ?_ | with_reducible apply Mine.bindS | with_reducible refine Mine.thenS ?_ | with_reducible exact Mine.thenA_ret _ _ _ | with_reducible refine Mine.noneS ?_ | with_reducible apply Mine.ifP | with_reducible rfl | exact Nat.le_of_ble_eq_true rfl | exact ⟨rfl, Nat.le_of_ble_eq_true rfl⟩ | decide)
theorem spl_sign {GS : LG} {ρ : Slots} {t : List Nat} {k n c : Nat} (h1 : getV ρ "text" = some (.str (tx t))) (h4 : getV ρ "i" = some (.int k)) (h5 : getV ρ "n" = some (.int n)) (hi : idxA (.str (tx t)) (.int k) = some (.str (tx [c]))) (c0 : c ≠ 0) (c1 : c ≠ 1) :
    fSplit_B8 GS ρ = some (.next, (ρ.set "i" (.val (.int ((k : Int) + 1)))).set "n" (.val (.int ((n : Int) + 1)))) := by
  have e0 := eq_zero' c
  have e1 := eq_one' c
  rw [beq_eq_false_iff_ne.mpr c0] at e0
  rw [beq_eq_false_iff_ne.mpr c1] at e1
  unfold fSplit_B8 fSplit_k6
  (repeat' first | with_reducible exact Mine.getV_hit _ _ _ | with_reducible exact Mine.getO_hit _ _ _ | with_reducible assumption | with_reducible refine Mine.getV_skip ?_ ?_ | with_reducible refine Mine.getO_skip ?_ ?_ | with_reducible exact Mine.truthN_hitB _ _ _ | with_reducible refine Mine.truthN_skip ?_ ?_ | with_reducible exact Mine.aug_int _ _ | with_reducible exact Mine.truth_bool _ | with_reducible exact Mine.iter_lst _ | with_reducible refine Mine.iteT ?_ | with_reducible refine Mine.iteF ?_ | with_reducible apply Mine.bindS | with_reducible refine Mine.thenS ?_ | with_reducible exact Mine.thenA_ret _ _ _ | with_reducible refine Mine.noneS ?_ | with_reducible apply Mine.ifP | with_reducible rfl | exact Nat.le_of_ble_eq_true rfl | exact ⟨rfl, Nat.le_of_ble_eq_true rfl⟩ | decide)
section
variable {GS : LG} {ρ : Slots} {t : List Nat} {col k n c m : Nat} {mark : Option Nat} {self hd : AV} {dl : OL}
theorem spl_open' (st : SplSt ρ t col k n mark self hd dl) (hi : idxA (.str (tx t)) (.int k) = some (.str (tx [0]))) (hi2 : idxA (.str (tx t)) (.int ((k : Int) + 1)) = some (.str (tx [m]))) : ∃ ρ₁, fSplit_B8 GS ρ = some (.next, ρ₁) ∧ SplSt ρ₁ t col (k + 2) n (some m) self hd dl := by
  obtain ⟨h1, h2, h3, h4, h5, h6, h7, h8, h9⟩ := st
  exact ⟨_, spl_open h1 h4 hi hi2, by (repeat' first | with_reducible exact Mine.getV_hit _ _ _ | with_reducible exact Mine.getO_hit _ _ _ | with_reducible assumption | with_reducible refine Mine.getV_skip ?_ ?_ | with_reducible refine Mine.getO_skip ?_ ?_ | with_reducible exact Mine.truthN_hitB _ _ _ | with_reducible refine Mine.truthN_skip ?_ ?_ | with_reducible exact Mine.aug_int _ _ | with_reducible exact Mine.truth_bool _ | with_reducible exact Mine.iter_lst _ | with_reducible refine Mine.iteT ?_ | with_reducible refine Mine.iteF ?_ | with_reducible apply Mine.bindS | with_reducible refine Mine.thenS ?_ | with_reducible exact Mine.thenA_ret _ _ _ | with_reducible refine Mine.noneS ?_ | with_reducible apply Mine.ifP | with_reducible rfl | exact Nat.le_of_ble_eq_true rfl | exact ⟨rfl, Nat.le_of_ble_eq_true rfl⟩ | decide), by (repeat' first | with_reducible exact Mine.getV_hit _ _ _ | with_reducible exact Mine.getO_hit _ _ _ | with_reducible assumption | with_reducible refine Mine.getV_skip ?_ ?_ | with_reducible refine Mine.getO_skip ?_ ?_ | with_reducible exact Mine.truthN_hitB _ _ _ | with_reducible refine Mine.truthN_skip ?_ ?_ | with_reducible exact Mine.aug_int _ _ | with_reducible exact Mine.truth_bool _ | with_reducible exact Mine.iter_lst _ | with_reducible refine Mine.iteT ?_ | with_reducible refine Mine.iteF ?_ | with_reducible apply Mine.bindS | with_reducible refine Mine.thenS ?_ | with_reducible exact Mine.thenA_ret _ _ _ | with_reducible refine Mine.noneS ?_ | with_reducible apply Mine.ifP | with_reducible rfl | exact Nat.le_of_ble_eq_true rfl | exact ⟨rfl, Nat.le_of_ble_eq_true rfl⟩ | decide), by (repeat' first | with_reducible exact Mine.getV_hit _ _ _ | with_reducible exact Mine.getO_hit _ _ _ | with_reducible assumption | with_reducible refine Mine.getV_skip ?_ ?_ | with_reducible refine Mine.getO_skip ?_ ?_ | with_reducible exact Mine.truthN_hitB _ _ _ | with_reducible refine Mine.truthN_skip ?_ ?_ | with_reducible exact Mine.aug_int _ _ | with_reducible exact Mine.truth_bool _ | with_reducible exact Mine.iter_lst _ | with_reducible refine Mine.iteT ?_ | with_reducible refine Mine.iteF ?_ | with_reducible apply Mine.bindS | with_reducible refine Mine.thenS ?_ | with_reducible exact Mine.thenA_ret _ _ _ | with_reducible refine Mine.noneS ?_ | with_reducible apply Mine.ifP | with_reducible rfl | exact Nat.le_of_ble_eq_true rfl | exact ⟨rfl, Nat.le_of_ble_eq_true rfl⟩ | decide), getV_hit _ _ _, by (repeat' first | with_reducible exact Mine.getV_hit _ _ _ | with_reducible exact Mine.getO_hit _ _ _ | with_reducible assumption | with_reducible refine Mine.getV_skip ?_ ?_ | with_reducible refine Mine.getO_skip ?_ ?_ | with_reducible exact Mine.truthN_hitB _ _ _ | with_reducible refine Mine.truthN_skip ?_ ?_ | with_reducible exact Mine.aug_int _ _ | with_reducible exact Mine.truth_bool _ | with_reducible exact Mine.iter_lst _ | with_reducible refine Mine.iteT ?_ | with_reducible refine Mine.iteF ?_ | with_reducible apply Mine.bindS | with_reducible refine Mine.thenS ?_ | with_reducible exact Mine.thenA_ret _ _ _ | with_reducible refine Mine.noneS ?_ | with_reducible apply Mine.ifP | with_reducible rfl | exact Nat.le_of_ble_eq_true rfl | exact ⟨rfl, Nat.le_of_ble_eq_true rfl⟩ | decide), getV_skip rfl (getV_hit _ _ _), by (repeat' first | with_reducible exact Mine.getV_hit _ _ _ | with_reducible exact Mine.getO_hit _ _ _ | with_reducible assumption | with_reducible refine Mine.getV_skip ?_ ?_ | with_reducible refine Mine.getO_skip ?_ ?_ | with_reducible exact Mine.truthN_hitB _ _ _ | with_reducible refine Mine.truthN_skip ?_ ?_ | with_reducible exact Mine.aug_int _ _ | with_reducible exact Mine.truth_bool _ | with_reducible exact Mine.iter_lst _ | with_reducible refine Mine.iteT ?_ | with_reducible refine Mine.iteF ?_ | with_reducible apply Mine.bindS | with_reducible refine Mine.thenS ?_ | with_reducible exact Mine.thenA_ret _ _ _ | with_reducible refine Mine.noneS ?_ | with_reducible apply Mine.ifP | with_reducible rfl | exact Nat.le_of_ble_eq_true rfl | exact ⟨rfl, Nat.le_of_ble_eq_true rfl⟩ | decide), by (repeat' first | with_reducible exact Mine.getV_hit _ _ _ | with_reducible exact Mine.getO_hit _ _ _ | with_reducible assumption | with_reducible refine Mine.getV_skip ?_ ?_ | with_reducible refine Mine.getO_skip ?_ ?_ | with_reducible exact Mine.truthN_hitB _ _ _ | with_reducible refine Mine.truthN_skip ?_ ?_ | with_reducible exact Mine.aug_int _ _ | with_reducible exact Mine.truth_bool _ | with_reducible exact Mine.iter_lst _ | with_reducible refine Mine.iteT ?_ | with_reducible refine Mine.iteF ?_ | with_reducible apply Mine.bindS | with_reducible refine Mine.thenS ?_ | with_reducible exact Mine.thenA_ret _ _ _ | with_reducible refine Mine.noneS ?_ | with_reducible apply Mine.ifP | with_reducible rfl | exact Nat.le_of_ble_eq_true rfl | exact ⟨rfl, Nat.le_of_ble_eq_true rfl⟩ | decide), by (repeat' first | with_reducible exact Mine.getV_hit _ _ _ | with_reducible exact Mine.getO_hit _ _ _ | with_reducible assumption | with_reducible refine Mine.getV_skip ?_ ?_ | with_reducible refine Mine.getO_skip ?_ ?_ | with_reducible exact Mine.truthN_hitB _ _ _ | with_reducible refine Mine.truthN_skip ?_ ?_ | with_reducible exact Mine.aug_int _ _ | with_reducible exact Mine.truth_bool _ | with_reducible exact Mine.iter_lst _ | with_reducible refine Mine.iteT ?_ | with_reducible refine Mine.iteF ?_ | with_reducible apply Mine.bindS | with_reducible refine Mine.thenS ?_ | with_reducible exact Mine.thenA_ret _ _ _ | with_reducible refine Mine.noneS ?_ | with_reducible apply Mine.ifP | with_reducible rfl | exact Nat.le_of_ble_eq_true rfl | exact ⟨rfl, Nat.le_of_ble_eq_true rfl⟩ | decide)⟩
theorem spl_close' (st : SplSt ρ t col k n mark self hd dl) (hi : idxA (.str (tx t)) (.int k) = some (.str (tx [1]))) : ∃ ρ₁, fSplit_B8 GS ρ = some (.next, ρ₁) ∧ SplSt ρ₁ t col (k + 1) n none self hd dl := by
  obtain ⟨h1, h2, h3, h4, h5, h6, h7, h8, h9⟩ := st
  exact ⟨_, spl_close h1 h4 hi, by (repeat' first | with_reducible exact Mine.getV_hit _ _ _ | with_reducible exact Mine.getO_hit _ _ _ | with_reducible assumption | with_reducible refine Mine.getV_skip ?_ ?_ | with_reducible refine Mine.getO_skip ?_ ?_ | with_reducible exact Mine.truthN_hitB _ _ _ | with_reducible refine Mine.truthN_skip ?_ ?_ | with_reducible exact Mine.aug_int _ _ | with_reducible exact Mine.truth_bool _ | with_reducible exact Mine.iter_lst _ | with_reducible refine Mine.iteT ?_ | with_reducible refine Mine.iteF ?_ | with_reducible apply Mine.bindS | with_reducible refine Mine.thenS ?_ | with_reducible exact Mine.thenA_ret _ _ _ | with_reducible refine Mine.noneS ?_ | with_reducible apply Mine.ifP | with_reducible rfl | exact Nat.le_of_ble_eq_true rfl | exact ⟨rfl, Nat.le_of_ble_eq_true rfl⟩ | decide), by (repeat' first | with_reducible exact Mine.getV_hit _ _ _ | with_reducible exact Mine.getO_hit _ _ _ | with_reducible assumption | with_reducible refine Mine.getV_skip ?_ ?_ | with_reducible refine Mine.getO_skip ?_ ?_ | with_reducible exact Mine.truthN_hitB _ _ _ | with_reducible refine Mine.truthN_skip ?_ ?_ | with_reducible exact Mine.aug_int _ _ | with_reducible exact Mine.truth_bool _ | with_reducible exact Mine.iter_lst _ | with_reducible refine Mine.iteT ?_ | with_reducible refine Mine.iteF ?_ | with_reducible apply Mine.bindS | with_reducible refine Mine.thenS ?_ | with_reducible exact Mine.thenA_ret _ _ _ | with_reducible refine Mine.noneS ?_ | with_reducible apply Mine.ifP | with_reducible rfl | exact Nat.le_of_ble_eq_true rfl | exact ⟨rfl, Nat.le_of_ble_eq_true rfl⟩ | decide), by (repeat' first | with_reducible exact Mine.getV_hit _ _ _ | with_reducible exact Mine.getO_hit _ _ _ | with_reducible assumption | with_reducible refine Mine.getV_skip ?_ ?_ | with_reducible refine Mine.getO_skip ?_ ?_ | with_reducible exact Mine.truthN_hitB _ _ _ | with_reducible refine Mine.truthN_skip ?_ ?_ | with_reducible exact Mine.aug_int _ _ | with_reducible exact Mine.truth_bool _ | with_reducible exact Mine.iter_lst _ | with_reducible refine Mine.iteT ?_ | with_reducible refine Mine.iteF ?_ | with_reducible apply Mine.bindS | with_reducible refine Mine.thenS ?_ | with_reducible exact Mine.thenA_ret _ _ _ | with_reducible refine Mine.noneS ?_ | with_reducible apply Mine.ifP | with_reducible rfl | exact Nat.le_of_ble_eq_true rfl | exact ⟨rfl, Nat.le_of_ble_eq_true rfl⟩ | decide), getV_skip rfl (getV_hit _ _ _), by (repeat' first | with_reducible exact Mine.getV_hit _ _ _ | with_reducible exact Mine.getO_hit _ _ _ | with_reducible assumption | with_reducible refine Mine.getV_skip ?_ ?_ | with_reducible refine Mine.getO_skip ?_ ?_ | with_reducible exact Mine.truthN_hitB _ _ _ | with_reducible refine Mine.truthN_skip ?_ ?_ | with_reducible exact Mine.aug_int _ _ | with_reducible exact Mine.truth_bool _ | with_reducible exact Mine.iter_lst _ | with_reducible refine Mine.iteT ?_ | with_reducible refine Mine.iteF ?_ | with_reducible apply Mine.bindS | with_reducible refine Mine.thenS ?_ | with_reducible exact Mine.thenA_ret _ _ _ | with_reducible refine Mine.noneS ?_ | with_reducible apply Mine.ifP | with_reducible rfl | exact Nat.le_of_ble_eq_true rfl | exact ⟨rfl, Nat.le_of_ble_eq_true rfl⟩ | decide), getV_hit _ _ _, by (repeat' first | with_reducible exact Mine.getV_hit _ _ _ | with_reducible exact Mine.getO_hit _ _ _ | with_reducible assumption | with_reducible refine Mine.getV_skip ?_ ?_ | with_reducible refine Mine.getO_skip ?_ ?_ | with_reducible exact Mine.truthN_hitB _ _ _ | with_reducible refine Mine.truthN_skip ?_ ?_ | with_reducible exact Mine.aug_int _ _ | with_reducible exact Mine.truth_bool _ | with_reducible exact Mine.iter_lst _ | with_reducible refine Mine.iteT ?_ | with_reducible refine Mine.iteF ?_ | with_reducible apply Mine.bindS | with_reducible refine Mine.thenS ?_ | with_reducible exact Mine.thenA_ret _ _ _ | with_reducible refine Mine.noneS ?_ | with_reducible apply Mine.ifP | with_reducible rfl | exact Nat.le_of_ble_eq_true rfl | exact ⟨rfl, Nat.le_of_ble_eq_true rfl⟩ | decide), by (repeat' first | with_reducible exact Mine.getV_hit _ _ _ | with_reducible exact Mine.getO_hit _ _ _ | with_reducible assumption | with_reducible refine Mine.getV_skip ?_ ?_ | with_reducible refine Mine.getO_skip ?_ ?_ | with_reducible exact Mine.truthN_hitB _ _ _ | with_reducible refine Mine.truthN_skip ?_ ?_ | with_reducible exact Mine.aug_int _ _ | with_reducible exact Mine.truth_bool _ | with_reducible exact Mine.iter_lst _ | with_reducible refine Mine.iteT ?_ | with_reducible refine Mine.iteF ?_ | with_reducible apply Mine.bindS | with_reducible refine Mine.thenS ?_ | with_reducible exact Mine.thenA_ret _ _ _ | with_reducible refine Mine.noneS ?_ | with_reducible apply Mine.ifP | with_reducible rfl | exact Nat.le_of_ble_eq_true rfl | exact ⟨rfl, Nat.le_of_ble_eq_true rfl⟩ | decide), by (repeat' first | with_reducible exact Mine.getV_hit _ _ _ | with_reducible exact Mine.getO_hit _ _ _ | with_reducible assumption | with_reducible refine Mine.getV_skip ?_ ?_ | with_reducible refine Mine.getO_skip ?_ ?_ | with_reducible exact Mine.truthN_hitB _ _ _ | with_reducible refine Mine.truthN_skip ?_ ?_ | with_reducible exact Mine.aug_int _ _ | with_reducible exact Mine.truth_bool _ | with_reducible exact Mine.iter_lst _ | with_reducible refine Mine.iteT ?_ | with_reducible refine Mine.iteF ?_ | with_reducible apply Mine.bindS | with_reducible refine Mine.thenS ?_ | with_reducible exact Mine.thenA_ret _ _ _ | with_reducible refine Mine.noneS ?_ | with_reducible apply Mine.ifP | with_reducible rfl | exact Nat.le_of_ble_eq_true rfl | exact ⟨rfl, Nat.le_of_ble_eq_true rfl⟩ | decide)⟩
theorem spl_sign' (st : SplSt ρ t col k n mark self hd dl) (hi : idxA (.str (tx t)) (.int k) = some (.str (tx [c]))) (c0 : c ≠ 0) (c1 : c ≠ 1) : ∃ ρ₁, fSplit_B8 GS ρ = some (.next, ρ₁) ∧ SplSt ρ₁ t col (k + 1) (n + 1) mark self hd dl := by
  obtain ⟨h1, h2, h3, h4, h5, h6, h7, h8, h9⟩ := st
  exact ⟨_, spl_sign h1 h4 h5 hi c0 c1, by (repeat' first | with_reducible exact Mine.getV_hit _ _ _ | with_reducible exact Mine.getO_hit _ _ _ | with_reducible assumption | with_reducible refine Mine.getV_skip ?_ ?_ | with_reducible refine Mine.getO_skip ?_ ?_ | with_reducible exact Mine.truthN_hitB _ _ _ | with_reducible refine Mine.truthN_skip ?_ ?_ | with_reducible exact Mine.aug_int _ _ | with_reducible exact Mine.truth_bool _ | with_reducible exact Mine.iter_lst _ | with_reducible refine Mine.iteT ?_ | with_reducible refine Mine.iteF ?_ | with_reducible apply Mine.bindS | with_reducible refine Mine.thenS ?_ | with_reducible exact Mine.thenA_ret _ _ _ | with_reducible refine Mine.noneS ?_ | with_reducible apply Mine.ifP | with_reducible rfl | exact Nat.le_of_ble_eq_true rfl | exact ⟨rfl, Nat.le_of_ble_eq_true rfl⟩ | decide), by (repeat' first | with_reducible exact Mine.getV_hit _ _ _ | with_reducible exact Mine.getO_hit _ _ _ | with_reducible assumption | with_reducible refine Mine.getV_skip ?_ ?_ | with_reducible refine Mine.getO_skip ?_ ?_ | with_reducible exact Mine.truthN_hitB _ _ _ | with_reducible refine Mine.truthN_skip ?_ ?_ | with_reducible exact Mine.aug_int _ _ | with_reducible exact Mine.truth_bool _ | with_reducible exact Mine.iter_lst _ | with_reducible refine Mine.iteT ?_ | with_reducible refine Mine.iteF ?_ | with_reducible apply Mine.bindS | with_reducible refine Mine.thenS ?_ | with_reducible exact Mine.thenA_ret _ _ _ | with_reducible refine Mine.noneS ?_ | with_reducible apply Mine.ifP | with_reducible rfl | exact Nat.le_of_ble_eq_true rfl | exact ⟨rfl, Nat.le_of_ble_eq_true rfl⟩ | decide), by (repeat' first | with_reducible exact Mine.getV_hit _ _ _ | with_reducible exact Mine.getO_hit _ _ _ | with_reducible assumption | with_reducible refine Mine.getV_skip ?_ ?_ | with_reducible refine Mine.getO_skip ?_ ?_ | with_reducible exact Mine.truthN_hitB _ _ _ | with_reducible refine Mine.truthN_skip ?_ ?_ | with_reducible exact Mine.aug_int _ _ | with_reducible exact Mine.truth_bool _ | with_reducible exact Mine.iter_lst _ | with_reducible refine Mine.iteT ?_ | with_reducible refine Mine.iteF ?_ | with_reducible apply Mine.bindS | with_reducible refine Mine.thenS ?_ | with_reducible exact Mine.thenA_ret _ _ _ | with_reducible refine Mine.noneS ?_ | with_reducible apply Mine.ifP | with_reducible rfl | exact Nat.le_of_ble_eq_true rfl | exact ⟨rfl, Nat.le_of_ble_eq_true rfl⟩ | decide), getV_skip rfl (getV_hit _ _ _), getV_hit _ _ _, by (repeat' first | with_reducible exact Mine.getV_hit _ _ _ | with_reducible exact Mine.getO_hit _ _ _ | with_reducible assumption | with_reducible refine Mine.getV_skip ?_ ?_ | with_reducible refine Mine.getO_skip ?_ ?_ | with_reducible exact Mine.truthN_hitB _ _ _ | with_reducible refine Mine.truthN_skip ?_ ?_ | with_reducible exact Mine.aug_int _ _ | with_reducible exact Mine.truth_bool _ | with_reducible exact Mine.iter_lst _ | with_reducible refine Mine.iteT ?_ | with_reducible refine Mine.iteF ?_ | with_reducible apply Mine.bindS | with_reducible refine Mine.thenS ?_ | with_reducible exact Mine.thenA_ret _ _ _ | with_reducible refine Mine.noneS ?_ | with_reducible apply Mine.ifP | with_reducible rfl | exact Nat.le_of_ble_eq_true rfl | exact ⟨rfl, Nat.le_of_ble_eq_true rfl⟩ | decide), by (repeat' first | with_reducible exact Mine.getV_hit _ _ _ | with_reducible exact Mine.getO_hit _ _ _ | with_reducible assumption | with_reducible refine Mine.getV_skip ?_ ?_ | with_reducible refine Mine.getO_skip ?_ ?_ | with_reducible exact Mine.truthN_hitB _ _ _ | with_reducible refine Mine.truthN_skip ?_ ?_ | with_reducible exact Mine.aug_int _ _ | with_reducible exact Mine.truth_bool _ | with_reducible exact Mine.iter_lst _ | with_reducible refine Mine.iteT ?_ | with_reducible refine Mine.iteF ?_ | with_reducible apply Mine.bindS | with_reducible refine Mine.thenS ?_ | with_reducible exact Mine.thenA_ret _ _ _ | with_reducible refine Mine.noneS ?_ | with_reducible apply Mine.ifP | with_reducible rfl | exact Nat.le_of_ble_eq_true rfl | exact ⟨rfl, Nat.le_of_ble_eq_true rfl⟩ | decide), by (repeat' first | with_reducible exact Mine.getV_hit _ _ _ | with_reducible exact Mine.getO_hit _ _ _ | with_reducible assumption | with_reducible refine Mine.getV_skip ?_ ?_ | with_reducible refine Mine.getO_skip ?_ ?_ | with_reducible exact Mine.truthN_hitB _ _ _ | with_reducible refine Mine.truthN_skip ?_ ?_ | with_reducible exact Mine.aug_int _ _ | with_reducible exact Mine.truth_bool _ | with_reducible exact Mine.iter_lst _ | with_reducible refine Mine.iteT ?_ | with_reducible refine Mine.iteF ?_ | with_reducible apply Mine.bindS | with_reducible refine Mine.thenS ?_ | with_reducible exact Mine.thenA_ret _ _ _ | with_reducible refine Mine.noneS ?_ | with_reducible apply Mine.ifP | with_reducible rfl | exact Nat.le_of_ble_eq_true rfl | exact ⟨rfl, Nat.le_of_ble_eq_true rfl⟩ | decide), by (repeat' first | with_reducible exact Mine.getV_hit _ _ _ | with_reducible exact Mine.getO_hit _ _ _ | with_reducible assumption | with_reducible refine Mine.getV_skip ?_ ?_ | with_reducible refine Mine.getO_skip ?_ ?_ | with_reducible exact Mine.truthN_hitB _ _ _ | with_reducible refine Mine.truthN_skip ?_ ?_ | with_reducible exact Mine.aug_int _ _ | with_reducible exact Mine.truth_bool _ | with_reducible exact Mine.iter_lst _ | with_reducible refine Mine.iteT ?_ | with_reducible refine Mine.iteF ?_ | with_reducible apply Mine.bindS | with_reducible refine Mine.thenS ?_ | with_reducible exact Mine.thenA_ret _ _ _ | with_reducible refine Mine.noneS ?_ | with_reducible apply Mine.ifP | with_reducible rfl | exact Nat.le_of_ble_eq_true rfl | exact ⟨rfl, Nat.le_of_ble_eq_true rfl⟩ | decide)⟩
theorem spl_cond (st : SplSt ρ t col k n mark self hd dl) : fSplit_C7 GS ρ = some (decide (n < col) && decide (k < t.length)) := by
  obtain ⟨h1, h2, h3, h4, h5, h6, h7, h8, h9⟩ := st
  have a := lt_int' n col
  have b := lt_int' k t.length
  rw [show decide ((n : Int) < col) = decide (n < col) from decide_eq_decide.mpr Int.ofNat_lt] at a
  rw [show decide ((k : Int) < (t.length : Int)) = decide (k < t.length) from decide_eq_decide.mpr Int.ofNat_lt] at b
  cases ha : decide (n < col) with
  | false =>
    rw [ha] at a
    rw [Bool.false_and]
    unfold fSplit_C7
    (repeat' first | with_reducible exact Mine.getV_hit _ _ _ | with_reducible exact Mine.getO_hit _ _ _ | with_reducible assumption | with_reducible refine Mine.getV_skip ?_ ?_ | with_reducible refine Mine.getO_skip ?_ ?_ | with_reducible exact Mine.truthN_hitB _ _ _ | with_reducible refine Mine.truthN_skip ?_ ?_ | with_reducible exact Mine.aug_int _ _ | with_reducible exact Mine.truth_bool _ | with_reducible exact Mine.iter_lst _ | with_reducible refine Mine.iteT ?_ | with_reducible refine Mine.iteF ?_ | with_reducible apply Mine.bindS | with_reducible refine Mine.thenS ?_ | with_reducible exact Mine.thenA_ret _ _ _ | with_reducible refine Mine.noneS ?_ | with_reducible apply Mine.ifP | with_reducible rfl | exact Nat.le_of_ble_eq_true rfl | exact ⟨rfl, Nat.le_of_ble_eq_true rfl⟩ | decide)
  | true =>
    rw [ha] at a
    rw [Bool.true_and]
    cases hb : decide (k < t.length) with
    | false =>
      rw [hb] at b
      unfold fSplit_C7
      (repeat' first | with_reducible exact Mine.getV_hit _ _ _ | with_reducible exact Mine.getO_hit _ _ _ | with_reducible assumption | with_reducible refine Mine.getV_skip ?_ ?_ | with_reducible refine Mine.getO_skip ?_ ?_ | with_reducible exact Mine.truthN_hitB _ _ _ | with_reducible refine Mine.truthN_skip ?_ ?_ | with_reducible exact Mine.aug_int _ _ | with_reducible exact Mine.truth_bool _ | with_reducible exact Mine.iter_lst _ | with_reducible refine Mine.iteT ?_ | with_reducible refine Mine.iteF ?_ | with_reducible apply Mine.bindS | with_reducible refine Mine.thenS ?_ | with_reducible exact Mine.thenA_ret _ _ _ | with_reducible refine Mine.noneS ?_ | with_reducible apply Mine.ifP | with_reducible rfl | exact Nat.le_of_ble_eq_true rfl | exact ⟨rfl, Nat.le_of_ble_eq_true rfl⟩ | decide)
    | true =>
      rw [hb] at b
      unfold fSplit_C7
      (repeat' first | with_reducible exact Mine.getV_hit _ _ _ | with_reducible exact Mine.getO_hit _ _ _ | with_reducible assumption | with_reducible refine Mine.getV_skip ?_ ?_ | with_reducible refine Mine.getO_skip ?_ ?_ | with_reducible exact Mine.truthN_hitB _ _ _ | with_reducible refine Mine.truthN_skip ?_ ?_ | with_reducible exact Mine.aug_int _ _ | with_reducible exact Mine.truth_bool _ | with_reducible exact Mine.iter_lst _ | with_reducible refine Mine.iteT ?_ | with_reducible refine Mine.iteF ?_ | with_reducible apply Mine.bindS | with_reducible refine Mine.thenS ?_ | with_reducible exact Mine.thenA_ret _ _ _ | with_reducible refine Mine.noneS ?_ | with_reducible apply Mine.ifP | with_reducible rfl | exact Nat.le_of_ble_eq_true rfl | exact ⟨rfl, Nat.le_of_ble_eq_true rfl⟩ | decide)
end
theorem split_loop (GS : LG) (t : List Nat) (col : Nat) (self hd : AV) (dl : OL) (hz : t.length ≤ 1000000) (fuel : Nat) : ∀ (l p : List Nat) (ρ : Slots) (n : Nat) (mark : Option Nat) (i' : Nat) (mark' : Option Nat), t = p ++ l → l.length < fuel → n ≤ col → SplSt ρ t col p.length n mark self hd dl → scan (col - n) l mark p.length = some (i', mark') →
    ∃ ρ' n', whileA (fSplit_C7 GS) (fSplit_B8 GS) fuel ρ = some (.next, ρ') ∧ SplSt ρ' t col i' n' mark' self hd dl := by
  induction fuel with
  | zero => intro l p ρ n mark i' mark' ht hf; exact absurd hf (Nat.not_lt_zero _)
  | succ fuel ih =>
  intro l p ρ n mark i' mark' ht hf hn h hs
  have hC := spl_cond (GS := GS) h
  have go : ∀ (ρ₁ ρ' : Slots), n < col → p.length < t.length → fSplit_B8 GS ρ = some (.next, ρ₁) → whileA (fSplit_C7 GS) (fSplit_B8 GS) fuel ρ₁ = some (.next, ρ') → whileA (fSplit_C7 GS) (fSplit_B8 GS) (fuel + 1) ρ = some (.next, ρ') := fun ρ₁ ρ' a b e1 e2 => by
    rw [decide_eq_true a, decide_eq_true b] at hC
    unfold whileA; exact bindS hC (iteT (bindS e1 e2))
  have stop : (decide (n < col) && decide (p.length < t.length)) = false → whileA (fSplit_C7 GS) (fSplit_B8 GS) (fuel + 1) ρ = some (.next, ρ) := fun a => by
    rw [a] at hC; unfold whileA; exact bindS hC (iteF rfl)
  clear hC
  cases hk : col - n with
  | zero =>
    rw [hk] at hs; unfold scan at hs; cases hs
    have : ¬ n < col := by (first | lia | omega)
    exact ⟨ρ, n, stop (by rw [decide_eq_false this]; rfl), h⟩
  | succ k =>
    rw [hk] at hs
    cases l with
    | nil =>
      unfold scan at hs; cases hs
      exact ⟨ρ, n, stop (by rw [ht, List.append_nil, decide_eq_false (Nat.lt_irrefl _), Bool.and_false]), h⟩
    | cons c l =>
      have hl : t.length = p.length + (l.length + 1) := by rw [ht, List.length_append, List.length_cons]
      have hkk : p.length < t.length := by (first | lia | omega)
      have hnc : n < col := by (first | lia | omega)
      have hi := idx_str t p.length hkk hz
      rw [show t[p.length]'hkk = c by simp [ht]] at hi
      rw [List.length_cons] at hf
      unfold scan at hs
      by_cases c0 : c = 0
      · subst c0
        rw [if_pos rfl] at hs
        cases l with
        | nil => cases hs
        | cons m l =>
          rw [List.length_cons] at hl hf
          have hkk2 : p.length + 1 < t.length := by (first | lia | omega)
          have hi2 := idx_str t (p.length + 1) hkk2 hz
          rw [show t[p.length + 1]'hkk2 = m by simp [ht], Int.natCast_add] at hi2
          obtain ⟨ρ₁, e₁, s₁⟩ := spl_open' (GS := GS) h hi hi2
          obtain ⟨ρ', n', e, st⟩ := ih l (p ++ [0, m]) ρ₁ n (some m) i' mark' (by rw [ht, List.append_assoc]; rfl) (by (first | lia | omega)) hn (by rw [List.length_append]; exact s₁) (by rw [hk, List.length_append]; exact hs)
          exact ⟨ρ', n', go _ _ hnc hkk e₁ e, st⟩
      · rw [if_neg c0] at hs
        by_cases c1 : c = 1
        · subst c1
          rw [if_pos rfl] at hs
          obtain ⟨ρ₁, e₁, s₁⟩ := spl_close' (GS := GS) h hi
          obtain ⟨ρ', n', e, st⟩ := ih l (p ++ [1]) ρ₁ n none i' mark' (by rw [ht, List.append_assoc]; rfl) (by (first | lia | omega)) hn (by rw [List.length_append]; exact s₁) (by rw [hk, List.length_append]; exact hs)
          exact ⟨ρ', n', go _ _ hnc hkk e₁ e, st⟩
        · rw [if_neg c1] at hs
          obtain ⟨ρ₁, e₁, s₁⟩ := spl_sign' (GS := GS) h hi c0 c1
          obtain ⟨ρ', n', e, st⟩ := ih l (p ++ [c]) ρ₁ (n + 1) mark i' mark' (by rw [ht, List.append_assoc]; rfl) (by (first | lia | omega)) (by (first | lia | omega)) (by rw [List.length_append]; exact s₁) (by rw [show col - (n + 1) = k by (first | lia | omega), List.length_append]; exact hs)
          exact ⟨ρ', n', go _ _ hnc hkk e₁ e, st⟩
end Mine
end
section
set_option linter.unusedVariables false
set_option linter.unusedSimpArgs false
set_option maxHeartbeats 1000000
namespace Mine
theorem cnt_count (t : List Nat) : cnt 0 t = (t.count 0 : Nat) := by
  induction t with
  | nil => rfl
  | cons c r ih => rw [cnt_cons, ih, List.count_cons]; by_cases e : c = 0 <;> simp [e]; (first | lia | omega)
theorem countF_eq (t : List Nat) : countF [.str (tx t), .str (tx [0])] = some (.int (t.count 0 : Nat)) := by
  show some (AV.int (Txt.count (tx t) ⟨#[0]⟩)) = _
  rw [count_cnt, tx_list, cnt_count]
theorem mul_int (a b : Int) (h1 : a.natAbs < 1073741824) (h2 : b.natAbs < 1073741824) : binA .Mult (.int a) (.int b) = some (.int (a * b)) := by
  show (if a.natAbs < 1073741824 ∧ b.natAbs < 1073741824 then some (AV.int (a * b)) else none) = _
  rw [if_pos ⟨h1, h2⟩]
theorem sub_int (a b : Int) : binA .Sub (.int a) (.int b) = some (.int (a - b)) := Eq.trans rfl rfl
theorem bindA2 (n1 n2 : Str) (a b : AV) (hn : n1 ≠ n2) : bindA [n1, n2] [a, b] = (one1 n1 a).set n2 (.val b) := by
  funext x
  unfold bindA one1 Slots.set
  simp [List.lookup_cons]
  by_cases e2 : x = n2
  · subst e2; simp
  · have : (x == n2) = false := by simpa using e2
    rw [this, if_neg e2]
    by_cases e1 : x = n1
    · subst e1; simp
    · have : (x == n1) = false := by simpa using e1
      rw [this, if_neg e1]; rfl
def gt : AV := .str (tx [62])
noncomputable def splitT : Nat → Nat → AV → List Nat → Option (List Row)
  | 0, _, _, _ => none
  | n + 1, col, hd, t => truthA hd >>= fun b =>
    if t.length ≤ 90000 then
      if b = false then some [(hd, t)]
      else if t.length ≤ col ∨ (t.length : Int) - (t.count 0 : Nat) * 3 ≤ col then some [(hd, t)]
      else scan col t none 0 >>= fun r => (splitT n col gt (opens r.2 ++ t.drop r.1)).map fun rows => (hd, t.take r.1 ++ close r.2) :: rows
    else none
def AV.inst? : AV → Option (Addr × List (Str × AV))
  | .inst c fs => some (c, fs)
  | _ => Option.none
theorem inst?_eq {a : AV} {p : Addr × List (Str × AV)} (e : a.inst? = some p) : a = .inst p.1 p.2 := by cases a <;> cases e; rfl
def two? : List AV → Option (AV × AV)
  | [a, b] => some (a, b)
  | _ => none
theorem two?_eq {l : List AV} {p : AV × AV} (e : two? l = some p) : l = [p.1, p.2] := by
  cases l with
  | nil => cases e
  | cons a l => cases l with
    | nil => cases e
    | cons b l => cases l with
      | nil => cases e; rfl
      | cons => cases e
noncomputable def GS (n : Nat) : LG := fun self items args => self.inst? >>= fun p => two? args >>= fun q => q.2.str? >>= fun x => p.2.lookup ("_wrapcolumn" : Str) >>= fun a => a.int? >>= fun col =>
  if p.1 = 113 ∧ p.2.lookup ("_split_line" : Str) = none ∧ 0 ≤ col then splitT n col.toNat q.1 x.cps.toList >>= fun rows => if items.length + rows.length ≤ 100000 then some (.none, items ++ rows.map rowA) else none else none
def inst (col : Nat) (fs : List (Str × AV)) : Prop := fs.lookup ("_wrapcolumn" : Str) = some (.int col) ∧ fs.lookup ("_split_line" : Str) = none
theorem GS_eq {n col : Nat} {fs : List (Str × AV)} (hf : inst col fs) (items : List AV) (hd : AV) (t : List Nat) (rows : List Row) (hs : splitT n col hd t = some rows) (hz : items.length + rows.length ≤ 100000) : GS n (.inst 113 fs) items [hd, .str (tx t)] = some (.none, items ++ rows.map rowA) := by
  have hs' : splitT n (col : Int).toNat hd (tx t).cps.toList = some rows := by rw [tx_list, Int.toNat_natCast]; exact hs
  exact bindS rfl (bindS rfl (bindS rfl (bindS hf.1 (bindS rfl (ifP ⟨rfl, hf.2, Int.natCast_nonneg col⟩ (bindS hs' (ifP hz rfl)))))))
theorem GS_inv {n : Nat} {self : AV} {items args : List AV} {av : AV} {items' : List AV} (h : GS n self items args = some (av, items')) :
    ∃ col fs hd t rows, self = .inst 113 fs ∧ inst col fs ∧ args = [hd, .str (tx t)] ∧ splitT n col hd t = some rows ∧ items.length + rows.length ≤ 100000 ∧ av = .none ∧ items' = items ++ rows.map rowA := by
  obtain ⟨p, hp, h⟩ := bindO h
  obtain ⟨q, hq, h⟩ := bindO h
  obtain ⟨x, hx, h⟩ := bindO h
  obtain ⟨a, hl, h⟩ := bindO h
  obtain ⟨col, hc, h⟩ := bindO h
  obtain ⟨⟨c1, c2, c3⟩, h⟩ := iteO h
  obtain ⟨rows, hr, h⟩ := bindO h
  obtain ⟨hz, h⟩ := iteO h
  have hh := Option.some.inj h
  refine ⟨col.toNat, p.2, q.1, x.cps.toList, rows, c1 ▸ inst?_eq hp, ⟨hl.trans ?_, c2⟩, (two?_eq hq).trans ?_, hr, hz, (congrArg Prod.fst hh).symm, (congrArg Prod.snd hh).symm⟩
  · rw [int?_eq hc, Int.toNat_of_nonneg c3]
  · rw [str?_eq hx]; rfl
theorem attr_eq {col : Nat} {fs : List (Str × AV)} (hf : inst col fs) : attrA 113 "_wrapcolumn" (.inst 113 fs) = some (.int col) := by
  unfold attrA
  simp only [hf.1, if_true, plainV]
def sp0 (self hd : AV) (a : Addr) (items : List AV) (t : List Nat) : Slots := (((one1 "line_num" hd).set "text" (.val (.str (tx t)))).set "self" (.val self)).set "data_list" (.own ⟨some a, items⟩)
theorem split_tail (n col : Nat) (fs : List (Str × AV)) (hd : AV) (a : Addr) (items : List AV) (t : List Nat) (ρ : Slots) (i nn : Nat) (mark : Option Nat) (rows : List Row) (hf : inst col fs) (ht : t.length ≤ 90000) (hz : items.length + 1 + rows.length ≤ 100000)
    (st : SplSt ρ t col i nn mark (.inst 113 fs) hd ⟨some a, items⟩) (hr : splitT n col gt (opens mark ++ t.drop i) = some rows) :
    ∃ ρ', fSplit_k14 (GS n) ρ = some (.next, ρ') ∧ ρ' "data_list" = some (.own ⟨some a, items ++ ((hd, t.take i ++ close mark) :: rows).map rowA⟩) := by
  obtain ⟨h1, h2, h3, h4, h5, h6, h7, h8, h9⟩ := st
  have ht' : t.length ≤ 1000000 := by (first | lia | omega)
  have q1 : cutL t none (some (i : Int)) = t.take i := cut_take t i
  have q2 : cutL t (some (i : Int)) none = t.drop i := cut_drop t i
  have l1 : (t.take i).length ≤ 90000 := by rw [List.length_take]; (first | lia | omega)
  have l2 : (t.drop i).length ≤ 90000 := by rw [List.length_drop]; (first | lia | omega)
  have key : ∀ (ρ' : Slots) (x y : List Nat), getV ρ' "self" = some (.inst 113 fs) → getV ρ' "line_num" = some hd → getO ρ' "data_list" = some ⟨some a, items⟩ → getV ρ' "line1" = some (.str (tx x)) → getV ρ' "line2" = some (.str (tx y)) → splitT n col gt y = some rows →
      ∃ ρ'', fSplit_k11 (GS n) ρ' = some (.next, ρ'') ∧ ρ'' "data_list" = some (.own ⟨some a, items ++ ((hd, x) :: rows).map rowA⟩) := by
    intro ρ' x y k1 k2 k3 k4 k5 k6
    have hG := GS_eq hf (items ++ [rowA (hd, x)]) gt y rows k6 (by rw [List.length_append, List.length_singleton]; (first | lia | omega))
    have hgt : AV.str (Str.ofString ">") = gt := congrArg AV.str l_gt
    have hL : lentA 113 "_split_line" (GS n) (ρ'.set "data_list" (.own ⟨some a, items ++ [rowA (hd, x)]⟩)) "data_list" (.inst 113 fs) ⟨some a, items ++ [rowA (hd, x)]⟩ [.str (Str.ofString ">"), .str (tx y)] = some (.none, (ρ'.set "data_list" (.own ⟨some a, items ++ [rowA (hd, x)]⟩)).set "data_list" (.own ⟨some a, items ++ [rowA (hd, x)] ++ rows.map rowA⟩)) := by
      rw [hgt]
      unfold lentA
      exact ifP ⟨rfl, hf.2⟩ (bindS hG rfl)
    refine ⟨(ρ'.set "data_list" (.own ⟨some a, items ++ [rowA (hd, x)]⟩)).set "data_list" (.own ⟨some a, items ++ [rowA (hd, x)] ++ rows.map rowA⟩), ?_, ?_⟩
    · have hz1 : items.length ≤ 1000000 := by (first | lia | omega)
      replace hL : lentA 113 "_split_line" (GS n) (ρ'.set "data_list" (.own ⟨some a, items ++ [AV.tup [hd, .str (tx x)]]⟩)) "data_list" (.inst 113 fs) ⟨some a, items ++ [AV.tup [hd, .str (tx x)]]⟩ [.str (Str.ofString ">"), .str (tx y)] = _ := hL
      unfold fSplit_k11 fSplit_k10
      (repeat' first | with_reducible exact Mine.getV_hit _ _ _ | with_reducible exact Mine.getO_hit _ _ _ | with_reducible assumption | with_reducible refine Mine.getV_skip ?_ ?_ | with_reducible refine Mine.getO_skip ?_ ?_ | with_reducible exact Mine.truthN_hitB _ _ _ | with_reducible refine Mine.truthN_skip ?_ ?_ | with_reducible exact Mine.aug_int _ _ | with_reducible exact Mine.truth_bool _ | with_reducible exact Mine.iter_lst _ | with_reducible refine Mine.iteT ?_ | with_reducible refine Mine.iteF ?_ | with_reducible apply Mine.bindS | with_reducible refine Mine.thenS ?_ | with_reducible exact Mine.thenA_ret _ _ _ | with_reducible refine Mine.noneS ?_ | with_reducible apply Mine.ifP | with_reducible rfl | exact Nat.le_of_ble_eq_true rfl | exact ⟨rfl, Nat.le_of_ble_eq_true rfl⟩ | decide)
    · rw [set_hit, List.map_cons, List.append_assoc]; rfl
  have c1 := cut_str t none (some (i : Int)) ht'
  have c2 := cut_str t (some (i : Int)) none ht'
  rw [q1] at c1
  rw [q2] at c2
  have ai : (asInt (.int i)).map some = some (some (i : Int)) := rfl
  have base : ∀ r, fSplit_k12 (GS n) ((ρ.set "line1" (.val (.str (tx (t.take i))))).set "line2" (.val (.str (tx (t.drop i))))) = r → fSplit_k14 (GS n) ρ = r := fun r hr => by
    unfold fSplit_k14 fSplit_k13
    (repeat' first | with_reducible exact Mine.getV_hit _ _ _ | with_reducible exact Mine.getO_hit _ _ _ | with_reducible assumption | with_reducible refine Mine.getV_skip ?_ ?_ | with_reducible refine Mine.getO_skip ?_ ?_ | with_reducible exact Mine.truthN_hitB _ _ _ | with_reducible refine Mine.truthN_skip ?_ ?_ | with_reducible exact Mine.aug_int _ _ | with_reducible exact Mine.truth_bool _ | with_reducible exact Mine.iter_lst _ | with_reducible refine Mine.iteT ?_ | with_reducible refine Mine.iteF ?_ | with_reducible apply Mine.bindS | with_reducible refine Mine.thenS ?_ | with_reducible exact Mine.thenA_ret _ _ _ | with_reducible refine Mine.noneS ?_ | with_reducible apply Mine.ifP | with_reducible rfl | exact Nat.le_of_ble_eq_true rfl | exact ⟨rfl, Nat.le_of_ble_eq_true rfl⟩ | decide)
  cases mark with
  | none =>
    have e : truthN ((ρ.set "line1" (.val (.str (tx (t.take i))))).set "line2" (.val (.str (tx (t.drop i))))) "mark" = some false := by
      rw [truthN_val (a := .str (tx [])) (getV_skip rfl (getV_skip rfl h6)), truth_str _ (Nat.zero_le _)]; rfl
    obtain ⟨ρ'', e1, e2⟩ := key ((ρ.set "line1" (.val (.str (tx (t.take i))))).set "line2" (.val (.str (tx (t.drop i))))) (t.take i) (t.drop i) (by (repeat' first | with_reducible exact Mine.getV_hit _ _ _ | with_reducible exact Mine.getO_hit _ _ _ | with_reducible assumption | with_reducible refine Mine.getV_skip ?_ ?_ | with_reducible refine Mine.getO_skip ?_ ?_ | with_reducible exact Mine.truthN_hitB _ _ _ | with_reducible refine Mine.truthN_skip ?_ ?_ | with_reducible exact Mine.aug_int _ _ | with_reducible exact Mine.truth_bool _ | with_reducible exact Mine.iter_lst _ | with_reducible refine Mine.iteT ?_ | with_reducible refine Mine.iteF ?_ | with_reducible apply Mine.bindS | with_reducible refine Mine.thenS ?_ | with_reducible exact Mine.thenA_ret _ _ _ | with_reducible refine Mine.noneS ?_ | with_reducible apply Mine.ifP | with_reducible rfl | exact Nat.le_of_ble_eq_true rfl | exact ⟨rfl, Nat.le_of_ble_eq_true rfl⟩ | decide)) (by (repeat' first | with_reducible exact Mine.getV_hit _ _ _ | with_reducible exact Mine.getO_hit _ _ _ | with_reducible assumption | with_reducible refine Mine.getV_skip ?_ ?_ | with_reducible refine Mine.getO_skip ?_ ?_ | with_reducible exact Mine.truthN_hitB _ _ _ | with_reducible refine Mine.truthN_skip ?_ ?_ | with_reducible exact Mine.aug_int _ _ | with_reducible exact Mine.truth_bool _ | with_reducible exact Mine.iter_lst _ | with_reducible refine Mine.iteT ?_ | with_reducible refine Mine.iteF ?_ | with_reducible apply Mine.bindS | with_reducible refine Mine.thenS ?_ | with_reducible exact Mine.thenA_ret _ _ _ | with_reducible refine Mine.noneS ?_ | with_reducible apply Mine.ifP | with_reducible rfl | exact Nat.le_of_ble_eq_true rfl | exact ⟨rfl, Nat.le_of_ble_eq_true rfl⟩ | decide)) (by (repeat' first | with_reducible exact Mine.getV_hit _ _ _ | with_reducible exact Mine.getO_hit _ _ _ | with_reducible assumption | with_reducible refine Mine.getV_skip ?_ ?_ | with_reducible refine Mine.getO_skip ?_ ?_ | with_reducible exact Mine.truthN_hitB _ _ _ | with_reducible refine Mine.truthN_skip ?_ ?_ | with_reducible exact Mine.aug_int _ _ | with_reducible exact Mine.truth_bool _ | with_reducible exact Mine.iter_lst _ | with_reducible refine Mine.iteT ?_ | with_reducible refine Mine.iteF ?_ | with_reducible apply Mine.bindS | with_reducible refine Mine.thenS ?_ | with_reducible exact Mine.thenA_ret _ _ _ | with_reducible refine Mine.noneS ?_ | with_reducible apply Mine.ifP | with_reducible rfl | exact Nat.le_of_ble_eq_true rfl | exact ⟨rfl, Nat.le_of_ble_eq_true rfl⟩ | decide)) (by (repeat' first | with_reducible exact Mine.getV_hit _ _ _ | with_reducible exact Mine.getO_hit _ _ _ | with_reducible assumption | with_reducible refine Mine.getV_skip ?_ ?_ | with_reducible refine Mine.getO_skip ?_ ?_ | with_reducible exact Mine.truthN_hitB _ _ _ | with_reducible refine Mine.truthN_skip ?_ ?_ | with_reducible exact Mine.aug_int _ _ | with_reducible exact Mine.truth_bool _ | with_reducible exact Mine.iter_lst _ | with_reducible refine Mine.iteT ?_ | with_reducible refine Mine.iteF ?_ | with_reducible apply Mine.bindS | with_reducible refine Mine.thenS ?_ | with_reducible exact Mine.thenA_ret _ _ _ | with_reducible refine Mine.noneS ?_ | with_reducible apply Mine.ifP | with_reducible rfl | exact Nat.le_of_ble_eq_true rfl | exact ⟨rfl, Nat.le_of_ble_eq_true rfl⟩ | decide)) (by (repeat' first | with_reducible exact Mine.getV_hit _ _ _ | with_reducible exact Mine.getO_hit _ _ _ | with_reducible assumption | with_reducible refine Mine.getV_skip ?_ ?_ | with_reducible refine Mine.getO_skip ?_ ?_ | with_reducible exact Mine.truthN_hitB _ _ _ | with_reducible refine Mine.truthN_skip ?_ ?_ | with_reducible exact Mine.aug_int _ _ | with_reducible exact Mine.truth_bool _ | with_reducible exact Mine.iter_lst _ | with_reducible refine Mine.iteT ?_ | with_reducible refine Mine.iteF ?_ | with_reducible apply Mine.bindS | with_reducible refine Mine.thenS ?_ | with_reducible exact Mine.thenA_ret _ _ _ | with_reducible refine Mine.noneS ?_ | with_reducible apply Mine.ifP | with_reducible rfl | exact Nat.le_of_ble_eq_true rfl | exact ⟨rfl, Nat.le_of_ble_eq_true rfl⟩ | decide)) hr
    refine ⟨ρ'', base _ ?_, by rw [close, List.append_nil]; exact e2⟩
    unfold fSplit_k12
    exact bindS (bindS e (iteF rfl)) e1
  | some m =>
    have e : truthN ((ρ.set "line1" (.val (.str (tx (t.take i))))).set "line2" (.val (.str (tx (t.drop i))))) "mark" = some true := by
      rw [truthN_val (a := .str (tx [m])) (getV_skip rfl (getV_skip rfl h6)), truth_str _ (Nat.le_of_ble_eq_true rfl)]; rfl
    have h6' : getV ρ "mark" = some (.str (tx [m])) := h6
    obtain ⟨ρ'', e1, e2⟩ := key ((((ρ.set "line1" (.val (.str (tx (t.take i))))).set "line2" (.val (.str (tx (t.drop i))))).set "line1" (.val (.str (tx (t.take i ++ [1]))))).set "line2" (.val (.str (tx ([0] ++ [m] ++ t.drop i))))) (t.take i ++ [1]) ([0] ++ [m] ++ t.drop i)
      (by (repeat' first | with_reducible exact Mine.getV_hit _ _ _ | with_reducible exact Mine.getO_hit _ _ _ | with_reducible assumption | with_reducible refine Mine.getV_skip ?_ ?_ | with_reducible refine Mine.getO_skip ?_ ?_ | with_reducible exact Mine.truthN_hitB _ _ _ | with_reducible refine Mine.truthN_skip ?_ ?_ | with_reducible exact Mine.aug_int _ _ | with_reducible exact Mine.truth_bool _ | with_reducible exact Mine.iter_lst _ | with_reducible refine Mine.iteT ?_ | with_reducible refine Mine.iteF ?_ | with_reducible apply Mine.bindS | with_reducible refine Mine.thenS ?_ | with_reducible exact Mine.thenA_ret _ _ _ | with_reducible refine Mine.noneS ?_ | with_reducible apply Mine.ifP | with_reducible rfl | exact Nat.le_of_ble_eq_true rfl | exact ⟨rfl, Nat.le_of_ble_eq_true rfl⟩ | decide)) (by (repeat' first | with_reducible exact Mine.getV_hit _ _ _ | with_reducible exact Mine.getO_hit _ _ _ | with_reducible assumption | with_reducible refine Mine.getV_skip ?_ ?_ | with_reducible refine Mine.getO_skip ?_ ?_ | with_reducible exact Mine.truthN_hitB _ _ _ | with_reducible refine Mine.truthN_skip ?_ ?_ | with_reducible exact Mine.aug_int _ _ | with_reducible exact Mine.truth_bool _ | with_reducible exact Mine.iter_lst _ | with_reducible refine Mine.iteT ?_ | with_reducible refine Mine.iteF ?_ | with_reducible apply Mine.bindS | with_reducible refine Mine.thenS ?_ | with_reducible exact Mine.thenA_ret _ _ _ | with_reducible refine Mine.noneS ?_ | with_reducible apply Mine.ifP | with_reducible rfl | exact Nat.le_of_ble_eq_true rfl | exact ⟨rfl, Nat.le_of_ble_eq_true rfl⟩ | decide)) (by (repeat' first | with_reducible exact Mine.getV_hit _ _ _ | with_reducible exact Mine.getO_hit _ _ _ | with_reducible assumption | with_reducible refine Mine.getV_skip ?_ ?_ | with_reducible refine Mine.getO_skip ?_ ?_ | with_reducible exact Mine.truthN_hitB _ _ _ | with_reducible refine Mine.truthN_skip ?_ ?_ | with_reducible exact Mine.aug_int _ _ | with_reducible exact Mine.truth_bool _ | with_reducible exact Mine.iter_lst _ | with_reducible refine Mine.iteT ?_ | with_reducible refine Mine.iteF ?_ | with_reducible apply Mine.bindS | with_reducible refine Mine.thenS ?_ | with_reducible exact Mine.thenA_ret _ _ _ | with_reducible refine Mine.noneS ?_ | with_reducible apply Mine.ifP | with_reducible rfl | exact Nat.le_of_ble_eq_true rfl | exact ⟨rfl, Nat.le_of_ble_eq_true rfl⟩ | decide)) (by (repeat' first | with_reducible exact Mine.getV_hit _ _ _ | with_reducible exact Mine.getO_hit _ _ _ | with_reducible assumption | with_reducible refine Mine.getV_skip ?_ ?_ | with_reducible refine Mine.getO_skip ?_ ?_ | with_reducible exact Mine.truthN_hitB _ _ _ | with_reducible refine Mine.truthN_skip ?_ ?_ | with_reducible exact Mine.aug_int _ _ | with_reducible exact Mine.truth_bool _ | with_reducible exact Mine.iter_lst _ | with_reducible refine Mine.iteT ?_ | with_reducible refine Mine.iteF ?_ | with_reducible apply Mine.bindS | with_reducible refine Mine.thenS ?_ | with_reducible exact Mine.thenA_ret _ _ _ | with_reducible refine Mine.noneS ?_ | with_reducible apply Mine.ifP | with_reducible rfl | exact Nat.le_of_ble_eq_true rfl | exact ⟨rfl, Nat.le_of_ble_eq_true rfl⟩ | decide)) (by (repeat' first | with_reducible exact Mine.getV_hit _ _ _ | with_reducible exact Mine.getO_hit _ _ _ | with_reducible assumption | with_reducible refine Mine.getV_skip ?_ ?_ | with_reducible refine Mine.getO_skip ?_ ?_ | with_reducible exact Mine.truthN_hitB _ _ _ | with_reducible refine Mine.truthN_skip ?_ ?_ | with_reducible exact Mine.aug_int _ _ | with_reducible exact Mine.truth_bool _ | with_reducible exact Mine.iter_lst _ | with_reducible refine Mine.iteT ?_ | with_reducible refine Mine.iteF ?_ | with_reducible apply Mine.bindS | with_reducible refine Mine.thenS ?_ | with_reducible exact Mine.thenA_ret _ _ _ | with_reducible refine Mine.noneS ?_ | with_reducible apply Mine.ifP | with_reducible rfl | exact Nat.le_of_ble_eq_true rfl | exact ⟨rfl, Nat.le_of_ble_eq_true rfl⟩ | decide)) hr
    refine ⟨ρ'', base _ ?_, e2⟩
    have b1 : binA .Add (.str (tx (t.take i))) (.str (Str.ofString "\x01")) = _ := (congrArg (fun x => binA .Add (.str (tx (t.take i))) (.str x)) l_one).trans (bin_str (t.take i) [1] (by rw [List.length_singleton]; (first | lia | omega)))
    have b2 : binA .Add (.str (Str.ofString "\x00")) (.str (tx [m])) = _ := (congrArg (fun x => binA .Add (.str x) (.str (tx [m]))) l_zero).trans (bin_str [0] [m] (Nat.le_of_ble_eq_true rfl))
    have b3 := bin_str ([0] ++ [m]) (t.drop i) (by rw [List.length_append, List.length_singleton, List.length_singleton]; (first | lia | omega))
    unfold fSplit_k12 fSplit_k9
    (repeat' first | with_reducible exact Mine.getV_hit _ _ _ | with_reducible exact Mine.getO_hit _ _ _ | with_reducible assumption | with_reducible refine Mine.getV_skip ?_ ?_ | with_reducible refine Mine.getO_skip ?_ ?_ | with_reducible exact Mine.truthN_hitB _ _ _ | with_reducible refine Mine.truthN_skip ?_ ?_ | with_reducible exact Mine.aug_int _ _ | with_reducible exact Mine.truth_bool _ | with_reducible exact Mine.iter_lst _ | with_reducible refine Mine.iteT ?_ | with_reducible refine Mine.iteF ?_ | with_reducible apply Mine.bindS | with_reducible refine Mine.thenS ?_ | with_reducible exact Mine.thenA_ret _ _ _ | with_reducible refine Mine.noneS ?_ | with_reducible apply Mine.ifP | with_reducible rfl | exact Nat.le_of_ble_eq_true rfl | exact ⟨rfl, Nat.le_of_ble_eq_true rfl⟩ | decide)
end Mine
end
section
set_option linter.unusedVariables false
set_option linter.unusedSimpArgs false
set_option maxHeartbeats 1000000
namespace Mine
theorem split_k19 {GS : LG} {ρ : Slots} {t : List Nat} {col c : Nat} {r : Option (AFlow × Slots)} (g1 : getV ρ "size" = some (.int t.length)) (g2 : getV ρ "max" = some (.int col)) (g3 : getV ρ "text" = some (.str (tx t)))
    (h1 : cmpA .LtE (.int t.length) (.int col) = some false) (h2 : countF [.str (tx t), .str (Str.ofString "\x00")] = some (.int c)) (h3 : binA .Mult (.int c) (.int 3) = some (.int (c * 3))) (h4 : binA .Sub (.int t.length) (.int (c * 3)) = some (.int (t.length - c * 3)))
    (h5 : cmpA .LtE (.int (t.length - c * 3)) (.int col) = some false) (hr : fSplit_k18 GS ρ = r) : fSplit_k19 GS ρ = r := by
  have sa : strArg (.str (tx t)) = some (tx t) := Eq.trans rfl rfl
  unfold fSplit_k19
  (repeat' first | with_reducible exact Mine.getV_hit _ _ _ | with_reducible exact Mine.getO_hit _ _ _ | with_reducible assumption | with_reducible refine Mine.getV_skip ?_ ?_ | with_reducible refine Mine.getO_skip ?_ ?_ | with_reducible exact Mine.truthN_hitB _ _ _ | with_reducible refine Mine.truthN_skip ?_ ?_ | with_reducible exact Mine.aug_int _ _ | with_reducible exact Mine.truth_bool _ | with_reducible exact Mine.iter_lst _ | with_reducible refine Mine.iteT ?_ | with_reducible refine Mine.iteF ?_ | with_reducible apply Mine.bindS | with_reducible refine Mine.thenS ?_ | with_reducible exact Mine.thenA_ret _ _ _ | with_reducible refine Mine.noneS ?_ | with_reducible apply Mine.ifP | with_reducible rfl | exact Nat.le_of_ble_eq_true rfl | exact ⟨rfl, Nat.le_of_ble_eq_true rfl⟩ | decide)
theorem len2 {β : Type} {l : List β} (h : l.length = 2) : ∃ a b, l = [a, b] := by
  cases l with
  | nil => cases h
  | cons a l => obtain ⟨b, rfl⟩ := List.length_eq_one_iff.mp (Nat.succ.inj h); exact ⟨a, b, rfl⟩
theorem split_none {GS : LG} {ρ : Slots} {hd : AV} {t : List Nat} {a : Addr} {items : List AV} (g1 : getV ρ "line_num" = some hd) (g2 : getV ρ "text" = some (.str (tx t))) (g4 : getO ρ "data_list" = some ⟨some a, items⟩) (tn : truthN ρ "line_num" = some false) (hz : items.length ≤ 1000000) :
    fSplit GS ρ = some (.ret .none, ρ.set "data_list" (.own ⟨some a, items ++ [AV.tup [hd, .str (tx t)]]⟩)) := by
  have tn' : (truthN ρ "line_num").map (!·) = some true := mapS tn rfl
  unfold fSplit fSplit_k1
  (repeat' first | with_reducible exact Mine.getV_hit _ _ _ | with_reducible exact Mine.getO_hit _ _ _ | with_reducible assumption | with_reducible refine Mine.getV_skip ?_ ?_ | with_reducible refine Mine.getO_skip ?_ ?_ | with_reducible exact Mine.truthN_hitB _ _ _ | with_reducible refine Mine.truthN_skip ?_ ?_ | with_reducible exact Mine.aug_int _ _ | with_reducible exact Mine.truth_bool _ | with_reducible exact Mine.iter_lst _ | with_reducible refine Mine.iteT ?_ | with_reducible refine Mine.iteF ?_ | with_reducible apply Mine.bindS | with_reducible refine Mine.thenS ?_ | with_reducible exact Mine.thenA_ret _ _ _ | with_reducible refine Mine.noneS ?_ | with_reducible apply Mine.ifP | with_reducible rfl | exact Nat.le_of_ble_eq_true rfl | exact ⟨rfl, Nat.le_of_ble_eq_true rfl⟩ | decide)
theorem split_base {GS : LG} {ρ : Slots} {t : List Nat} {col : Nat} {fs : List (Str × AV)} {r : Option (AFlow × Slots)} (g2 : getV ρ "text" = some (.str (tx t))) (g3 : getV ρ "self" = some (.inst 113 fs)) (hf : inst col fs) (tn : truthN ρ "line_num" = some true) (ht : t.length ≤ 1000000)
    (hr : fSplit_k19 GS ((ρ.set "size" (.val (.int t.length))).set "max" (.val (.int col))) = r) : fSplit GS ρ = r := by
  have tn' : (truthN ρ "line_num").map (!·) = some false := mapS tn rfl
  have hlen := len_str t ht
  have hat := attr_eq hf
  have e20 : fSplit_k20 GS (ρ.set "size" (.val (.int t.length))) = r := by
    unfold fSplit_k20; (repeat' first | with_reducible exact Mine.getV_hit _ _ _ | with_reducible exact Mine.getO_hit _ _ _ | with_reducible assumption | with_reducible refine Mine.getV_skip ?_ ?_ | with_reducible refine Mine.getO_skip ?_ ?_ | with_reducible exact Mine.truthN_hitB _ _ _ | with_reducible refine Mine.truthN_skip ?_ ?_ | with_reducible exact Mine.aug_int _ _ | with_reducible exact Mine.truth_bool _ | with_reducible exact Mine.iter_lst _ | with_reducible refine Mine.iteT ?_ | with_reducible refine Mine.iteF ?_ | with_reducible apply Mine.bindS | with_reducible refine Mine.thenS ?_ | with_reducible exact Mine.thenA_ret _ _ _ | with_reducible refine Mine.noneS ?_ | with_reducible apply Mine.ifP | with_reducible rfl | exact Nat.le_of_ble_eq_true rfl | exact ⟨rfl, Nat.le_of_ble_eq_true rfl⟩ | decide)
  have e21 : fSplit_k21 GS ρ = r := by
    unfold fSplit_k21; (repeat' first | with_reducible exact Mine.getV_hit _ _ _ | with_reducible exact Mine.getO_hit _ _ _ | with_reducible assumption | with_reducible refine Mine.getV_skip ?_ ?_ | with_reducible refine Mine.getO_skip ?_ ?_ | with_reducible exact Mine.truthN_hitB _ _ _ | with_reducible refine Mine.truthN_skip ?_ ?_ | with_reducible exact Mine.aug_int _ _ | with_reducible exact Mine.truth_bool _ | with_reducible exact Mine.iter_lst _ | with_reducible refine Mine.iteT ?_ | with_reducible refine Mine.iteF ?_ | with_reducible apply Mine.bindS | with_reducible refine Mine.thenS ?_ | with_reducible exact Mine.thenA_ret _ _ _ | with_reducible refine Mine.noneS ?_ | with_reducible apply Mine.ifP | with_reducible rfl | exact Nat.le_of_ble_eq_true rfl | exact ⟨rfl, Nat.le_of_ble_eq_true rfl⟩ | decide)
  unfold fSplit
  (repeat' first | with_reducible exact Mine.getV_hit _ _ _ | with_reducible exact Mine.getO_hit _ _ _ | with_reducible assumption | with_reducible refine Mine.getV_skip ?_ ?_ | with_reducible refine Mine.getO_skip ?_ ?_ | with_reducible exact Mine.truthN_hitB _ _ _ | with_reducible refine Mine.truthN_skip ?_ ?_ | with_reducible exact Mine.aug_int _ _ | with_reducible exact Mine.truth_bool _ | with_reducible exact Mine.iter_lst _ | with_reducible refine Mine.iteT ?_ | with_reducible refine Mine.iteF ?_ | with_reducible apply Mine.bindS | with_reducible refine Mine.thenS ?_ | with_reducible exact Mine.thenA_ret _ _ _ | with_reducible refine Mine.noneS ?_ | with_reducible apply Mine.ifP | with_reducible rfl | exact Nat.le_of_ble_eq_true rfl | exact ⟨rfl, Nat.le_of_ble_eq_true rfl⟩ | decide)
theorem split_one {GS : LG} {ρ : Slots} {hd : AV} {t : List Nat} {a : Addr} {items : List AV} (g1 : getV ρ "line_num" = some hd) (g2 : getV ρ "text" = some (.str (tx t))) (g4 : getO ρ "data_list" = some ⟨some a, items⟩) (hz : items.length ≤ 1000000) {c : Slots → Option Bool} (hc : c ρ = some true)
    (he : fSplit_k19 GS = fun ρ => (((c ρ) >>= fun b => if b = true then ((((getO ρ "data_list") >>= fun l => ((((getV ρ "line_num") >>= fun a => ((getV ρ "text") >>= fun a => (some []) >>= fun l => some (a :: l)) >>= fun l => some (a :: l)) >>= fun l => if l.length ≤ 1000000 then some (.tup l) else none)) >>= fun a => if l.items.length ≤ 1000000 then some (.next, Slots.set ρ "data_list" (.own ⟨l.place, l.items ++ [a]⟩)) else none) >>= thenA (fSplit_k2 GS))) else (some (.next, ρ))) >>= thenA (fSplit_k18 GS))) :
    fSplit_k19 GS ρ = some (.ret .none, ρ.set "data_list" (.own ⟨some a, items ++ [AV.tup [hd, .str (tx t)]]⟩)) := by
  have e2 : ∀ ρ, fSplit_k2 GS ρ = some (.ret .none, ρ) := fun _ => rfl
  have e2' := e2 (ρ.set "data_list" (.own ⟨some a, items ++ [AV.tup [hd, .str (tx t)]]⟩))
  rw [he]
  show ((c ρ >>= _) >>= _) = _
  (repeat' first | with_reducible exact Mine.getV_hit _ _ _ | with_reducible exact Mine.getO_hit _ _ _ | with_reducible assumption | with_reducible refine Mine.getV_skip ?_ ?_ | with_reducible refine Mine.getO_skip ?_ ?_ | with_reducible exact Mine.truthN_hitB _ _ _ | with_reducible refine Mine.truthN_skip ?_ ?_ | with_reducible exact Mine.aug_int _ _ | with_reducible exact Mine.truth_bool _ | with_reducible exact Mine.iter_lst _ | with_reducible refine Mine.iteT ?_ | with_reducible refine Mine.iteF ?_ | with_reducible apply Mine.bindS | with_reducible refine Mine.thenS ?_ | with_reducible exact Mine.thenA_ret _ _ _ | with_reducible refine Mine.noneS ?_ | with_reducible apply Mine.ifP | with_reducible rfl | exact Nat.le_of_ble_eq_true rfl | exact ⟨rfl, Nat.le_of_ble_eq_true rfl⟩ | decide)
theorem split_core (n : Nat) (a : Addr) {col : Nat} {fs : List (Str × AV)} {hd : AV} {t : List Nat} {rows : List Row} {items : List AV} {ρ : Slots} (hf : inst col fs) (hs : splitT (n + 1) col hd t = some rows) (hz : items.length + rows.length ≤ 100000)
    (g1 : getV ρ "line_num" = some hd) (g2 : getV ρ "text" = some (.str (tx t))) (g3 : getV ρ "self" = some (.inst 113 fs)) (g4 : getO ρ "data_list" = some ⟨some a, items⟩) :
    ∃ fl ρ', fSplit (GS n) ρ = some (fl, ρ') ∧ retA fl = .none ∧ ρ' "data_list" = some (.own ⟨some a, items ++ rows.map rowA⟩) := by
  unfold splitT at hs
  obtain ⟨b, hb', hs⟩ := bindO hs
  have tn : truthN ρ "line_num" = some b := (truthN_val g1).trans hb'
  obtain ⟨ht, hs⟩ := iteO hs
  have hz1 : items.length ≤ 1000000 := by (first | lia | omega)
  have ht' : t.length ≤ 1000000 := by (first | lia | omega)
  cases b with
  | false =>
    cases hs
    exact ⟨_, _, split_none g1 g2 g4 tn hz1, rfl, set_hit _ _ _⟩
  | true =>
    have hcz : t.count 0 ≤ t.length := List.count_le_length
    have hm : binA .Mult (.int (t.count 0 : Nat)) (.int 3) = some (.int ((t.count 0 : Nat) * 3)) := mul_int _ _ (by (first | lia | omega)) (by (first | lia | omega))
    have hct : countF [.str (tx t), .str (Str.ofString "\x00")] = some (.int (t.count 0 : Nat)) := by rw [l_zero]; exact countF_eq t
    obtain ⟨ρ', base, gs1, gs2, gs3, gs4, gs5, gs6⟩ : ∃ ρ', (∀ r, fSplit_k19 (GS n) ρ' = r → fSplit (GS n) ρ = r) ∧ getV ρ' "size" = some (.int t.length) ∧ getV ρ' "max" = some (.int col) ∧ getV ρ' "text" = some (.str (tx t)) ∧ getV ρ' "line_num" = some hd ∧ getO ρ' "data_list" = some ⟨some a, items⟩ ∧ getV ρ' "self" = some (.inst 113 fs) :=
      ⟨_, fun r h => split_base g2 g3 hf tn ht' h, by (repeat' first | with_reducible exact Mine.getV_hit _ _ _ | with_reducible exact Mine.getO_hit _ _ _ | with_reducible assumption | with_reducible refine Mine.getV_skip ?_ ?_ | with_reducible refine Mine.getO_skip ?_ ?_ | with_reducible exact Mine.truthN_hitB _ _ _ | with_reducible refine Mine.truthN_skip ?_ ?_ | with_reducible exact Mine.aug_int _ _ | with_reducible exact Mine.truth_bool _ | with_reducible exact Mine.iter_lst _ | with_reducible refine Mine.iteT ?_ | with_reducible refine Mine.iteF ?_ | with_reducible apply Mine.bindS | with_reducible refine Mine.thenS ?_ | with_reducible exact Mine.thenA_ret _ _ _ | with_reducible refine Mine.noneS ?_ | with_reducible apply Mine.ifP | with_reducible rfl | exact Nat.le_of_ble_eq_true rfl | exact ⟨rfl, Nat.le_of_ble_eq_true rfl⟩ | decide), by (repeat' first | with_reducible exact Mine.getV_hit _ _ _ | with_reducible exact Mine.getO_hit _ _ _ | with_reducible assumption | with_reducible refine Mine.getV_skip ?_ ?_ | with_reducible refine Mine.getO_skip ?_ ?_ | with_reducible exact Mine.truthN_hitB _ _ _ | with_reducible refine Mine.truthN_skip ?_ ?_ | with_reducible exact Mine.aug_int _ _ | with_reducible exact Mine.truth_bool _ | with_reducible exact Mine.iter_lst _ | with_reducible refine Mine.iteT ?_ | with_reducible refine Mine.iteF ?_ | with_reducible apply Mine.bindS | with_reducible refine Mine.thenS ?_ | with_reducible exact Mine.thenA_ret _ _ _ | with_reducible refine Mine.noneS ?_ | with_reducible apply Mine.ifP | with_reducible rfl | exact Nat.le_of_ble_eq_true rfl | exact ⟨rfl, Nat.le_of_ble_eq_true rfl⟩ | decide), by (repeat' first | with_reducible exact Mine.getV_hit _ _ _ | with_reducible exact Mine.getO_hit _ _ _ | with_reducible assumption | with_reducible refine Mine.getV_skip ?_ ?_ | with_reducible refine Mine.getO_skip ?_ ?_ | with_reducible exact Mine.truthN_hitB _ _ _ | with_reducible refine Mine.truthN_skip ?_ ?_ | with_reducible exact Mine.aug_int _ _ | with_reducible exact Mine.truth_bool _ | with_reducible exact Mine.iter_lst _ | with_reducible refine Mine.iteT ?_ | with_reducible refine Mine.iteF ?_ | with_reducible apply Mine.bindS | with_reducible refine Mine.thenS ?_ | with_reducible exact Mine.thenA_ret _ _ _ | with_reducible refine Mine.noneS ?_ | with_reducible apply Mine.ifP | with_reducible rfl | exact Nat.le_of_ble_eq_true rfl | exact ⟨rfl, Nat.le_of_ble_eq_true rfl⟩ | decide), by (repeat' first | with_reducible exact Mine.getV_hit _ _ _ | with_reducible exact Mine.getO_hit _ _ _ | with_reducible assumption | with_reducible refine Mine.getV_skip ?_ ?_ | with_reducible refine Mine.getO_skip ?_ ?_ | with_reducible exact Mine.truthN_hitB _ _ _ | with_reducible refine Mine.truthN_skip ?_ ?_ | with_reducible exact Mine.aug_int _ _ | with_reducible exact Mine.truth_bool _ | with_reducible exact Mine.iter_lst _ | with_reducible refine Mine.iteT ?_ | with_reducible refine Mine.iteF ?_ | with_reducible apply Mine.bindS | with_reducible refine Mine.thenS ?_ | with_reducible exact Mine.thenA_ret _ _ _ | with_reducible refine Mine.noneS ?_ | with_reducible apply Mine.ifP | with_reducible rfl | exact Nat.le_of_ble_eq_true rfl | exact ⟨rfl, Nat.le_of_ble_eq_true rfl⟩ | decide), by (repeat' first | with_reducible exact Mine.getV_hit _ _ _ | with_reducible exact Mine.getO_hit _ _ _ | with_reducible assumption | with_reducible refine Mine.getV_skip ?_ ?_ | with_reducible refine Mine.getO_skip ?_ ?_ | with_reducible exact Mine.truthN_hitB _ _ _ | with_reducible refine Mine.truthN_skip ?_ ?_ | with_reducible exact Mine.aug_int _ _ | with_reducible exact Mine.truth_bool _ | with_reducible exact Mine.iter_lst _ | with_reducible refine Mine.iteT ?_ | with_reducible refine Mine.iteF ?_ | with_reducible apply Mine.bindS | with_reducible refine Mine.thenS ?_ | with_reducible exact Mine.thenA_ret _ _ _ | with_reducible refine Mine.noneS ?_ | with_reducible apply Mine.ifP | with_reducible rfl | exact Nat.le_of_ble_eq_true rfl | exact ⟨rfl, Nat.le_of_ble_eq_true rfl⟩ | decide), by (repeat' first | with_reducible exact Mine.getV_hit _ _ _ | with_reducible exact Mine.getO_hit _ _ _ | with_reducible assumption | with_reducible refine Mine.getV_skip ?_ ?_ | with_reducible refine Mine.getO_skip ?_ ?_ | with_reducible exact Mine.truthN_hitB _ _ _ | with_reducible refine Mine.truthN_skip ?_ ?_ | with_reducible exact Mine.aug_int _ _ | with_reducible exact Mine.truth_bool _ | with_reducible exact Mine.iter_lst _ | with_reducible refine Mine.iteT ?_ | with_reducible refine Mine.iteF ?_ | with_reducible apply Mine.bindS | with_reducible refine Mine.thenS ?_ | with_reducible exact Mine.thenA_ret _ _ _ | with_reducible refine Mine.noneS ?_ | with_reducible apply Mine.ifP | with_reducible rfl | exact Nat.le_of_ble_eq_true rfl | exact ⟨rfl, Nat.le_of_ble_eq_true rfl⟩ | decide)⟩
    have hsub := sub_int t.length ((t.count 0 : Nat) * 3)
    have sa : strArg (.str (tx t)) = some (tx t) := Eq.trans rfl rfl
    clear g1 g2 g3 g4 tn hb'
    have hs : (if t.length ≤ col ∨ (t.length : Int) - (t.count 0 : Nat) * 3 ≤ col then some [(hd, t)] else scan col t none 0 >>= fun r => (splitT n col gt (opens r.2 ++ t.drop r.1)).map ((hd, t.take r.1 ++ close r.2) :: ·)) = some rows := hs
    by_cases hc : t.length ≤ col ∨ (t.length : Int) - (t.count 0 : Nat) * 3 ≤ col
    · rw [if_pos hc] at hs
      cases hs
      refine ⟨_, _, base _ (split_one gs4 gs3 gs5 hz1 ?_ rfl), rfl, set_hit _ _ _⟩
      have hle1 := le_int' t.length col
      by_cases h1 : (t.length : Int) ≤ col
      · rw [decide_eq_true h1] at hle1
        (repeat' first | with_reducible exact Mine.getV_hit _ _ _ | with_reducible exact Mine.getO_hit _ _ _ | with_reducible assumption | with_reducible refine Mine.getV_skip ?_ ?_ | with_reducible refine Mine.getO_skip ?_ ?_ | with_reducible exact Mine.truthN_hitB _ _ _ | with_reducible refine Mine.truthN_skip ?_ ?_ | with_reducible exact Mine.aug_int _ _ | with_reducible exact Mine.truth_bool _ | with_reducible exact Mine.iter_lst _ | with_reducible refine Mine.iteT ?_ | with_reducible refine Mine.iteF ?_ | with_reducible apply Mine.bindS | with_reducible refine Mine.thenS ?_ | with_reducible exact Mine.thenA_ret _ _ _ | with_reducible refine Mine.noneS ?_ | with_reducible apply Mine.ifP | with_reducible rfl | exact Nat.le_of_ble_eq_true rfl | exact ⟨rfl, Nat.le_of_ble_eq_true rfl⟩ | decide)
      · have hle2 := le_int' (t.length - (t.count 0 : Nat) * 3) col
        rw [decide_eq_false h1] at hle1
        rw [decide_eq_true (hc.resolve_left (by (first | lia | omega)))] at hle2
        (repeat' first | with_reducible exact Mine.getV_hit _ _ _ | with_reducible exact Mine.getO_hit _ _ _ | with_reducible assumption | with_reducible refine Mine.getV_skip ?_ ?_ | with_reducible refine Mine.getO_skip ?_ ?_ | with_reducible exact Mine.truthN_hitB _ _ _ | with_reducible refine Mine.truthN_skip ?_ ?_ | with_reducible exact Mine.aug_int _ _ | with_reducible exact Mine.truth_bool _ | with_reducible exact Mine.iter_lst _ | with_reducible refine Mine.iteT ?_ | with_reducible refine Mine.iteF ?_ | with_reducible apply Mine.bindS | with_reducible refine Mine.thenS ?_ | with_reducible exact Mine.thenA_ret _ _ _ | with_reducible refine Mine.noneS ?_ | with_reducible apply Mine.ifP | with_reducible rfl | exact Nat.le_of_ble_eq_true rfl | exact ⟨rfl, Nat.le_of_ble_eq_true rfl⟩ | decide)
    · rw [if_neg hc] at hs
      obtain ⟨⟨i, mark⟩, hsc, hs⟩ := bindO hs
      obtain ⟨rows', hr, hrr⟩ := Option.map_eq_some_iff.mp hs
      rw [← hrr, List.length_cons] at hz
      have hle1 := le_int' t.length col
      have hle2 := le_int' (t.length - (t.count 0 : Nat) * 3) col
      rw [decide_eq_false (fun h => hc (.inl (by (first | lia | omega))))] at hle1
      rw [decide_eq_false (fun h => hc (.inr h))] at hle2
      obtain ⟨ρ₁, nn, e₁, st⟩ := split_loop (GS n) t col (.inst 113 fs) hd ⟨some a, items⟩ ht' 100000 t [] (((ρ'.set "i" (.val (.int 0))).set "n" (.val (.int 0))).set "mark" (.val (.str (tx [])))) 0 none i mark rfl (by (first | lia | omega)) (by (first | lia | omega))
        ⟨by (repeat' first | with_reducible exact Mine.getV_hit _ _ _ | with_reducible exact Mine.getO_hit _ _ _ | with_reducible assumption | with_reducible refine Mine.getV_skip ?_ ?_ | with_reducible refine Mine.getO_skip ?_ ?_ | with_reducible exact Mine.truthN_hitB _ _ _ | with_reducible refine Mine.truthN_skip ?_ ?_ | with_reducible exact Mine.aug_int _ _ | with_reducible exact Mine.truth_bool _ | with_reducible exact Mine.iter_lst _ | with_reducible refine Mine.iteT ?_ | with_reducible refine Mine.iteF ?_ | with_reducible apply Mine.bindS | with_reducible refine Mine.thenS ?_ | with_reducible exact Mine.thenA_ret _ _ _ | with_reducible refine Mine.noneS ?_ | with_reducible apply Mine.ifP | with_reducible rfl | exact Nat.le_of_ble_eq_true rfl | exact ⟨rfl, Nat.le_of_ble_eq_true rfl⟩ | decide), by (repeat' first | with_reducible exact Mine.getV_hit _ _ _ | with_reducible exact Mine.getO_hit _ _ _ | with_reducible assumption | with_reducible refine Mine.getV_skip ?_ ?_ | with_reducible refine Mine.getO_skip ?_ ?_ | with_reducible exact Mine.truthN_hitB _ _ _ | with_reducible refine Mine.truthN_skip ?_ ?_ | with_reducible exact Mine.aug_int _ _ | with_reducible exact Mine.truth_bool _ | with_reducible exact Mine.iter_lst _ | with_reducible refine Mine.iteT ?_ | with_reducible refine Mine.iteF ?_ | with_reducible apply Mine.bindS | with_reducible refine Mine.thenS ?_ | with_reducible exact Mine.thenA_ret _ _ _ | with_reducible refine Mine.noneS ?_ | with_reducible apply Mine.ifP | with_reducible rfl | exact Nat.le_of_ble_eq_true rfl | exact ⟨rfl, Nat.le_of_ble_eq_true rfl⟩ | decide), by (repeat' first | with_reducible exact Mine.getV_hit _ _ _ | with_reducible exact Mine.getO_hit _ _ _ | with_reducible assumption | with_reducible refine Mine.getV_skip ?_ ?_ | with_reducible refine Mine.getO_skip ?_ ?_ | with_reducible exact Mine.truthN_hitB _ _ _ | with_reducible refine Mine.truthN_skip ?_ ?_ | with_reducible exact Mine.aug_int _ _ | with_reducible exact Mine.truth_bool _ | with_reducible exact Mine.iter_lst _ | with_reducible refine Mine.iteT ?_ | with_reducible refine Mine.iteF ?_ | with_reducible apply Mine.bindS | with_reducible refine Mine.thenS ?_ | with_reducible exact Mine.thenA_ret _ _ _ | with_reducible refine Mine.noneS ?_ | with_reducible apply Mine.ifP | with_reducible rfl | exact Nat.le_of_ble_eq_true rfl | exact ⟨rfl, Nat.le_of_ble_eq_true rfl⟩ | decide), getV_skip rfl (getV_skip rfl (getV_hit _ _ _)), getV_skip rfl (getV_hit _ _ _), getV_hit _ _ _, by (repeat' first | with_reducible exact Mine.getV_hit _ _ _ | with_reducible exact Mine.getO_hit _ _ _ | with_reducible assumption | with_reducible refine Mine.getV_skip ?_ ?_ | with_reducible refine Mine.getO_skip ?_ ?_ | with_reducible exact Mine.truthN_hitB _ _ _ | with_reducible refine Mine.truthN_skip ?_ ?_ | with_reducible exact Mine.aug_int _ _ | with_reducible exact Mine.truth_bool _ | with_reducible exact Mine.iter_lst _ | with_reducible refine Mine.iteT ?_ | with_reducible refine Mine.iteF ?_ | with_reducible apply Mine.bindS | with_reducible refine Mine.thenS ?_ | with_reducible exact Mine.thenA_ret _ _ _ | with_reducible refine Mine.noneS ?_ | with_reducible apply Mine.ifP | with_reducible rfl | exact Nat.le_of_ble_eq_true rfl | exact ⟨rfl, Nat.le_of_ble_eq_true rfl⟩ | decide), by (repeat' first | with_reducible exact Mine.getV_hit _ _ _ | with_reducible exact Mine.getO_hit _ _ _ | with_reducible assumption | with_reducible refine Mine.getV_skip ?_ ?_ | with_reducible refine Mine.getO_skip ?_ ?_ | with_reducible exact Mine.truthN_hitB _ _ _ | with_reducible refine Mine.truthN_skip ?_ ?_ | with_reducible exact Mine.aug_int _ _ | with_reducible exact Mine.truth_bool _ | with_reducible exact Mine.iter_lst _ | with_reducible refine Mine.iteT ?_ | with_reducible refine Mine.iteF ?_ | with_reducible apply Mine.bindS | with_reducible refine Mine.thenS ?_ | with_reducible exact Mine.thenA_ret _ _ _ | with_reducible refine Mine.noneS ?_ | with_reducible apply Mine.ifP | with_reducible rfl | exact Nat.le_of_ble_eq_true rfl | exact ⟨rfl, Nat.le_of_ble_eq_true rfl⟩ | decide), by (repeat' first | with_reducible exact Mine.getV_hit _ _ _ | with_reducible exact Mine.getO_hit _ _ _ | with_reducible assumption | with_reducible refine Mine.getV_skip ?_ ?_ | with_reducible refine Mine.getO_skip ?_ ?_ | with_reducible exact Mine.truthN_hitB _ _ _ | with_reducible refine Mine.truthN_skip ?_ ?_ | with_reducible exact Mine.aug_int _ _ | with_reducible exact Mine.truth_bool _ | with_reducible exact Mine.iter_lst _ | with_reducible refine Mine.iteT ?_ | with_reducible refine Mine.iteF ?_ | with_reducible apply Mine.bindS | with_reducible refine Mine.thenS ?_ | with_reducible exact Mine.thenA_ret _ _ _ | with_reducible refine Mine.noneS ?_ | with_reducible apply Mine.ifP | with_reducible rfl | exact Nat.le_of_ble_eq_true rfl | exact ⟨rfl, Nat.le_of_ble_eq_true rfl⟩ | decide)⟩ hsc
      obtain ⟨ρ₂, e₂, hd₂⟩ := split_tail n col fs hd a items t ρ₁ i nn mark rows' hf ht (by (first | lia | omega)) st hr
      rw [← l_empty] at e₁
      have e15 : fSplit_k15 (GS n) (((ρ'.set "i" (.val (.int 0))).set "n" (.val (.int 0))).set "mark" (.val (.str (Str.ofString "")))) = some (.next, ρ₂) := bindS e₁ e₂
      exact ⟨.next, ρ₂, base _ (split_k19 gs1 gs2 gs3 hle1 hct hm hsub hle2 e15), rfl, hrr ▸ hd₂⟩
theorem split_F (n : Nat) (a : Addr) (self : AV) (items args : List AV) (av : AV) (items' : List AV) (h : GS (n + 1) self items args = some (av, items')) :
    args.length = 2 ∧ ∃ fl ρ', fSplit (GS n) (bindLent "self" "data_list" ["line_num", "text"] self ⟨some a, items⟩ args) = some (fl, ρ') ∧ retA fl = av ∧ ρ' "data_list" = some (.own ⟨some a, items'⟩) := by
  obtain ⟨col, fs, hd, t, rows, e1, hf, e2, hs, hz, e3, e4⟩ := GS_inv h
  rw [e1, e2, e3, e4]
  have hb : bindLent "self" "data_list" ["line_num", "text"] (.inst 113 fs) ⟨some a, items⟩ [hd, .str (tx t)] = sp0 (.inst 113 fs) hd a items t := by
    unfold bindLent sp0; rw [bindA2 _ _ _ _ (by decide)]
  rw [hb]
  exact ⟨rfl, split_core n a hf hs (by (first | lia | omega)) (by simp [sp0, getV_setO, getV_set, ofString_inj, getV_one]) (by simp [sp0, getV_setO, getV_set, ofString_inj, getV_one]) (by simp [sp0, getV_setO, getV_set, ofString_inj, getV_one]) (by simp [sp0, getO_setO])⟩
section
variable {w : World} {h₀ : Heap} {mg mb : Str → Option Value} {os : OsState}
theorem binds_split (s : Shared) (v0 v1 : Value) (vals : List Value) (hv : vals.length = 2) : BindsTo s (fdK (W04 w h₀ mg mb os).K 67 has_split) ⟨v0 :: v1 :: vals, []⟩ (("self", v0) :: ("data_list", v1) :: (["line_num", "text"] : List Str).zip vals) := by
  obtain ⟨v2, v3, rfl⟩ := len2 hv
  exact BindsTo.of_eq (by kernel_rfl)
theorem spec_gs : ∀ n, LSpec (W04 w h₀ mg mb os) n (.ref 67) (GS n)
  | 0 => fun A Z s vself self a vs items vals args av items' R I r hz hb hx hp rs ra hg => by
    obtain ⟨col, fs, hd, t, rows, _, _, _, hs, _⟩ := GS_inv hg
    unfold splitT at hs; cases hs
  | n + 1 => by
    have hD := fSplit_den (w := w) (h₀ := h₀) (mg := mg) (mb := mb) (os := os) (spec_gs n)
    rw [← sc_split (w := w) (h₀ := h₀) (mg := mg) (mb := mb) (os := os)] at hD
    exact lspec_of (names := ["line_num", "text"]) fn_split binds_split (fun x hx => by
      rw [sc_split]
      have : (["self", "data_list", "line_num", "text"] : List Str).all (fun x => scSplit.names.lookup x == some .local) = true := by kernel_rfl
      exact beq_iff_eq.mp (List.all_eq_true.mp this x hx)) (by decide) (by decide) (by decide) hD (fun a self items args av items' h => split_F n a self items args av items' h)
end
end Mine
end
section
set_option linter.unusedVariables false
set_option linter.unusedSimpArgs false
set_option maxHeartbeats 1000000
namespace Mine
def Ok (c : Cell) : Prop := 2 ≤ c.s ∧ ∀ m, c.m = some m → 2 ≤ m
def some1 : Option Nat → Nat
  | none => 0
  | some _ => 1
theorem brk_not {cur : Option Nat} {c : Cell} (h : brk cur c = false) : c.m = cur ∧ c.new = false := by
  unfold brk at h
  simp only [Bool.or_eq_false_iff, Bool.not_eq_false', mk_inj, beq_iff_eq] at h
  exact ⟨h.2, h.1⟩
theorem step_none (c : Cell) : stepE none c = opens c.m ++ [c.s] := by
  unfold stepE
  cases hb : brk none c with
  | true => rfl
  | false => rw [(brk_not hb).1]; rfl
theorem encO_append : ∀ (P Q : List Cell) (cur : Option Nat), encO cur (P ++ Q) = encO cur P ++ encO (lastM cur P) Q
  | [], Q, cur => rfl
  | c :: P, Q, cur => by simp [encO, lastM, encO_append P Q c.m]
theorem lastM_append : ∀ (P Q : List Cell) (cur : Option Nat), lastM cur (P ++ Q) = lastM (lastM cur P) Q
  | [], Q, cur => rfl
  | c :: P, Q, cur => by simp [lastM, lastM_append P Q c.m]
theorem enc_cons (cur : Option Nat) (c : Cell) (r : List Cell) : enc cur (c :: r) = stepE cur c ++ enc c.m r := by
  unfold enc; simp [encO, lastM]
theorem count_opens (m : Option Nat) (h : ∀ k, m = some k → 2 ≤ k) : (opens m).count 0 = some1 m ∧ (opens m).length = 2 * some1 m := by
  cases m with
  | none => simp [opens, some1]
  | some k => have := h k rfl; simp [opens, some1, List.count_cons]; (first | lia | omega)
theorem count_close (m : Option Nat) : (close m).count 0 = 0 ∧ (close m).length = some1 m := by cases m <;> simp [close, some1]
theorem enc_size : ∀ (P : List Cell) (cur : Option Nat), (∀ c ∈ P, Ok c) → (enc cur P).length = P.length + 3 * (enc cur P).count 0 + some1 cur
  | [], cur, _ => by
    have := count_close cur
    simp [enc, encO, lastM, this]
  | c :: r, cur, h => by
    have ih := enc_size r c.m (fun x hx => h x (List.mem_cons_of_mem _ hx))
    obtain ⟨h1, h2⟩ := h c List.mem_cons_self
    rw [enc_cons]
    have co := count_opens c.m h2
    have cc := count_close cur
    have hs : (c.s == 0) = false := by simp; (first | lia | omega)
    unfold stepE
    cases hb : brk cur c with
    | true =>
      simp only [if_true, List.length_append, List.count_append, co.1, co.2, cc.1, cc.2, List.length_singleton, List.count_cons, List.count_nil, hs, List.length_cons, ih]
      simp; (first | lia | omega)
    | false =>
      have := (brk_not hb).1
      rw [this] at ih ⊢
      simp only [Bool.false_eq_true, if_false, List.nil_append, List.length_append, List.count_append, List.length_singleton, List.count_cons, List.count_nil, hs, List.length_cons, ih]
      simp; (first | lia | omega)
def lead : Option Nat → List Cell → List Nat
  | some m, c :: _ => if brk (some m) c then [0, m, 1] else []
  | _, _ => []
def pieceT (prev : Option Nat) (P : List Cell) : List Nat := lead prev P ++ enc none P
def Mk (m : Option Nat) : Prop := ∀ k, m = some k → 2 ≤ k
theorem lead_cases (prev : Option Nat) (P : List Cell) : lead prev P = [] ∨ ∃ m, prev = some m ∧ lead prev P = [0, m, 1] := by
  cases prev with
  | none => left; cases P <;> rfl
  | some m =>
    cases P with
    | nil => left; rfl
    | cons c r =>
      show (if brk (some m) c then [0, m, 1] else []) = [] ∨ ∃ k, some m = some k ∧ (if brk (some m) c then [0, m, 1] else []) = [0, k, 1]
      cases brk (some m) c
      · exact .inl rfl
      · exact .inr ⟨m, rfl, rfl⟩
theorem piece_size (prev : Option Nat) (P : List Cell) (hp : Mk prev) (h : ∀ c ∈ P, Ok c) : (pieceT prev P).length = P.length + 3 * (pieceT prev P).count 0 := by
  have e := enc_size P none h
  unfold pieceT
  rcases lead_cases prev P with hl | ⟨m, hm, hl⟩
  · rw [hl]; simp only [List.nil_append]; rw [e]; simp [some1]
  · have := hp m hm
    rw [hl]
    simp only [List.length_append, List.count_append, e, List.length_cons, List.length_nil, List.count_cons, List.count_nil, some1]
    have : (m == 0) = false := by simp; (first | lia | omega)
    rw [this]; simp; (first | lia | omega)
theorem scan_mark (k c : Nat) (l : List Nat) (mark : Option Nat) (i : Nat) : scan (k + 1) (0 :: c :: l) mark i = scan (k + 1) l (some c) (i + 2) := by
  conv => lhs; unfold scan
  rw [if_pos rfl]
theorem scan_close (k : Nat) (l : List Nat) (mark : Option Nat) (i : Nat) : scan (k + 1) (1 :: l) mark i = scan (k + 1) l none (i + 1) := by
  conv => lhs; unfold scan
  rw [if_neg (by decide), if_pos rfl]
theorem scan_sign (k c : Nat) (l : List Nat) (mark : Option Nat) (i : Nat) (h : 2 ≤ c) : scan (k + 1) (c :: l) mark i = scan k l mark (i + 1) := by
  conv => lhs; unfold scan
  rw [if_neg (by (first | lia | omega)), if_neg (by (first | lia | omega))]
theorem scan_opens (k : Nat) (m : Option Nat) (l : List Nat) (i : Nat) : scan (k + 1) (opens m ++ l) none i = scan (k + 1) l m (i + (opens m).length) := by
  cases m with
  | none => rfl
  | some m => exact scan_mark ..
theorem scan_closes (k : Nat) (m : Option Nat) (l : List Nat) (i : Nat) : scan (k + 1) (close m ++ l) m i = scan (k + 1) l none (i + (close m).length) := by
  cases m with
  | none => rfl
  | some m => exact scan_close ..
theorem scan_step (k : Nat) (cur : Option Nat) (c : Cell) (l : List Nat) (i : Nat) (h : Ok c) : scan (k + 1) (stepE cur c ++ l) cur i = scan k l c.m (i + (stepE cur c).length) := by
  unfold stepE
  cases hb : brk cur c with
  | true =>
    simp only [if_true, List.append_assoc]
    rw [scan_closes, scan_opens]
    simp only [List.singleton_append, List.length_append, List.length_singleton]
    rw [scan_sign _ _ _ _ _ h.1]
    congr 1; (first | lia | omega)
  | false =>
    simp only [Bool.false_eq_true, if_false, List.nil_append, List.singleton_append, List.length_singleton]
    rw [scan_sign _ _ _ _ _ h.1, (brk_not hb).1]
theorem scan_enc : ∀ (k : Nat) (P : List Cell) (cur : Option Nat) (X : List Nat) (i : Nat), (∀ c ∈ P, Ok c) → k ≤ P.length → scan k (encO cur P ++ X) cur i = some (i + (encO cur (P.take k)).length, lastM cur (P.take k))
  | 0, P, cur, X, i, _, _ => by simp [scan, encO, lastM]
  | k + 1, [], cur, X, i, _, h => by simp at h
  | k + 1, c :: P, cur, X, i, h, hk => by
    simp only [encO, List.append_assoc, List.take_succ_cons, lastM]
    rw [scan_step _ _ _ _ _ (h c List.mem_cons_self), scan_enc k P c.m X _ (fun x hx => h x (List.mem_cons_of_mem _ hx)) (by simpa using hk)]
    simp [Nat.add_assoc]
theorem scan_piece (k : Nat) (prev : Option Nat) (P : List Cell) (h : ∀ c ∈ P, Ok c) (hk : k + 1 ≤ P.length) : scan (k + 1) (pieceT prev P) none 0 = some ((lead prev P).length + (encO none (P.take (k + 1))).length, lastM none (P.take (k + 1))) := by
  unfold pieceT enc
  rcases lead_cases prev P with hl | ⟨m, hm, hl⟩
  · rw [hl]
    rw [List.nil_append, scan_enc (k + 1) P none _ 0 h hk]; simp
  · rw [hl]
    show scan (k + 1) (0 :: m :: 1 :: (encO none P ++ close (lastM none P))) none 0 = _
    rw [scan_mark, scan_close, scan_enc (k + 1) P none _ _ h hk]
    simp
end Mine
end
section
set_option linter.unusedVariables false
set_option linter.unusedSimpArgs false
set_option maxHeartbeats 1000000
namespace Mine
def rows : AV → Option Nat → List Cell → List Nat → List Row
  | _, _, _, [] => []
  | h, prev, C, n :: ls => (h, pieceT prev (C.take n)) :: rows gt (lastM prev (C.take n)) (C.drop n) ls
def chunkF : Nat → Nat → Nat → List Nat
  | 0, _, L => [L]
  | f + 1, c, L => if L ≤ c then [L] else c :: chunkF f c (L - c)
theorem lastM_ne {P : List Cell} (h : P ≠ []) (a b : Option Nat) : lastM a P = lastM b P := by
  cases P with
  | nil => exact (h rfl).elim
  | cons c r => rfl
theorem lastM_ok : ∀ (P : List Cell) (cur : Option Nat), Mk cur → (∀ c ∈ P, Ok c) → Mk (lastM cur P)
  | [], cur, h, _ => h
  | c :: r, cur, _, h => lastM_ok r c.m (h c List.mem_cons_self).2 (fun x hx => h x (List.mem_cons_of_mem _ hx))
theorem lead_take (prev : Option Nat) (P : List Cell) (k : Nat) : lead prev (P.take (k + 1)) = lead prev P := by
  cases P with
  | nil => rfl
  | cons c r => cases prev <;> rfl
theorem piece_first (prev : Option Nat) (P : List Cell) (k : Nat) (hk : k + 1 ≤ P.length) :
    (pieceT prev P).take ((lead prev P).length + (encO none (P.take (k + 1))).length) ++ close (lastM none (P.take (k + 1))) = pieceT prev (P.take (k + 1)) := by
  unfold pieceT
  rw [lead_take]
  have e : enc none P = encO none (P.take (k + 1)) ++ (encO (lastM none (P.take (k + 1))) (P.drop (k + 1)) ++ close (lastM none P)) := by
    unfold enc
    conv => lhs; rw [← List.take_append_drop (k + 1) P, encO_append]
    rw [List.append_assoc, List.take_append_drop]
  rw [e, ← List.append_assoc, List.take_append_of_le_length (by simp), ← List.length_append, List.take_length]
  unfold enc; simp
theorem piece_rest (prev : Option Nat) (P : List Cell) (k : Nat) (hk : k + 1 < P.length) :
    opens (lastM none (P.take (k + 1))) ++ (pieceT prev P).drop ((lead prev P).length + (encO none (P.take (k + 1))).length) = pieceT (lastM none (P.take (k + 1))) (P.drop (k + 1)) := by
  have e : enc none P = encO none (P.take (k + 1)) ++ (encO (lastM none (P.take (k + 1))) (P.drop (k + 1)) ++ close (lastM none P)) := by
    unfold enc
    conv => lhs; rw [← List.take_append_drop (k + 1) P, encO_append]
    rw [List.append_assoc, List.take_append_drop]
  have d : (pieceT prev P).drop ((lead prev P).length + (encO none (P.take (k + 1))).length) = encO (lastM none (P.take (k + 1))) (P.drop (k + 1)) ++ close (lastM none P) := by
    unfold pieceT
    rw [e, ← List.append_assoc, ← List.length_append, List.drop_left]
  rw [d]
  have hl : lastM none P = lastM (lastM none (P.take (k + 1))) (P.drop (k + 1)) := by
    rw [← lastM_append, List.take_append_drop]
  rw [hl]
  generalize lastM none (P.take (k + 1)) = mark
  cases hd : P.drop (k + 1) with
  | nil => have := congrArg List.length hd; simp at this; (first | lia | omega)
  | cons c r =>
    unfold pieceT enc
    cases mark with
    | none => rfl
    | some m =>
      show opens (some m) ++ (stepE (some m) c ++ encO c.m r ++ close (lastM c.m r)) = (if brk (some m) c then [0, m, 1] else []) ++ (stepE none c ++ encO c.m r ++ close (lastM c.m r))
      rw [step_none]
      unfold stepE
      cases hb : brk (some m) c with
      | true => simp [opens, close]
      | false => simp [opens, (brk_not hb).1]
theorem rows_one (h : AV) (prev : Option Nat) (P : List Cell) : rows h prev P [P.length] = [(h, pieceT prev P)] := by
  simp [rows]
theorem splitT_rows (col : Nat) (hc : 1 ≤ col) : ∀ (n : Nat) (P : List Cell) (prev : Option Nat) (hd : AV), truthA hd = some true → Mk prev → (∀ c ∈ P, Ok c) → P.length ≤ n → 4 * P.length + 4 ≤ 90000 → splitT (n + 1) col hd (pieceT prev P) = some (rows hd prev P (chunkF n col P.length)) := by
  intro n
  induction n with
  | zero =>
    intro P prev hd ht hm ho hn hz
    have hP : P = [] := List.length_eq_zero_iff.mp (by (first | lia | omega))
    subst hP
    have hpt : pieceT prev [] = [] := by unfold pieceT; cases prev <;> rfl
    unfold splitT
    rw [ht, bind_some', hpt]
    simp [chunkF, rows, hpt]
  | succ n ih =>
    intro P prev hd ht hm ho hn hz
    have hs := piece_size prev P hm ho
    have hlen : (pieceT prev P).length ≤ 90000 := by
      have h1 := enc_len P none
      have h2 := close_len (lastM none P)
      have h3 : (lead prev P).length ≤ 3 := by rcases lead_cases prev P with h | ⟨m, _, h⟩ <;> rw [h] <;> simp
      unfold pieceT enc; simp only [List.length_append]; (first | lia | omega)
    unfold splitT
    rw [ht, bind_some', if_pos hlen, if_neg (by decide)]
    unfold chunkF
    by_cases hL : P.length ≤ col
    · rw [if_pos hL, rows_one, if_pos (.inr (by (first | lia | omega)))]
    · rw [if_neg hL, if_neg (by rintro (h | h) <;> (first | lia | omega))]
      obtain ⟨k, rfl⟩ : ∃ k, col = k + 1 := ⟨col - 1, by (first | lia | omega)⟩
      rw [scan_piece k prev P ho (by (first | lia | omega)), bind_some']
      have hne : P.take (k + 1) ≠ [] := by
        intro h; have := congrArg List.length h; rw [List.length_take, List.length_nil] at this; (first | lia | omega)
      have hmk := lastM_ok (P.take (k + 1)) none (fun _ h => by cases h) (fun c hc => ho c (List.mem_of_mem_take hc))
      have := ih (P.drop (k + 1)) (lastM none (P.take (k + 1))) gt rfl hmk (fun c hc => ho c (List.mem_of_mem_drop hc)) (by rw [List.length_drop]; (first | lia | omega)) (by rw [List.length_drop]; (first | lia | omega))
      simp only [piece_first prev P k (by (first | lia | omega)), piece_rest prev P k (by (first | lia | omega)), this, map_some']
      rw [List.length_drop]
      simp only [rows]
      rw [lastM_ne hne prev none]
theorem splitT_whole (n col : Nat) (hd : AV) (t : List Nat) (ht : truthA hd = some false) (hz : t.length ≤ 90000) : splitT (n + 1) col hd t = some [(hd, t)] := by
  unfold splitT
  rw [ht, bind_some', if_pos hz, if_pos rfl]
end Mine
end
section
set_option linter.unusedVariables false
set_option linter.unusedSimpArgs false
set_option maxHeartbeats 1000000
namespace Mine
theorem read_sign (c : Nat) (l : List Nat) (b : Bool) (n : Nat) (h : 2 ≤ c) : readL (c :: l) b n = readL l b (n + 1) := by
  match c, h with
  | c + 2, _ => cases b <;> simp [readL]
theorem read_opens (m : Option Nat) (l : List Nat) (n : Nat) : readL (opens m ++ l) false n = readL l m.isSome n := by
  cases m with
  | none => rfl
  | some k => simp [opens, readL]
theorem read_close (m : Option Nat) (l : List Nat) (n : Nat) : readL (close m ++ l) m.isSome n = readL l false n := by
  cases m with
  | none => rfl
  | some k => simp [close, readL]
theorem read_enc : ∀ (P : List Cell) (cur : Option Nat) (n : Nat), (∀ c ∈ P, Ok c) → readL (enc cur P) cur.isSome n = some (n + P.length)
  | [], cur, n, _ => by
    have := read_close cur [] n
    rw [List.append_nil] at this
    show readL (encO cur [] ++ close cur) _ _ = _
    simp only [encO, List.nil_append, this, readL, List.length_nil, Nat.add_zero]
  | c :: r, cur, n, h => by
    have hc := h c List.mem_cons_self
    have ih := read_enc r c.m (n + 1) (fun x hx => h x (List.mem_cons_of_mem _ hx))
    rw [enc_cons]
    unfold stepE
    cases hb : brk cur c with
    | true =>
      simp only [if_true, List.append_assoc]
      rw [read_close, read_opens, List.singleton_append, read_sign _ _ _ _ hc.1, ih]
      simp; (first | lia | omega)
    | false =>
      simp only [Bool.false_eq_true, if_false, List.nil_append, List.singleton_append]
      rw [read_sign _ _ _ _ hc.1, ← (brk_not hb).1, ih]
      simp; (first | lia | omega)
theorem read_piece (prev : Option Nat) (P : List Cell) (h : ∀ c ∈ P, Ok c) : readL (pieceT prev P) false 0 = some P.length := by
  have e := read_enc P none 0 h
  simp only [Option.isSome_none, Nat.zero_add] at e
  unfold pieceT
  rcases lead_cases prev P with hl | ⟨m, hm, hl⟩
  · rw [hl, List.nil_append, e]
  · rw [hl]
    show readL (0 :: m :: 1 :: enc none P) false 0 = _
    simp only [readL, e]
def InvM : Option Nat → List Nat → Prop
  | none, _ => True
  | some m, X => ∃ u v, X = u ++ 0 :: m :: v ∧ 0 ∉ v
theorem invM_step (cur : Option Nat) (c : Cell) (X : List Nat) (h : InvM cur X) (hc : Ok c) : InvM c.m (X ++ stepE cur c) := by
  unfold stepE
  cases hb : brk cur c with
  | true =>
    cases hm : c.m with
    | none => trivial
    | some m => exact ⟨X ++ close cur, [c.s], by simp [opens], by have := hc.1; simp; (first | lia | omega)⟩
  | false =>
    rw [(brk_not hb).1]
    cases cur with
    | none => trivial
    | some m =>
      obtain ⟨u, v, rfl, hv⟩ := h
      exact ⟨u, v ++ [c.s], by simp, by have := hc.1; simp [hv]; (first | lia | omega)⟩
theorem invM_enc : ∀ (P : List Cell) (cur : Option Nat) (X : List Nat), InvM cur X → (∀ c ∈ P, Ok c) → InvM (lastM cur P) (X ++ encO cur P)
  | [], cur, X, h, _ => by simpa [encO, lastM] using h
  | c :: r, cur, X, h, ho => by
    have := invM_enc r c.m (X ++ stepE cur c) (invM_step cur c X h (ho c List.mem_cons_self)) (fun x hx => ho x (List.mem_cons_of_mem _ hx))
    simpa [encO, lastM] using this
theorem last_sign (P : List Cell) (hP : P ≠ []) (ho : ∀ c ∈ P, Ok c) : ∃ u s, encO none P = u ++ [s] ∧ 2 ≤ s := by
  obtain ⟨Q, c, rfl⟩ : ∃ Q c, P = Q ++ [c] := ⟨P.dropLast, P.getLast hP, (List.dropLast_concat_getLast hP).symm⟩
  refine ⟨encO none Q ++ (if brk (lastM none Q) c then close (lastM none Q) ++ opens c.m else []), c.s, ?_, (ho c (by simp)).1⟩
  rw [encO_append]; simp [encO, stepE]
theorem enc_bound (P : List Cell) : (enc none P).length ≤ 4 * P.length + 1 := by
  have h1 := enc_len P none
  have h2 := close_len (lastM none P)
  unfold enc; simp only [List.length_append]; (first | lia | omega)
theorem piece_bound (prev : Option Nat) (P : List Cell) : (pieceT prev P).length ≤ 4 * P.length + 4 := by
  have h1 := enc_bound P
  have h3 : (lead prev P).length ≤ 3 := by rcases lead_cases prev P with h | ⟨m, _, h⟩ <;> rw [h] <;> simp
  unfold pieceT; simp only [List.length_append]; (first | lia | omega)
theorem piece_eq {u v : List Nat} {m : Nat} {P : List Cell} (hm : lastM none P = some m) (hu : encO none P = u ++ 0 :: (m :: v)) (c : Cell) (r : List Cell) : ∃ t, pieceT (some m) (c :: r) = 0 :: m :: t ∧ enc none (P ++ c :: r) = u ++ 0 :: m :: v ++ t := by
  have eapp : enc none (P ++ c :: r) = encO none P ++ enc (some m) (c :: r) := by
    unfold enc; rw [encO_append, lastM_append, hm, List.append_assoc]
  rw [eapp, hu]
  unfold pieceT
  cases hb : brk (some m) c with
  | true =>
    refine ⟨1 :: enc none (c :: r), by simp [lead, hb], ?_⟩
    rw [enc_cons, enc_cons, step_none]
    simp [stepE, hb, close]
  | false =>
    refine ⟨c.s :: enc c.m r, ?_, ?_⟩
    · rw [enc_cons, step_none, (brk_not hb).1]; simp [lead, hb, opens]
    · rw [enc_cons]; simp [stepE, hb]
theorem join_step {ρ : Slots} {l : List Row} {h0 : AV} (P T : List Cell) (hP : P ≠ []) (hT : T ≠ []) (hoP : ∀ c ∈ P, Ok c) (hz : P.length + T.length ≤ 10000) (hl : l.length ≤ 100000) (hg : getO ρ "lines" = some ⟨none, (l ++ [(h0, enc none P)]).map rowA⟩) :
    ∃ ρ', (fJoin_T3 (rowA (gt, pieceT (lastM none P) T)) ρ >>= fJoin_B4) = some (.next, ρ') ∧ getO ρ' "lines" = some ⟨none, (l ++ [(h0, enc none (P ++ T))]).map rowA⟩ := by
  have hbP := enc_bound P
  have hbT := piece_bound (lastM none P) T
  have h1 : (enc none P).length ≤ 1000000 := by (first | lia | omega)
  have h2 : (pieceT (lastM none P) T).length ≤ 1000000 := by (first | lia | omega)
  clear hbP hbT
  cases hm : lastM none P with
  | none =>
    rw [hm] at h2
    have eapp : enc none (P ++ T) = encO none P ++ enc none T := by
      unfold enc; rw [encO_append, lastM_append, hm, List.append_assoc]
    have hp : pieceT none T = enc none T := by unfold pieceT; cases T <;> rfl
    have he : enc none P = encO none P := by unfold enc; rw [hm]; exact List.append_nil _
    obtain ⟨u, s, hu, hs2⟩ := last_sign P hP hoP
    have := join_turn1 (t := pieceT none T) hg hl h1 h2 (by
      rw [he, hu]
      simp
      (first | lia | omega))
    rw [eapp, ← hp, ← he]
    exact this
  | some m =>
    rw [hm] at h2
    have hi := invM_enc P none [] trivial hoP
    rw [hm, List.nil_append] at hi
    obtain ⟨u, v, hu, hv⟩ := hi
    have hmk := lastM_ok P none (fun _ h => by cases h) hoP m hm
    have he : enc none P = u ++ 0 :: (m :: (v ++ [1])) := by unfold enc; rw [hm, hu, List.append_assoc]; rfl
    rw [he] at hg h1
    cases T with
    | nil => exact (hT rfl).elim
    | cons c r =>
      obtain ⟨t, ht, hen⟩ := piece_eq hm hu c r
      rw [ht] at h2 ⊢
      rw [hen]
      exact join_turn2 hg hl h1 h2 (by (first | lia | omega)) hv
theorem join_more (ls : List Nat) (P Q : List Cell) (ρ : Slots) (l : List Row) (h0 : AV) (hP : P ≠ []) (ho : ∀ c ∈ P ++ Q, Ok c) (hs : ls.sum = Q.length) (hpos : ∀ n ∈ ls, 0 < n) (hz : (P ++ Q).length ≤ 10000) (hl : l.length ≤ 100000) (hg : getO ρ "lines" = some ⟨none, (l ++ [(h0, enc none P)]).map rowA⟩) :
    ∃ ρ', Runs fJoin_T3 fJoin_B4 ((rows gt (lastM none P) Q ls).map rowA) ρ ρ' ∧ getO ρ' "lines" = some ⟨none, (l ++ [(h0, enc none (P ++ Q))]).map rowA⟩ := by
  induction ls generalizing P Q ρ with
  | nil =>
    have : Q = [] := List.length_eq_zero_iff.mp hs.symm
    subst this
    exact ⟨ρ, .nil, by rw [List.append_nil]; exact hg⟩
  | cons n ls ih =>
    have hn : 0 < n := hpos n List.mem_cons_self
    rw [List.sum_cons] at hs
    have hT : Q.take n ≠ [] := by
      intro h; have := congrArg List.length h; rw [List.length_take, List.length_nil] at this; (first | lia | omega)
    have hoP : ∀ c ∈ P, Ok c := fun c hc => ho c (List.mem_append_left _ hc)
    obtain ⟨ρ₁, e₁, g₁⟩ := join_step P (Q.take n) hP hT hoP (by rw [List.length_append] at hz; rw [List.length_take]; (first | lia | omega)) hl hg
    have hq : (P ++ Q.take n) ++ Q.drop n = P ++ Q := by rw [List.append_assoc, List.take_append_drop]
    obtain ⟨ρ₂, e₂, g₂⟩ := ih (P ++ Q.take n) (Q.drop n) ρ₁ (fun h => hP (List.append_eq_nil_iff.mp h).1) (by rw [hq]; exact ho) (by rw [List.length_drop]; (first | lia | omega)) (fun k hk => hpos k (List.mem_cons_of_mem _ hk)) (by rw [hq]; exact hz) g₁
    rw [hq] at g₂
    rw [lastM_append] at e₂
    exact ⟨ρ₂, .cons e₁ e₂, g₂⟩
structure Line where
  h : AV
  C : List Cell
  ls : List Nat
structure Line.Good (L : Line) : Prop where
  no : NoGt L.h
  ok : ∀ c ∈ L.C, Ok c
  sum : L.ls.sum = L.C.length
  pos : (L.C = [] ∧ L.ls = [0]) ∨ (L.C ≠ [] ∧ ∀ n ∈ L.ls, 0 < n)
  small : L.C.length ≤ 10000
def Line.rows (L : Line) : List Row := Mine.rows L.h none L.C L.ls
def Line.whole (L : Line) : Row := (L.h, enc none L.C)
theorem join_line (L : Line) (g : L.Good) (ρ : Slots) (l : List Row) (hl : l.length ≤ 100000) (hg : getO ρ "lines" = some ⟨none, l.map rowA⟩) :
    ∃ ρ', Runs fJoin_T3 fJoin_B4 (L.rows.map rowA) ρ ρ' ∧ getO ρ' "lines" = some ⟨none, (l ++ [L.whole]).map rowA⟩ := by
  obtain ⟨h, C, ls⟩ := L
  obtain ⟨h1, h2, h3, h4, h5⟩ := g
  simp only at h1 h2 h3 h4 h5
  have first : ∀ t, ∃ ρ', (fJoin_T3 (rowA (h, t)) ρ >>= fJoin_B4) = some (.next, ρ') ∧ getO ρ' "lines" = some ⟨none, (l ++ [(h, t)]).map rowA⟩ := fun t => join_turn0 hg hl h1
  rcases h4 with ⟨rfl, rfl⟩ | ⟨hne, hpos⟩
  · obtain ⟨ρ', e, g⟩ := first (enc none [])
    exact ⟨ρ', .cons e .nil, g⟩
  · cases ls with
    | nil => exact (hne (List.length_eq_zero_iff.mp h3.symm)).elim
    | cons n ls =>
      simp only [List.sum_cons] at h3
      have hn := hpos n List.mem_cons_self
      have hT : C.take n ≠ [] := by
        intro h; have := congrArg List.length h; rw [List.length_take, List.length_nil] at this; (first | lia | omega)
      have hp : pieceT none (C.take n) = enc none (C.take n) := by unfold pieceT; cases C.take n <;> rfl
      obtain ⟨ρ₁, e₁, g₁⟩ := first (enc none (C.take n))
      obtain ⟨ρ₂, e₂, g₂⟩ := join_more ls (C.take n) (C.drop n) ρ₁ l h hT (by rw [List.take_append_drop]; exact h2) (by rw [List.length_drop]; (first | lia | omega)) (fun k hk => hpos k (List.mem_cons_of_mem _ hk)) (by rw [List.take_append_drop]; exact h5) hl g₁
      rw [List.take_append_drop] at g₂
      refine ⟨ρ₂, ?_, g₂⟩
      unfold Line.rows Mine.rows
      rw [hp]
      exact .cons e₁ e₂
theorem join_lines : ∀ (Ls : List Line) (ρ : Slots) (l : List Row), (∀ L ∈ Ls, L.Good) → l.length + Ls.length ≤ 100000 → getO ρ "lines" = some ⟨none, l.map rowA⟩ →
    ∃ ρ', Runs fJoin_T3 fJoin_B4 ((Ls.flatMap Line.rows).map rowA) ρ ρ' ∧ getO ρ' "lines" = some ⟨none, (l ++ Ls.map Line.whole).map rowA⟩
  | [], ρ, l, _, _, hg => ⟨ρ, .nil, by simpa using hg⟩
  | L :: Ls, ρ, l, hG, hz, hg => by
    simp only [List.length_cons] at hz
    obtain ⟨ρ₁, e₁, g₁⟩ := join_line L (hG L List.mem_cons_self) ρ l (by (first | lia | omega)) hg
    obtain ⟨ρ₂, e₂, g₂⟩ := join_lines Ls ρ₁ (l ++ [L.whole]) (fun M hM => hG M (List.mem_cons_of_mem _ hM)) (by simp; (first | lia | omega)) g₁
    refine ⟨ρ₂, ?_, by simpa using g₂⟩
    rw [List.flatMap_cons, List.map_append]
    exact e₁.append e₂
noncomputable def GJ : List AV → Option AV := asF ["rows"] fJoin
theorem GJ_eq (Ls : List Line) (hG : ∀ L ∈ Ls, L.Good) (hz : Ls.length ≤ 100000) : GJ [.lst ((Ls.flatMap Line.rows).map rowA)] = some (.lst ((Ls.map Line.whole).map rowA)) := by
  unfold GJ
  rw [asF1]
  obtain ⟨ρ', e, g⟩ := join_lines Ls ((one1 "rows" (.lst ((Ls.flatMap Line.rows).map rowA))).set "lines" (.own ⟨none, []⟩)) [] hG (by simpa using hz) (by simp [getO_setO])
  have e' := e.forA
  have hl : (0 : Nat) ≤ 1000000 := by (first | lia | omega)
  simp only [fJoin, fJoin_k7, bind_some', List.length_nil, if_pos hl, thenA_next, getV_setO, getV_one, ofString_inj, String.reduceEq, reduceIte, iter_lst, e', fJoin_k6]
  have gl : ρ' "lines" = some (.own ⟨none, (Ls.map Line.whole).map rowA⟩) := by simpa using getO_eq g
  have gf : getV (freeze "lines" ρ') "lines" = some (.lst ((Ls.map Line.whole).map rowA)) := by
    unfold freeze; rw [gl]; simp [getV_set]
  simp only [fJoin_z5, gf, bind_some', thenA_ret, map_some', retA]
end Mine
end
section
set_option linter.unusedVariables false
set_option linter.unusedSimpArgs false
set_option maxHeartbeats 1000000
namespace Mine
abbrev FG := List AV → Option AV
section
variable {GT GR GJ GC : FG} {n : Nat}
structure ColSt (ρ : Slots) (fs : List (Str × AV)) (col : Nat) (held sizes doc : AV) : Prop where
  sheet : getV ρ "sheet" = some (.inst 113 fs)
  col : getV ρ "column" = some (.int col)
  held : getV ρ "held" = some held
  sizes : getV ρ "sizes" = some sizes
  doc : getV ρ "document" = some doc
theorem spl_T (h : AV) (t : List Nat) (ρ : Slots) : fLaw_T16 GT GR GJ GC (GS n) (rowA (h, t)) ρ = some ((ρ.set "head" (.val h)).set "text" (.val (.str (tx t)))) := Eq.trans rfl rfl
theorem isnot_none : cmpA .IsNot .none .none = some false := Eq.trans rfl rfl
theorem spl_turn {ρ : Slots} {fs : List (Str × AV)} {col : Nat} {held sizes doc : AV} {acc rs : List Row} {due : OL} {h : AV} {t : List Nat} (hf : inst col fs) (st : ColSt ρ fs col held sizes doc) (hr : getO ρ "rows" = some ⟨none, acc.map rowA⟩) (hd : getO ρ "due" = some due)
    (hs : splitT n col h t = some rs) (hz : acc.length + rs.length ≤ 100000) :
    ∃ ρ', (fLaw_T16 GT GR GJ GC (GS n) (rowA (h, t)) ρ >>= fLaw_B17 GT GR GJ GC (GS n)) = some (.next, ρ') ∧ ColSt ρ' fs col held sizes doc ∧ getO ρ' "rows" = some ⟨none, (acc ++ rs).map rowA⟩ ∧ getO ρ' "due" = some due := by
  obtain ⟨h1, h2, h3, h4, h5⟩ := st
  have hG := GS_eq hf (acc.map rowA) h t rs hs (by rw [List.length_map]; exact hz)
  have hL : lentA 113 "_split_line" (GS n) ((ρ.set "head" (.val h)).set "text" (.val (.str (tx t)))) "rows" (.inst 113 fs) ⟨none, acc.map rowA⟩ [h, .str (tx t)] = some (.none, (((ρ.set "head" (.val h)).set "text" (.val (.str (tx t)))).set "rows" (.own ⟨none, acc.map rowA ++ rs.map rowA⟩))) := by
    unfold lentA
    exact ifP ⟨rfl, hf.2⟩ (bindS hG rfl)
  have hn := isnot_none
  have e : fLaw_B17 GT GR GJ GC (GS n) ((ρ.set "head" (.val h)).set "text" (.val (.str (tx t)))) = some (.next, (((ρ.set "head" (.val h)).set "text" (.val (.str (tx t)))).set "rows" (.own ⟨none, acc.map rowA ++ rs.map rowA⟩))) := by
    unfold fLaw_B17 fLaw_o15
    (repeat' first | with_reducible exact Mine.getV_hit _ _ _ | with_reducible exact Mine.getO_hit _ _ _ | with_reducible assumption | with_reducible refine Mine.getV_skip ?_ ?_ | with_reducible refine Mine.getO_skip ?_ ?_ | with_reducible exact Mine.truthN_hitB _ _ _ | with_reducible refine Mine.truthN_skip ?_ ?_ | with_reducible exact Mine.aug_int _ _ | with_reducible exact Mine.truth_bool _ | with_reducible exact Mine.iter_lst _ | with_reducible refine Mine.iteT ?_ | with_reducible refine Mine.iteF ?_ | with_reducible apply Mine.bindS | with_reducible refine Mine.thenS ?_ | with_reducible exact Mine.thenA_ret _ _ _ | with_reducible refine Mine.noneS ?_ | with_reducible apply Mine.ifP | with_reducible rfl | exact Nat.le_of_ble_eq_true rfl | exact ⟨rfl, Nat.le_of_ble_eq_true rfl⟩ | decide)
  exact ⟨_, bindS (spl_T ..) e, ⟨by (repeat' first | with_reducible exact Mine.getV_hit _ _ _ | with_reducible exact Mine.getO_hit _ _ _ | with_reducible assumption | with_reducible refine Mine.getV_skip ?_ ?_ | with_reducible refine Mine.getO_skip ?_ ?_ | with_reducible exact Mine.truthN_hitB _ _ _ | with_reducible refine Mine.truthN_skip ?_ ?_ | with_reducible exact Mine.aug_int _ _ | with_reducible exact Mine.truth_bool _ | with_reducible exact Mine.iter_lst _ | with_reducible refine Mine.iteT ?_ | with_reducible refine Mine.iteF ?_ | with_reducible apply Mine.bindS | with_reducible refine Mine.thenS ?_ | with_reducible exact Mine.thenA_ret _ _ _ | with_reducible refine Mine.noneS ?_ | with_reducible apply Mine.ifP | with_reducible rfl | exact Nat.le_of_ble_eq_true rfl | exact ⟨rfl, Nat.le_of_ble_eq_true rfl⟩ | decide), by (repeat' first | with_reducible exact Mine.getV_hit _ _ _ | with_reducible exact Mine.getO_hit _ _ _ | with_reducible assumption | with_reducible refine Mine.getV_skip ?_ ?_ | with_reducible refine Mine.getO_skip ?_ ?_ | with_reducible exact Mine.truthN_hitB _ _ _ | with_reducible refine Mine.truthN_skip ?_ ?_ | with_reducible exact Mine.aug_int _ _ | with_reducible exact Mine.truth_bool _ | with_reducible exact Mine.iter_lst _ | with_reducible refine Mine.iteT ?_ | with_reducible refine Mine.iteF ?_ | with_reducible apply Mine.bindS | with_reducible refine Mine.thenS ?_ | with_reducible exact Mine.thenA_ret _ _ _ | with_reducible refine Mine.noneS ?_ | with_reducible apply Mine.ifP | with_reducible rfl | exact Nat.le_of_ble_eq_true rfl | exact ⟨rfl, Nat.le_of_ble_eq_true rfl⟩ | decide), by (repeat' first | with_reducible exact Mine.getV_hit _ _ _ | with_reducible exact Mine.getO_hit _ _ _ | with_reducible assumption | with_reducible refine Mine.getV_skip ?_ ?_ | with_reducible refine Mine.getO_skip ?_ ?_ | with_reducible exact Mine.truthN_hitB _ _ _ | with_reducible refine Mine.truthN_skip ?_ ?_ | with_reducible exact Mine.aug_int _ _ | with_reducible exact Mine.truth_bool _ | with_reducible exact Mine.iter_lst _ | with_reducible refine Mine.iteT ?_ | with_reducible refine Mine.iteF ?_ | with_reducible apply Mine.bindS | with_reducible refine Mine.thenS ?_ | with_reducible exact Mine.thenA_ret _ _ _ | with_reducible refine Mine.noneS ?_ | with_reducible apply Mine.ifP | with_reducible rfl | exact Nat.le_of_ble_eq_true rfl | exact ⟨rfl, Nat.le_of_ble_eq_true rfl⟩ | decide), by (repeat' first | with_reducible exact Mine.getV_hit _ _ _ | with_reducible exact Mine.getO_hit _ _ _ | with_reducible assumption | with_reducible refine Mine.getV_skip ?_ ?_ | with_reducible refine Mine.getO_skip ?_ ?_ | with_reducible exact Mine.truthN_hitB _ _ _ | with_reducible refine Mine.truthN_skip ?_ ?_ | with_reducible exact Mine.aug_int _ _ | with_reducible exact Mine.truth_bool _ | with_reducible exact Mine.iter_lst _ | with_reducible refine Mine.iteT ?_ | with_reducible refine Mine.iteF ?_ | with_reducible apply Mine.bindS | with_reducible refine Mine.thenS ?_ | with_reducible exact Mine.thenA_ret _ _ _ | with_reducible refine Mine.noneS ?_ | with_reducible apply Mine.ifP | with_reducible rfl | exact Nat.le_of_ble_eq_true rfl | exact ⟨rfl, Nat.le_of_ble_eq_true rfl⟩ | decide), by (repeat' first | with_reducible exact Mine.getV_hit _ _ _ | with_reducible exact Mine.getO_hit _ _ _ | with_reducible assumption | with_reducible refine Mine.getV_skip ?_ ?_ | with_reducible refine Mine.getO_skip ?_ ?_ | with_reducible exact Mine.truthN_hitB _ _ _ | with_reducible refine Mine.truthN_skip ?_ ?_ | with_reducible exact Mine.aug_int _ _ | with_reducible exact Mine.truth_bool _ | with_reducible exact Mine.iter_lst _ | with_reducible refine Mine.iteT ?_ | with_reducible refine Mine.iteF ?_ | with_reducible apply Mine.bindS | with_reducible refine Mine.thenS ?_ | with_reducible exact Mine.thenA_ret _ _ _ | with_reducible refine Mine.noneS ?_ | with_reducible apply Mine.ifP | with_reducible rfl | exact Nat.le_of_ble_eq_true rfl | exact ⟨rfl, Nat.le_of_ble_eq_true rfl⟩ | decide)⟩, by rw [List.map_append]; exact getO_hit _ _ _, by (repeat' first | with_reducible exact Mine.getV_hit _ _ _ | with_reducible exact Mine.getO_hit _ _ _ | with_reducible assumption | with_reducible refine Mine.getV_skip ?_ ?_ | with_reducible refine Mine.getO_skip ?_ ?_ | with_reducible exact Mine.truthN_hitB _ _ _ | with_reducible refine Mine.truthN_skip ?_ ?_ | with_reducible exact Mine.aug_int _ _ | with_reducible exact Mine.truth_bool _ | with_reducible exact Mine.iter_lst _ | with_reducible refine Mine.iteT ?_ | with_reducible refine Mine.iteF ?_ | with_reducible apply Mine.bindS | with_reducible refine Mine.thenS ?_ | with_reducible exact Mine.thenA_ret _ _ _ | with_reducible refine Mine.noneS ?_ | with_reducible apply Mine.ifP | with_reducible rfl | exact Nat.le_of_ble_eq_true rfl | exact ⟨rfl, Nat.le_of_ble_eq_true rfl⟩ | decide)⟩
def szA (p : AV × Nat) : AV := .tup [p.1, .int p.2]
theorem due_T (h : AV) (k : Nat) (ρ : Slots) : fLaw_T20 GT GR GJ GC (GS n) (szA (h, k)) ρ = some ((ρ.set "head" (.val h)).set "size" (.val (.int k))) := Eq.trans rfl rfl
theorem due_turn0 {ρ : Slots} {fs : List (Str × AV)} {col : Nat} {held sizes doc : AV} {acc : List (AV × Nat)} {rows : OL} {h : AV} {k : Nat} (st : ColSt ρ fs col held sizes doc) (hr : getO ρ "rows" = some rows) (hd : getO ρ "due" = some ⟨none, acc.map szA⟩) (ht : truthA h = some false) (hz : acc.length ≤ 100000) :
    ∃ ρ', (fLaw_T20 GT GR GJ GC (GS n) (szA (h, k)) ρ >>= fLaw_B21 GT GR GJ GC (GS n)) = some (.next, ρ') ∧ ColSt ρ' fs col held sizes doc ∧ getO ρ' "rows" = some rows ∧ getO ρ' "due" = some ⟨none, (acc ++ [(h, k)]).map szA⟩ := by
  obtain ⟨h1, h2, h3, h4, h5⟩ := st
  have tn : (truthN ((ρ.set "head" (.val h)).set "size" (.val (.int k))) "head").map (!·) = some true := mapS (truthN_skip rfl ((truthN_hit _ _ _).trans ht)) rfl
  have hz1 : (acc.map szA).length ≤ 1000000 := by rw [List.length_map]; (first | lia | omega)
  have e : fLaw_B21 GT GR GJ GC (GS n) ((ρ.set "head" (.val h)).set "size" (.val (.int k))) = some (.next, ((ρ.set "head" (.val h)).set "size" (.val (.int k))).set "due" (.own ⟨none, acc.map szA ++ [AV.tup [h, .int k]]⟩)) := by
    unfold fLaw_B21
    (repeat' first | with_reducible exact Mine.getV_hit _ _ _ | with_reducible exact Mine.getO_hit _ _ _ | with_reducible assumption | with_reducible refine Mine.getV_skip ?_ ?_ | with_reducible refine Mine.getO_skip ?_ ?_ | with_reducible exact Mine.truthN_hitB _ _ _ | with_reducible refine Mine.truthN_skip ?_ ?_ | with_reducible exact Mine.aug_int _ _ | with_reducible exact Mine.truth_bool _ | with_reducible exact Mine.iter_lst _ | with_reducible refine Mine.iteT ?_ | with_reducible refine Mine.iteF ?_ | with_reducible apply Mine.bindS | with_reducible refine Mine.thenS ?_ | with_reducible exact Mine.thenA_ret _ _ _ | with_reducible refine Mine.noneS ?_ | with_reducible apply Mine.ifP | with_reducible rfl | exact Nat.le_of_ble_eq_true rfl | exact ⟨rfl, Nat.le_of_ble_eq_true rfl⟩ | decide)
  exact ⟨_, bindS (due_T ..) e, ⟨by (repeat' first | with_reducible exact Mine.getV_hit _ _ _ | with_reducible exact Mine.getO_hit _ _ _ | with_reducible assumption | with_reducible refine Mine.getV_skip ?_ ?_ | with_reducible refine Mine.getO_skip ?_ ?_ | with_reducible exact Mine.truthN_hitB _ _ _ | with_reducible refine Mine.truthN_skip ?_ ?_ | with_reducible exact Mine.aug_int _ _ | with_reducible exact Mine.truth_bool _ | with_reducible exact Mine.iter_lst _ | with_reducible refine Mine.iteT ?_ | with_reducible refine Mine.iteF ?_ | with_reducible apply Mine.bindS | with_reducible refine Mine.thenS ?_ | with_reducible exact Mine.thenA_ret _ _ _ | with_reducible refine Mine.noneS ?_ | with_reducible apply Mine.ifP | with_reducible rfl | exact Nat.le_of_ble_eq_true rfl | exact ⟨rfl, Nat.le_of_ble_eq_true rfl⟩ | decide), by (repeat' first | with_reducible exact Mine.getV_hit _ _ _ | with_reducible exact Mine.getO_hit _ _ _ | with_reducible assumption | with_reducible refine Mine.getV_skip ?_ ?_ | with_reducible refine Mine.getO_skip ?_ ?_ | with_reducible exact Mine.truthN_hitB _ _ _ | with_reducible refine Mine.truthN_skip ?_ ?_ | with_reducible exact Mine.aug_int _ _ | with_reducible exact Mine.truth_bool _ | with_reducible exact Mine.iter_lst _ | with_reducible refine Mine.iteT ?_ | with_reducible refine Mine.iteF ?_ | with_reducible apply Mine.bindS | with_reducible refine Mine.thenS ?_ | with_reducible exact Mine.thenA_ret _ _ _ | with_reducible refine Mine.noneS ?_ | with_reducible apply Mine.ifP | with_reducible rfl | exact Nat.le_of_ble_eq_true rfl | exact ⟨rfl, Nat.le_of_ble_eq_true rfl⟩ | decide), by (repeat' first | with_reducible exact Mine.getV_hit _ _ _ | with_reducible exact Mine.getO_hit _ _ _ | with_reducible assumption | with_reducible refine Mine.getV_skip ?_ ?_ | with_reducible refine Mine.getO_skip ?_ ?_ | with_reducible exact Mine.truthN_hitB _ _ _ | with_reducible refine Mine.truthN_skip ?_ ?_ | with_reducible exact Mine.aug_int _ _ | with_reducible exact Mine.truth_bool _ | with_reducible exact Mine.iter_lst _ | with_reducible refine Mine.iteT ?_ | with_reducible refine Mine.iteF ?_ | with_reducible apply Mine.bindS | with_reducible refine Mine.thenS ?_ | with_reducible exact Mine.thenA_ret _ _ _ | with_reducible refine Mine.noneS ?_ | with_reducible apply Mine.ifP | with_reducible rfl | exact Nat.le_of_ble_eq_true rfl | exact ⟨rfl, Nat.le_of_ble_eq_true rfl⟩ | decide), by (repeat' first | with_reducible exact Mine.getV_hit _ _ _ | with_reducible exact Mine.getO_hit _ _ _ | with_reducible assumption | with_reducible refine Mine.getV_skip ?_ ?_ | with_reducible refine Mine.getO_skip ?_ ?_ | with_reducible exact Mine.truthN_hitB _ _ _ | with_reducible refine Mine.truthN_skip ?_ ?_ | with_reducible exact Mine.aug_int _ _ | with_reducible exact Mine.truth_bool _ | with_reducible exact Mine.iter_lst _ | with_reducible refine Mine.iteT ?_ | with_reducible refine Mine.iteF ?_ | with_reducible apply Mine.bindS | with_reducible refine Mine.thenS ?_ | with_reducible exact Mine.thenA_ret _ _ _ | with_reducible refine Mine.noneS ?_ | with_reducible apply Mine.ifP | with_reducible rfl | exact Nat.le_of_ble_eq_true rfl | exact ⟨rfl, Nat.le_of_ble_eq_true rfl⟩ | decide), by (repeat' first | with_reducible exact Mine.getV_hit _ _ _ | with_reducible exact Mine.getO_hit _ _ _ | with_reducible assumption | with_reducible refine Mine.getV_skip ?_ ?_ | with_reducible refine Mine.getO_skip ?_ ?_ | with_reducible exact Mine.truthN_hitB _ _ _ | with_reducible refine Mine.truthN_skip ?_ ?_ | with_reducible exact Mine.aug_int _ _ | with_reducible exact Mine.truth_bool _ | with_reducible exact Mine.iter_lst _ | with_reducible refine Mine.iteT ?_ | with_reducible refine Mine.iteF ?_ | with_reducible apply Mine.bindS | with_reducible refine Mine.thenS ?_ | with_reducible exact Mine.thenA_ret _ _ _ | with_reducible refine Mine.noneS ?_ | with_reducible apply Mine.ifP | with_reducible rfl | exact Nat.le_of_ble_eq_true rfl | exact ⟨rfl, Nat.le_of_ble_eq_true rfl⟩ | decide)⟩, by (repeat' first | with_reducible exact Mine.getV_hit _ _ _ | with_reducible exact Mine.getO_hit _ _ _ | with_reducible assumption | with_reducible refine Mine.getV_skip ?_ ?_ | with_reducible refine Mine.getO_skip ?_ ?_ | with_reducible exact Mine.truthN_hitB _ _ _ | with_reducible refine Mine.truthN_skip ?_ ?_ | with_reducible exact Mine.aug_int _ _ | with_reducible exact Mine.truth_bool _ | with_reducible exact Mine.iter_lst _ | with_reducible refine Mine.iteT ?_ | with_reducible refine Mine.iteF ?_ | with_reducible apply Mine.bindS | with_reducible refine Mine.thenS ?_ | with_reducible exact Mine.thenA_ret _ _ _ | with_reducible refine Mine.noneS ?_ | with_reducible apply Mine.ifP | with_reducible rfl | exact Nat.le_of_ble_eq_true rfl | exact ⟨rfl, Nat.le_of_ble_eq_true rfl⟩ | decide), by rw [List.map_append]; exact getO_hit _ _ _⟩
def szs : AV → List Nat → List (AV × Nat)
  | _, [] => []
  | h, n :: ls => (h, n) :: szs gt ls
theorem chunk_len (c : Nat) (hc : 1 ≤ c) (f L : Nat) (h : L ≤ f) : (chunkF f c L).length = (max 1 L - 1) / c + 1 := by
  induction f generalizing L with
  | zero => rw [Nat.le_zero.mp h, Nat.max_eq_left (Nat.zero_le 1), Nat.sub_self, Nat.zero_div]; rfl
  | succ f ih =>
    unfold chunkF
    by_cases hL : L ≤ c
    · rw [if_pos hL, Nat.div_eq_of_lt (Nat.lt_of_lt_of_le (Nat.sub_lt (Nat.lt_of_lt_of_le Nat.one_pos (Nat.le_max_left 1 L)) Nat.one_pos) (Nat.max_le.mpr ⟨hc, hL⟩))]; rfl
    · have h1 : c < L := Nat.lt_of_not_le hL
      have h2 : 1 ≤ L - c := Nat.sub_pos_of_lt h1
      rw [if_neg hL, List.length_cons, ih (L - c) (Nat.sub_le_iff_le_add.mpr (Nat.le_trans h (Nat.add_le_add_left hc f))), Nat.max_eq_right h2, Nat.max_eq_right (Nat.le_trans hc (Nat.le_of_lt h1)), ← Nat.add_div_right _ hc]
      rw [Nat.sub_right_comm, Nat.sub_add_cancel (Nat.le_sub_one_of_lt h1)]
theorem max_int (k : Nat) : maxF [.int 1, .int k] = some (.int (max 1 k : Nat)) := by
  show some (AV.int (if (k : Int) > 1 then (k : Int) else 1)) = _
  split <;> congr 2 <;> (first | lia | omega)
theorem min_int (c L : Nat) : minF [.int c, .int L] = some (.int (min c L : Nat)) := by
  show some (AV.int (if (L : Int) < c then (L : Int) else c)) = _
  split <;> congr 2 <;> (first | lia | omega)
theorem range_int (k col : Nat) (hk : k ≤ 100000) (hc : 1 ≤ col) (hc' : col ≤ 100000) (f : Nat) (hf : k ≤ f) : rangeA [.int 0, .int (max 1 k : Nat), .int col] = some (rangeL 0 col (chunkF f col k).length) := by
  rw [rangeA_3]
  show (if -1000000000 < (0 : Int) ∧ (0 : Int) < 1000000000 ∧ -1000000000 < ((max 1 k : Nat) : Int) ∧ ((max 1 k : Nat) : Int) < 1000000000 ∧ 0 < (col : Int) ∧ (col : Int) < 1000000000 then some (rangeL 0 col (if (0 : Int) < (max 1 k : Nat) then ((((max 1 k : Nat) : Int) - 0 - 1) / col + 1).toNat else 0)) else none) = _
  rw [if_pos ⟨by (first | lia | omega), by (first | lia | omega), by (first | lia | omega), by (first | lia | omega), by (first | lia | omega), by (first | lia | omega)⟩, if_pos (by (first | lia | omega)), chunk_len col hc f k hf]
  congr 2
  have : ((max 1 k : Nat) : Int) - 0 - 1 = ((max 1 k - 1 : Nat) : Int) := by (first | lia | omega)
  rw [this, ← Int.natCast_ediv]
  exact Int.toNat_natCast ((max 1 k - 1) / col + 1)
theorem at_B19 {ρ : Slots} {col : Nat} {acc : List (AV × Nat)} {h : AV} {a L : Nat} (h2 : getV ρ "column" = some (.int col)) (ha : getV ρ "at" = some (.int a)) (hh : getV ρ "head" = some h) (hk : getV ρ "size" = some (.int (a + L : Nat))) (hd : getO ρ "due" = some ⟨none, acc.map szA⟩) (hz : acc.length ≤ 100000) :
    fLaw_B19 GT GR GJ GC (GS n) ρ = some (.next, ρ.set "due" (.own ⟨none, acc.map szA ++ [AV.tup [if a = 0 then h else gt, .int (min col L : Nat)]]⟩)) := by
  have em : binA .Sub (.int (a + L : Nat)) (.int a) = some (.int L) := by rw [sub_int]; congr 2; (first | lia | omega)
  have hm := min_int col L
  have hz1 : (acc.map szA).length ≤ 1000000 := by rw [List.length_map]; (first | lia | omega)
  have e0 := eq_int' a 0
  by_cases e : a = 0
  · rw [show ((a : Int) == 0) = true by rw [e]; rfl] at e0
    rw [if_pos e]
    unfold fLaw_B19
    (repeat' first | with_reducible exact Mine.getV_hit _ _ _ | with_reducible exact Mine.getO_hit _ _ _ | with_reducible assumption | with_reducible refine Mine.getV_skip ?_ ?_ | with_reducible refine Mine.getO_skip ?_ ?_ | with_reducible exact Mine.truthN_hitB _ _ _ | with_reducible refine Mine.truthN_skip ?_ ?_ | with_reducible exact Mine.aug_int _ _ | with_reducible exact Mine.truth_bool _ | with_reducible exact Mine.iter_lst _ | with_reducible refine Mine.iteT ?_ | with_reducible refine Mine.iteF ?_ | with_reducible apply Mine.bindS | with_reducible refine Mine.thenS ?_ | with_reducible exact Mine.thenA_ret _ _ _ | with_reducible refine Mine.noneS ?_ | with_reducible apply Mine.ifP | with_reducible rfl | exact Nat.le_of_ble_eq_true rfl | exact ⟨rfl, Nat.le_of_ble_eq_true rfl⟩ | decide)
  · rw [show ((a : Int) == 0) = false from beq_eq_false_iff_ne.mpr (by (first | lia | omega))] at e0
    rw [if_neg e, show gt = AV.str (Str.ofString ">") from congrArg AV.str l_gt.symm]
    unfold fLaw_B19
    (repeat' first | with_reducible exact Mine.getV_hit _ _ _ | with_reducible exact Mine.getO_hit _ _ _ | with_reducible assumption | with_reducible refine Mine.getV_skip ?_ ?_ | with_reducible refine Mine.getO_skip ?_ ?_ | with_reducible exact Mine.truthN_hitB _ _ _ | with_reducible refine Mine.truthN_skip ?_ ?_ | with_reducible exact Mine.aug_int _ _ | with_reducible exact Mine.truth_bool _ | with_reducible exact Mine.iter_lst _ | with_reducible refine Mine.iteT ?_ | with_reducible refine Mine.iteF ?_ | with_reducible apply Mine.bindS | with_reducible refine Mine.thenS ?_ | with_reducible exact Mine.thenA_ret _ _ _ | with_reducible refine Mine.noneS ?_ | with_reducible apply Mine.ifP | with_reducible rfl | exact Nat.le_of_ble_eq_true rfl | exact ⟨rfl, Nat.le_of_ble_eq_true rfl⟩ | decide)
theorem at_turn {ρ : Slots} {fs : List (Str × AV)} {col : Nat} {held sizes doc : AV} {acc : List (AV × Nat)} {rows : OL} {h : AV} {a L : Nat} (st : ColSt ρ fs col held sizes doc) (hr : getO ρ "rows" = some rows) (hh : getV ρ "head" = some h) (hk : getV ρ "size" = some (.int (a + L : Nat))) (hd : getO ρ "due" = some ⟨none, acc.map szA⟩) (hz : acc.length ≤ 100000) :
    ∃ ρ', (fLaw_T18 GT GR GJ GC (GS n) (.int a) ρ >>= fLaw_B19 GT GR GJ GC (GS n)) = some (.next, ρ') ∧ ColSt ρ' fs col held sizes doc ∧ getO ρ' "rows" = some rows ∧ getV ρ' "head" = some h ∧ getV ρ' "size" = some (.int (a + L : Nat)) ∧ getO ρ' "due" = some ⟨none, (acc ++ [(if a = 0 then h else gt, min col L)]).map szA⟩ := by
  obtain ⟨h1, h2, h3, h4, h5⟩ := st
  have e := at_B19 (GT := GT) (GR := GR) (GJ := GJ) (GC := GC) (n := n) (ρ := ρ.set "at" (.val (.int a))) (col := col) (acc := acc) (h := h) (a := a) (L := L) (by (repeat' first | with_reducible exact Mine.getV_hit _ _ _ | with_reducible exact Mine.getO_hit _ _ _ | with_reducible assumption | with_reducible refine Mine.getV_skip ?_ ?_ | with_reducible refine Mine.getO_skip ?_ ?_ | with_reducible exact Mine.truthN_hitB _ _ _ | with_reducible refine Mine.truthN_skip ?_ ?_ | with_reducible exact Mine.aug_int _ _ | with_reducible exact Mine.truth_bool _ | with_reducible exact Mine.iter_lst _ | with_reducible refine Mine.iteT ?_ | with_reducible refine Mine.iteF ?_ | with_reducible apply Mine.bindS | with_reducible refine Mine.thenS ?_ | with_reducible exact Mine.thenA_ret _ _ _ | with_reducible refine Mine.noneS ?_ | with_reducible apply Mine.ifP | with_reducible rfl | exact Nat.le_of_ble_eq_true rfl | exact ⟨rfl, Nat.le_of_ble_eq_true rfl⟩ | decide)) (by (repeat' first | with_reducible exact Mine.getV_hit _ _ _ | with_reducible exact Mine.getO_hit _ _ _ | with_reducible assumption | with_reducible refine Mine.getV_skip ?_ ?_ | with_reducible refine Mine.getO_skip ?_ ?_ | with_reducible exact Mine.truthN_hitB _ _ _ | with_reducible refine Mine.truthN_skip ?_ ?_ | with_reducible exact Mine.aug_int _ _ | with_reducible exact Mine.truth_bool _ | with_reducible exact Mine.iter_lst _ | with_reducible refine Mine.iteT ?_ | with_reducible refine Mine.iteF ?_ | with_reducible apply Mine.bindS | with_reducible refine Mine.thenS ?_ | with_reducible exact Mine.thenA_ret _ _ _ | with_reducible refine Mine.noneS ?_ | with_reducible apply Mine.ifP | with_reducible rfl | exact Nat.le_of_ble_eq_true rfl | exact ⟨rfl, Nat.le_of_ble_eq_true rfl⟩ | decide)) (by (repeat' first | with_reducible exact Mine.getV_hit _ _ _ | with_reducible exact Mine.getO_hit _ _ _ | with_reducible assumption | with_reducible refine Mine.getV_skip ?_ ?_ | with_reducible refine Mine.getO_skip ?_ ?_ | with_reducible exact Mine.truthN_hitB _ _ _ | with_reducible refine Mine.truthN_skip ?_ ?_ | with_reducible exact Mine.aug_int _ _ | with_reducible exact Mine.truth_bool _ | with_reducible exact Mine.iter_lst _ | with_reducible refine Mine.iteT ?_ | with_reducible refine Mine.iteF ?_ | with_reducible apply Mine.bindS | with_reducible refine Mine.thenS ?_ | with_reducible exact Mine.thenA_ret _ _ _ | with_reducible refine Mine.noneS ?_ | with_reducible apply Mine.ifP | with_reducible rfl | exact Nat.le_of_ble_eq_true rfl | exact ⟨rfl, Nat.le_of_ble_eq_true rfl⟩ | decide)) (by (repeat' first | with_reducible exact Mine.getV_hit _ _ _ | with_reducible exact Mine.getO_hit _ _ _ | with_reducible assumption | with_reducible refine Mine.getV_skip ?_ ?_ | with_reducible refine Mine.getO_skip ?_ ?_ | with_reducible exact Mine.truthN_hitB _ _ _ | with_reducible refine Mine.truthN_skip ?_ ?_ | with_reducible exact Mine.aug_int _ _ | with_reducible exact Mine.truth_bool _ | with_reducible exact Mine.iter_lst _ | with_reducible refine Mine.iteT ?_ | with_reducible refine Mine.iteF ?_ | with_reducible apply Mine.bindS | with_reducible refine Mine.thenS ?_ | with_reducible exact Mine.thenA_ret _ _ _ | with_reducible refine Mine.noneS ?_ | with_reducible apply Mine.ifP | with_reducible rfl | exact Nat.le_of_ble_eq_true rfl | exact ⟨rfl, Nat.le_of_ble_eq_true rfl⟩ | decide)) (by (repeat' first | with_reducible exact Mine.getV_hit _ _ _ | with_reducible exact Mine.getO_hit _ _ _ | with_reducible assumption | with_reducible refine Mine.getV_skip ?_ ?_ | with_reducible refine Mine.getO_skip ?_ ?_ | with_reducible exact Mine.truthN_hitB _ _ _ | with_reducible refine Mine.truthN_skip ?_ ?_ | with_reducible exact Mine.aug_int _ _ | with_reducible exact Mine.truth_bool _ | with_reducible exact Mine.iter_lst _ | with_reducible refine Mine.iteT ?_ | with_reducible refine Mine.iteF ?_ | with_reducible apply Mine.bindS | with_reducible refine Mine.thenS ?_ | with_reducible exact Mine.thenA_ret _ _ _ | with_reducible refine Mine.noneS ?_ | with_reducible apply Mine.ifP | with_reducible rfl | exact Nat.le_of_ble_eq_true rfl | exact ⟨rfl, Nat.le_of_ble_eq_true rfl⟩ | decide)) hz
  exact ⟨_, bindS rfl e, ⟨by (repeat' first | with_reducible exact Mine.getV_hit _ _ _ | with_reducible exact Mine.getO_hit _ _ _ | with_reducible assumption | with_reducible refine Mine.getV_skip ?_ ?_ | with_reducible refine Mine.getO_skip ?_ ?_ | with_reducible exact Mine.truthN_hitB _ _ _ | with_reducible refine Mine.truthN_skip ?_ ?_ | with_reducible exact Mine.aug_int _ _ | with_reducible exact Mine.truth_bool _ | with_reducible exact Mine.iter_lst _ | with_reducible refine Mine.iteT ?_ | with_reducible refine Mine.iteF ?_ | with_reducible apply Mine.bindS | with_reducible refine Mine.thenS ?_ | with_reducible exact Mine.thenA_ret _ _ _ | with_reducible refine Mine.noneS ?_ | with_reducible apply Mine.ifP | with_reducible rfl | exact Nat.le_of_ble_eq_true rfl | exact ⟨rfl, Nat.le_of_ble_eq_true rfl⟩ | decide), by (repeat' first | with_reducible exact Mine.getV_hit _ _ _ | with_reducible exact Mine.getO_hit _ _ _ | with_reducible assumption | with_reducible refine Mine.getV_skip ?_ ?_ | with_reducible refine Mine.getO_skip ?_ ?_ | with_reducible exact Mine.truthN_hitB _ _ _ | with_reducible refine Mine.truthN_skip ?_ ?_ | with_reducible exact Mine.aug_int _ _ | with_reducible exact Mine.truth_bool _ | with_reducible exact Mine.iter_lst _ | with_reducible refine Mine.iteT ?_ | with_reducible refine Mine.iteF ?_ | with_reducible apply Mine.bindS | with_reducible refine Mine.thenS ?_ | with_reducible exact Mine.thenA_ret _ _ _ | with_reducible refine Mine.noneS ?_ | with_reducible apply Mine.ifP | with_reducible rfl | exact Nat.le_of_ble_eq_true rfl | exact ⟨rfl, Nat.le_of_ble_eq_true rfl⟩ | decide), by (repeat' first | with_reducible exact Mine.getV_hit _ _ _ | with_reducible exact Mine.getO_hit _ _ _ | with_reducible assumption | with_reducible refine Mine.getV_skip ?_ ?_ | with_reducible refine Mine.getO_skip ?_ ?_ | with_reducible exact Mine.truthN_hitB _ _ _ | with_reducible refine Mine.truthN_skip ?_ ?_ | with_reducible exact Mine.aug_int _ _ | with_reducible exact Mine.truth_bool _ | with_reducible exact Mine.iter_lst _ | with_reducible refine Mine.iteT ?_ | with_reducible refine Mine.iteF ?_ | with_reducible apply Mine.bindS | with_reducible refine Mine.thenS ?_ | with_reducible exact Mine.thenA_ret _ _ _ | with_reducible refine Mine.noneS ?_ | with_reducible apply Mine.ifP | with_reducible rfl | exact Nat.le_of_ble_eq_true rfl | exact ⟨rfl, Nat.le_of_ble_eq_true rfl⟩ | decide), by (repeat' first | with_reducible exact Mine.getV_hit _ _ _ | with_reducible exact Mine.getO_hit _ _ _ | with_reducible assumption | with_reducible refine Mine.getV_skip ?_ ?_ | with_reducible refine Mine.getO_skip ?_ ?_ | with_reducible exact Mine.truthN_hitB _ _ _ | with_reducible refine Mine.truthN_skip ?_ ?_ | with_reducible exact Mine.aug_int _ _ | with_reducible exact Mine.truth_bool _ | with_reducible exact Mine.iter_lst _ | with_reducible refine Mine.iteT ?_ | with_reducible refine Mine.iteF ?_ | with_reducible apply Mine.bindS | with_reducible refine Mine.thenS ?_ | with_reducible exact Mine.thenA_ret _ _ _ | with_reducible refine Mine.noneS ?_ | with_reducible apply Mine.ifP | with_reducible rfl | exact Nat.le_of_ble_eq_true rfl | exact ⟨rfl, Nat.le_of_ble_eq_true rfl⟩ | decide), by (repeat' first | with_reducible exact Mine.getV_hit _ _ _ | with_reducible exact Mine.getO_hit _ _ _ | with_reducible assumption | with_reducible refine Mine.getV_skip ?_ ?_ | with_reducible refine Mine.getO_skip ?_ ?_ | with_reducible exact Mine.truthN_hitB _ _ _ | with_reducible refine Mine.truthN_skip ?_ ?_ | with_reducible exact Mine.aug_int _ _ | with_reducible exact Mine.truth_bool _ | with_reducible exact Mine.iter_lst _ | with_reducible refine Mine.iteT ?_ | with_reducible refine Mine.iteF ?_ | with_reducible apply Mine.bindS | with_reducible refine Mine.thenS ?_ | with_reducible exact Mine.thenA_ret _ _ _ | with_reducible refine Mine.noneS ?_ | with_reducible apply Mine.ifP | with_reducible rfl | exact Nat.le_of_ble_eq_true rfl | exact ⟨rfl, Nat.le_of_ble_eq_true rfl⟩ | decide)⟩, by (repeat' first | with_reducible exact Mine.getV_hit _ _ _ | with_reducible exact Mine.getO_hit _ _ _ | with_reducible assumption | with_reducible refine Mine.getV_skip ?_ ?_ | with_reducible refine Mine.getO_skip ?_ ?_ | with_reducible exact Mine.truthN_hitB _ _ _ | with_reducible refine Mine.truthN_skip ?_ ?_ | with_reducible exact Mine.aug_int _ _ | with_reducible exact Mine.truth_bool _ | with_reducible exact Mine.iter_lst _ | with_reducible refine Mine.iteT ?_ | with_reducible refine Mine.iteF ?_ | with_reducible apply Mine.bindS | with_reducible refine Mine.thenS ?_ | with_reducible exact Mine.thenA_ret _ _ _ | with_reducible refine Mine.noneS ?_ | with_reducible apply Mine.ifP | with_reducible rfl | exact Nat.le_of_ble_eq_true rfl | exact ⟨rfl, Nat.le_of_ble_eq_true rfl⟩ | decide), by (repeat' first | with_reducible exact Mine.getV_hit _ _ _ | with_reducible exact Mine.getO_hit _ _ _ | with_reducible assumption | with_reducible refine Mine.getV_skip ?_ ?_ | with_reducible refine Mine.getO_skip ?_ ?_ | with_reducible exact Mine.truthN_hitB _ _ _ | with_reducible refine Mine.truthN_skip ?_ ?_ | with_reducible exact Mine.aug_int _ _ | with_reducible exact Mine.truth_bool _ | with_reducible exact Mine.iter_lst _ | with_reducible refine Mine.iteT ?_ | with_reducible refine Mine.iteF ?_ | with_reducible apply Mine.bindS | with_reducible refine Mine.thenS ?_ | with_reducible exact Mine.thenA_ret _ _ _ | with_reducible refine Mine.noneS ?_ | with_reducible apply Mine.ifP | with_reducible rfl | exact Nat.le_of_ble_eq_true rfl | exact ⟨rfl, Nat.le_of_ble_eq_true rfl⟩ | decide), by (repeat' first | with_reducible exact Mine.getV_hit _ _ _ | with_reducible exact Mine.getO_hit _ _ _ | with_reducible assumption | with_reducible refine Mine.getV_skip ?_ ?_ | with_reducible refine Mine.getO_skip ?_ ?_ | with_reducible exact Mine.truthN_hitB _ _ _ | with_reducible refine Mine.truthN_skip ?_ ?_ | with_reducible exact Mine.aug_int _ _ | with_reducible exact Mine.truth_bool _ | with_reducible exact Mine.iter_lst _ | with_reducible refine Mine.iteT ?_ | with_reducible refine Mine.iteF ?_ | with_reducible apply Mine.bindS | with_reducible refine Mine.thenS ?_ | with_reducible exact Mine.thenA_ret _ _ _ | with_reducible refine Mine.noneS ?_ | with_reducible apply Mine.ifP | with_reducible rfl | exact Nat.le_of_ble_eq_true rfl | exact ⟨rfl, Nat.le_of_ble_eq_true rfl⟩ | decide), by rw [List.map_append]; exact getO_hit _ _ _⟩
theorem at_loop {fs : List (Str × AV)} {col : Nat} {held sizes doc : AV} {rows : OL} {h : AV} (hc : 1 ≤ col) (f L a : Nat) (ρ : Slots) (acc : List (AV × Nat)) (hL : L ≤ f) (st : ColSt ρ fs col held sizes doc) (hr : getO ρ "rows" = some rows) (hh : getV ρ "head" = some h) (hk : getV ρ "size" = some (.int (a + L : Nat))) (hd : getO ρ "due" = some ⟨none, acc.map szA⟩) (hz : acc.length + f ≤ 100000) :
    ∃ ρ', Runs (fLaw_T18 GT GR GJ GC (GS n)) (fLaw_B19 GT GR GJ GC (GS n)) (rangeL a col (chunkF f col L).length) ρ ρ' ∧ ColSt ρ' fs col held sizes doc ∧ getO ρ' "rows" = some rows ∧ getO ρ' "due" = some ⟨none, (acc ++ szs (if a = 0 then h else gt) (chunkF f col L)).map szA⟩ := by
  induction f generalizing L a ρ acc with
  | zero =>
    obtain ⟨ρ₁, e₁, s₁, r₁, _, _, d₁⟩ := at_turn (GT := GT) (GR := GR) (GJ := GJ) (GC := GC) (n := n) st hr hh hk hd (by (first | lia | omega))
    rw [Nat.le_zero.mp hL, Nat.min_zero] at d₁
    rw [Nat.le_zero.mp hL]
    exact ⟨ρ₁, .cons e₁ .nil, s₁, r₁, d₁⟩
  | succ f ih =>
    obtain ⟨ρ₁, e₁, s₁, r₁, h₁, k₁, d₁⟩ := at_turn (GT := GT) (GR := GR) (GJ := GJ) (GC := GC) (n := n) st hr hh hk hd (by (first | lia | omega))
    unfold chunkF
    by_cases hLc : L ≤ col
    · rw [if_pos hLc]
      refine ⟨ρ₁, .cons e₁ .nil, s₁, r₁, ?_⟩
      rw [d₁, Nat.min_eq_right hLc]; rfl
    · rw [if_neg hLc]
      rw [Nat.min_eq_left (by (first | lia | omega))] at d₁
      obtain ⟨ρ₂, e₂, s₂, r₂, d₂⟩ := ih (L - col) (a + col) ρ₁ _ (by (first | lia | omega)) s₁ r₁ h₁ (by rw [k₁]; congr 3; (first | lia | omega)) d₁ (by rw [List.length_append, List.length_singleton]; (first | lia | omega))
      refine ⟨ρ₂, .cons e₁ (by rw [Int.natCast_add] at e₂; exact e₂), s₂, r₂, ?_⟩
      rw [d₂, if_neg (show ¬ a + col = 0 by (first | lia | omega)), List.append_assoc]; rfl
theorem due_turn1 {ρ : Slots} {fs : List (Str × AV)} {col : Nat} {held sizes doc : AV} {acc : List (AV × Nat)} {rows : OL} {h : AV} {k : Nat} (f : Nat) (hkf : k ≤ f) (hc : 1 ≤ col) (hc' : col ≤ 100000) (st : ColSt ρ fs col held sizes doc) (hr : getO ρ "rows" = some rows) (hd : getO ρ "due" = some ⟨none, acc.map szA⟩) (ht : truthA h = some true) (hz : acc.length + f ≤ 100000) :
    ∃ ρ', (fLaw_T20 GT GR GJ GC (GS n) (szA (h, k)) ρ >>= fLaw_B21 GT GR GJ GC (GS n)) = some (.next, ρ') ∧ ColSt ρ' fs col held sizes doc ∧ getO ρ' "rows" = some rows ∧ getO ρ' "due" = some ⟨none, (acc ++ szs h (chunkF f col k)).map szA⟩ := by
  obtain ⟨h1, h2, h3, h4, h5⟩ := st
  obtain ⟨ρ', e, s', r', d'⟩ := at_loop (GT := GT) (GR := GR) (GJ := GJ) (GC := GC) (n := n) (h := h) hc f k 0 ((ρ.set "head" (.val h)).set "size" (.val (.int k))) acc hkf (rows := rows) (held := held) (sizes := sizes) (doc := doc) (fs := fs)
    ⟨by (repeat' first | with_reducible exact Mine.getV_hit _ _ _ | with_reducible exact Mine.getO_hit _ _ _ | with_reducible assumption | with_reducible refine Mine.getV_skip ?_ ?_ | with_reducible refine Mine.getO_skip ?_ ?_ | with_reducible exact Mine.truthN_hitB _ _ _ | with_reducible refine Mine.truthN_skip ?_ ?_ | with_reducible exact Mine.aug_int _ _ | with_reducible exact Mine.truth_bool _ | with_reducible exact Mine.iter_lst _ | with_reducible refine Mine.iteT ?_ | with_reducible refine Mine.iteF ?_ | with_reducible apply Mine.bindS | with_reducible refine Mine.thenS ?_ | with_reducible exact Mine.thenA_ret _ _ _ | with_reducible refine Mine.noneS ?_ | with_reducible apply Mine.ifP | with_reducible rfl | exact Nat.le_of_ble_eq_true rfl | exact ⟨rfl, Nat.le_of_ble_eq_true rfl⟩ | decide), by (repeat' first | with_reducible exact Mine.getV_hit _ _ _ | with_reducible exact Mine.getO_hit _ _ _ | with_reducible assumption | with_reducible refine Mine.getV_skip ?_ ?_ | with_reducible refine Mine.getO_skip ?_ ?_ | with_reducible exact Mine.truthN_hitB _ _ _ | with_reducible refine Mine.truthN_skip ?_ ?_ | with_reducible exact Mine.aug_int _ _ | with_reducible exact Mine.truth_bool _ | with_reducible exact Mine.iter_lst _ | with_reducible refine Mine.iteT ?_ | with_reducible refine Mine.iteF ?_ | with_reducible apply Mine.bindS | with_reducible refine Mine.thenS ?_ | with_reducible exact Mine.thenA_ret _ _ _ | with_reducible refine Mine.noneS ?_ | with_reducible apply Mine.ifP | with_reducible rfl | exact Nat.le_of_ble_eq_true rfl | exact ⟨rfl, Nat.le_of_ble_eq_true rfl⟩ | decide), by (repeat' first | with_reducible exact Mine.getV_hit _ _ _ | with_reducible exact Mine.getO_hit _ _ _ | with_reducible assumption | with_reducible refine Mine.getV_skip ?_ ?_ | with_reducible refine Mine.getO_skip ?_ ?_ | with_reducible exact Mine.truthN_hitB _ _ _ | with_reducible refine Mine.truthN_skip ?_ ?_ | with_reducible exact Mine.aug_int _ _ | with_reducible exact Mine.truth_bool _ | with_reducible exact Mine.iter_lst _ | with_reducible refine Mine.iteT ?_ | with_reducible refine Mine.iteF ?_ | with_reducible apply Mine.bindS | with_reducible refine Mine.thenS ?_ | with_reducible exact Mine.thenA_ret _ _ _ | with_reducible refine Mine.noneS ?_ | with_reducible apply Mine.ifP | with_reducible rfl | exact Nat.le_of_ble_eq_true rfl | exact ⟨rfl, Nat.le_of_ble_eq_true rfl⟩ | decide), by (repeat' first | with_reducible exact Mine.getV_hit _ _ _ | with_reducible exact Mine.getO_hit _ _ _ | with_reducible assumption | with_reducible refine Mine.getV_skip ?_ ?_ | with_reducible refine Mine.getO_skip ?_ ?_ | with_reducible exact Mine.truthN_hitB _ _ _ | with_reducible refine Mine.truthN_skip ?_ ?_ | with_reducible exact Mine.aug_int _ _ | with_reducible exact Mine.truth_bool _ | with_reducible exact Mine.iter_lst _ | with_reducible refine Mine.iteT ?_ | with_reducible refine Mine.iteF ?_ | with_reducible apply Mine.bindS | with_reducible refine Mine.thenS ?_ | with_reducible exact Mine.thenA_ret _ _ _ | with_reducible refine Mine.noneS ?_ | with_reducible apply Mine.ifP | with_reducible rfl | exact Nat.le_of_ble_eq_true rfl | exact ⟨rfl, Nat.le_of_ble_eq_true rfl⟩ | decide), by (repeat' first | with_reducible exact Mine.getV_hit _ _ _ | with_reducible exact Mine.getO_hit _ _ _ | with_reducible assumption | with_reducible refine Mine.getV_skip ?_ ?_ | with_reducible refine Mine.getO_skip ?_ ?_ | with_reducible exact Mine.truthN_hitB _ _ _ | with_reducible refine Mine.truthN_skip ?_ ?_ | with_reducible exact Mine.aug_int _ _ | with_reducible exact Mine.truth_bool _ | with_reducible exact Mine.iter_lst _ | with_reducible refine Mine.iteT ?_ | with_reducible refine Mine.iteF ?_ | with_reducible apply Mine.bindS | with_reducible refine Mine.thenS ?_ | with_reducible exact Mine.thenA_ret _ _ _ | with_reducible refine Mine.noneS ?_ | with_reducible apply Mine.ifP | with_reducible rfl | exact Nat.le_of_ble_eq_true rfl | exact ⟨rfl, Nat.le_of_ble_eq_true rfl⟩ | decide)⟩ (by (repeat' first | with_reducible exact Mine.getV_hit _ _ _ | with_reducible exact Mine.getO_hit _ _ _ | with_reducible assumption | with_reducible refine Mine.getV_skip ?_ ?_ | with_reducible refine Mine.getO_skip ?_ ?_ | with_reducible exact Mine.truthN_hitB _ _ _ | with_reducible refine Mine.truthN_skip ?_ ?_ | with_reducible exact Mine.aug_int _ _ | with_reducible exact Mine.truth_bool _ | with_reducible exact Mine.iter_lst _ | with_reducible refine Mine.iteT ?_ | with_reducible refine Mine.iteF ?_ | with_reducible apply Mine.bindS | with_reducible refine Mine.thenS ?_ | with_reducible exact Mine.thenA_ret _ _ _ | with_reducible refine Mine.noneS ?_ | with_reducible apply Mine.ifP | with_reducible rfl | exact Nat.le_of_ble_eq_true rfl | exact ⟨rfl, Nat.le_of_ble_eq_true rfl⟩ | decide)) (by (repeat' first | with_reducible exact Mine.getV_hit _ _ _ | with_reducible exact Mine.getO_hit _ _ _ | with_reducible assumption | with_reducible refine Mine.getV_skip ?_ ?_ | with_reducible refine Mine.getO_skip ?_ ?_ | with_reducible exact Mine.truthN_hitB _ _ _ | with_reducible refine Mine.truthN_skip ?_ ?_ | with_reducible exact Mine.aug_int _ _ | with_reducible exact Mine.truth_bool _ | with_reducible exact Mine.iter_lst _ | with_reducible refine Mine.iteT ?_ | with_reducible refine Mine.iteF ?_ | with_reducible apply Mine.bindS | with_reducible refine Mine.thenS ?_ | with_reducible exact Mine.thenA_ret _ _ _ | with_reducible refine Mine.noneS ?_ | with_reducible apply Mine.ifP | with_reducible rfl | exact Nat.le_of_ble_eq_true rfl | exact ⟨rfl, Nat.le_of_ble_eq_true rfl⟩ | decide)) (by rw [Nat.zero_add]; exact getV_hit _ _ _) (by (repeat' first | with_reducible exact Mine.getV_hit _ _ _ | with_reducible exact Mine.getO_hit _ _ _ | with_reducible assumption | with_reducible refine Mine.getV_skip ?_ ?_ | with_reducible refine Mine.getO_skip ?_ ?_ | with_reducible exact Mine.truthN_hitB _ _ _ | with_reducible refine Mine.truthN_skip ?_ ?_ | with_reducible exact Mine.aug_int _ _ | with_reducible exact Mine.truth_bool _ | with_reducible exact Mine.iter_lst _ | with_reducible refine Mine.iteT ?_ | with_reducible refine Mine.iteF ?_ | with_reducible apply Mine.bindS | with_reducible refine Mine.thenS ?_ | with_reducible exact Mine.thenA_ret _ _ _ | with_reducible refine Mine.noneS ?_ | with_reducible apply Mine.ifP | with_reducible rfl | exact Nat.le_of_ble_eq_true rfl | exact ⟨rfl, Nat.le_of_ble_eq_true rfl⟩ | decide)) hz
  have tn : (truthN ((ρ.set "head" (.val h)).set "size" (.val (.int k))) "head").map (!·) = some false := mapS (truthN_skip rfl ((truthN_hit _ _ _).trans ht)) rfl
  have e' : forA (fLaw_T18 GT GR GJ GC (GS n)) (fLaw_B19 GT GR GJ GC (GS n)) (rangeL 0 col (chunkF f col k).length) ((ρ.set "head" (.val h)).set "size" (.val (.int k))) = some (.next, ρ') := e.forA
  have hm := max_int k
  have hr := range_int k col (by (first | lia | omega)) hc hc' f hkf
  have eB : fLaw_B21 GT GR GJ GC (GS n) ((ρ.set "head" (.val h)).set "size" (.val (.int k))) = some (.next, ρ') := by
    unfold fLaw_B21
    (repeat' first | with_reducible exact Mine.getV_hit _ _ _ | with_reducible exact Mine.getO_hit _ _ _ | with_reducible assumption | with_reducible refine Mine.getV_skip ?_ ?_ | with_reducible refine Mine.getO_skip ?_ ?_ | with_reducible exact Mine.truthN_hitB _ _ _ | with_reducible refine Mine.truthN_skip ?_ ?_ | with_reducible exact Mine.aug_int _ _ | with_reducible exact Mine.truth_bool _ | with_reducible exact Mine.iter_lst _ | with_reducible refine Mine.iteT ?_ | with_reducible refine Mine.iteF ?_ | with_reducible apply Mine.bindS | with_reducible refine Mine.thenS ?_ | with_reducible exact Mine.thenA_ret _ _ _ | with_reducible refine Mine.noneS ?_ | with_reducible apply Mine.ifP | with_reducible rfl | exact Nat.le_of_ble_eq_true rfl | exact ⟨rfl, Nat.le_of_ble_eq_true rfl⟩ | decide)
  exact ⟨ρ', bindS (due_T ..) eB, s', r', d'⟩
end
end Mine
end
section
set_option linter.unusedVariables false
set_option linter.unusedSimpArgs false
set_option maxHeartbeats 1000000
namespace Mine
theorem rows_append (b : List Nat) : ∀ (a : List Nat) (h : AV) (prev : Option Nat) (C : List Cell), a ≠ [] → rows h prev C (a ++ b) = rows h prev (C.take a.sum) a ++ rows gt (lastM prev (C.take a.sum)) (C.drop a.sum) b
  | [], h, prev, C, ha => (ha rfl).elim
  | [n], h, prev, C, _ => by simp [rows, List.take_take]
  | n :: m :: a, h, prev, C, _ => by
    have ih := rows_append b (m :: a) gt (lastM prev (C.take n)) (C.drop n) (by simp)
    rw [List.cons_append]
    conv => lhs; rw [rows, ih]
    have e1 : (n :: m :: a).sum = n + (m :: a).sum := by simp
    rw [e1]
    conv => rhs; rw [rows]
    have e2 : (C.take (n + (m :: a).sum)).take n = C.take n := by rw [List.take_take]; congr 1; (first | lia | omega)
    have e3 : (C.take (n + (m :: a).sum)).drop n = (C.drop n).take (m :: a).sum := by rw [List.drop_take]; congr 1; (first | lia | omega)
    have e4 : lastM prev (C.take (n + (m :: a).sum)) = lastM (lastM prev (C.take n)) ((C.drop n).take (m :: a).sum) := by rw [← lastM_append, List.take_add]
    rw [e2, e3, e4, List.drop_drop, List.cons_append]
theorem chunk_sum (c : Nat) : ∀ (f L : Nat), (chunkF f c L).sum = L
  | 0, L => by simp [chunkF]
  | f + 1, L => by
    unfold chunkF
    by_cases h : L ≤ c
    · rw [if_pos h]; simp
    · rw [if_neg h, List.sum_cons, chunk_sum c f]; (first | lia | omega)
theorem chunk_ne (c f L : Nat) : chunkF f c L ≠ [] := by
  cases f with
  | zero => simp [chunkF]
  | succ f => unfold chunkF; split <;> simp
theorem chunk_pos (c : Nat) (hc : 1 ≤ c) : ∀ (f L : Nat), 0 < L → ∀ n ∈ chunkF f c L, 0 < n
  | 0, L, h, n, hn => by simp [chunkF] at hn; (first | lia | omega)
  | f + 1, L, h, n, hn => by
    unfold chunkF at hn
    split at hn
    · simp at hn; (first | lia | omega)
    · rcases List.mem_cons.mp hn with rfl | hn
      · (first | lia | omega)
      · exact chunk_pos c hc f _ (by (first | lia | omega)) n hn
theorem rows_len : ∀ (ls : List Nat) (h : AV) (prev : Option Nat) (C : List Cell), (rows h prev C ls).length = ls.length
  | [], _, _, _ => rfl
  | n :: ls, h, prev, C => by rw [rows, List.length_cons, rows_len ls, List.length_cons]
theorem szs_append (b : List Nat) : ∀ (a : List Nat) (h : AV), a ≠ [] → szs h (a ++ b) = szs h a ++ szs gt b
  | [], h, ha => (ha rfl).elim
  | [n], h, _ => rfl
  | n :: m :: a, h, _ => by
    have := szs_append b (m :: a) gt (by simp)
    rw [List.cons_append, szs, szs, this, List.cons_append]
section
variable {GT GR GJ GC : FG} {f : Nat}
theorem spl_line {fs : List (Str × AV)} {col : Nat} {held sizes doc : AV} {due : OL} (hf : inst col fs) (hc : 1 ≤ col) (ls : List Nat) (h : AV) (prev : Option Nat) (C : List Cell) (ρ : Slots) (acc : List Row) (ht : truthA h = some true) (hm : Mk prev) (ho : ∀ c ∈ C, Ok c) (hs : ls.sum = C.length) (hz : C.length ≤ f) (hz' : C.length ≤ 10000) (st : ColSt ρ fs col held sizes doc) (hr : getO ρ "rows" = some ⟨none, acc.map rowA⟩) (hd : getO ρ "due" = some due)
    (hb : acc.length + (rows h prev C (ls.flatMap (chunkF f col))).length ≤ 100000) :
    ∃ ρ', Runs (fLaw_T16 GT GR GJ GC (GS (f + 1))) (fLaw_B17 GT GR GJ GC (GS (f + 1))) ((rows h prev C ls).map rowA) ρ ρ' ∧ ColSt ρ' fs col held sizes doc ∧ getO ρ' "rows" = some ⟨none, (acc ++ rows h prev C (ls.flatMap (chunkF f col))).map rowA⟩ ∧ getO ρ' "due" = some due := by
  induction ls generalizing h prev C ρ acc with
  | nil => exact ⟨ρ, .nil, st, by rw [List.flatMap_nil, rows, List.append_nil]; exact hr, hd⟩
  | cons k ls ih =>
    rw [List.sum_cons] at hs
    have hl : (C.take k).length = k := by rw [List.length_take]; (first | lia | omega)
    have hsp := splitT_rows col hc f (C.take k) prev h ht hm (fun c hc => ho c (List.mem_of_mem_take hc)) (by (first | lia | omega)) (by (first | lia | omega))
    rw [hl] at hsp
    have hsum := chunk_sum col f k
    rw [List.flatMap_cons] at hb ⊢
    have ha := rows_append (ls.flatMap (chunkF f col)) (chunkF f col k) h prev C (chunk_ne _ _ _)
    rw [hsum] at ha
    rw [ha] at hb ⊢
    rw [List.length_append] at hb
    obtain ⟨ρ₁, e₁, s₁, r₁, d₁⟩ := spl_turn (GT := GT) (GR := GR) (GJ := GJ) (GC := GC) hf st hr hd hsp (by (first | lia | omega))
    obtain ⟨ρ₂, e₂, s₂, r₂, d₂⟩ := ih gt (lastM prev (C.take k)) (C.drop k) ρ₁ _ rfl (lastM_ok _ _ hm (fun c hc => ho c (List.mem_of_mem_take hc))) (fun c hc => ho c (List.mem_of_mem_drop hc)) (by rw [List.length_drop]; (first | lia | omega)) (by rw [List.length_drop]; (first | lia | omega)) (by rw [List.length_drop]; (first | lia | omega)) s₁ r₁ d₁ (by rw [List.length_append]; (first | lia | omega))
    refine ⟨ρ₂, .cons e₁ e₂, s₂, ?_, d₂⟩
    rw [r₂, List.append_assoc]
theorem due_line {fs : List (Str × AV)} {col : Nat} {held sizes doc : AV} {rw' : OL} (hc : 1 ≤ col) (hc' : col ≤ 100000) (ls : List Nat) (h : AV) (ρ : Slots) (acc : List (AV × Nat)) (ht : truthA h = some true) (hs : ∀ n ∈ ls, n ≤ f) (st : ColSt ρ fs col held sizes doc) (hr : getO ρ "rows" = some rw') (hd : getO ρ "due" = some ⟨none, acc.map szA⟩)
    (hb : acc.length + (szs h (ls.flatMap (chunkF f col))).length + f ≤ 100000) :
    ∃ ρ', Runs (fLaw_T20 GT GR GJ GC (GS (f + 1))) (fLaw_B21 GT GR GJ GC (GS (f + 1))) ((szs h ls).map szA) ρ ρ' ∧ ColSt ρ' fs col held sizes doc ∧ getO ρ' "rows" = some rw' ∧ getO ρ' "due" = some ⟨none, (acc ++ szs h (ls.flatMap (chunkF f col))).map szA⟩ := by
  induction ls generalizing h ρ acc with
  | nil => exact ⟨ρ, .nil, st, hr, by rw [List.flatMap_nil, szs, List.append_nil]; exact hd⟩
  | cons k ls ih =>
    rw [List.flatMap_cons, szs_append _ _ _ (chunk_ne _ _ _)] at hb ⊢
    rw [List.length_append] at hb
    obtain ⟨ρ₁, e₁, s₁, r₁, d₁⟩ := due_turn1 (GT := GT) (GR := GR) (GJ := GJ) (GC := GC) (n := f + 1) f (hs k List.mem_cons_self) hc hc' st hr hd ht (by (first | lia | omega))
    obtain ⟨ρ₂, e₂, s₂, r₂, d₂⟩ := ih gt ρ₁ _ rfl (fun n hn => hs n (List.mem_cons_of_mem _ hn)) s₁ r₁ d₁ (by rw [List.length_append]; (first | lia | omega))
    refine ⟨ρ₂, .cons e₁ e₂, s₂, r₂, ?_⟩
    rw [d₂, List.append_assoc]
end
end Mine
end
section
set_option linter.unusedVariables false
set_option linter.unusedSimpArgs false
set_option maxHeartbeats 1000000
namespace Mine
structure Line.Fine (L : Line) : Prop extends L.Good where
  tr : truthA L.h = some true ∨ (truthA L.h = some false ∧ L.ls = [L.C.length])
open Classical in
noncomputable def Line.recut (f col : Nat) (L : Line) : Line := if truthA L.h = some true then ⟨L.h, L.C, L.ls.flatMap (chunkF f col)⟩ else L
def Line.szs (L : Line) : List (AV × Nat) := Mine.szs L.h L.ls
theorem recut_fine (f col : Nat) (hc : 1 ≤ col) (L : Line) (g : L.Fine) : (L.recut f col).Fine ∧ (L.recut f col).whole = L.whole := by
  obtain ⟨⟨h1, h2, h3, h4, h5⟩, ht⟩ := g
  unfold Line.recut
  split
  · rename_i htr
    have hs : ∀ ls : List Nat, (ls.flatMap (chunkF f col)).sum = ls.sum := by
      intro ls
      induction ls with
      | nil => rfl
      | cons n ls ih => rw [List.flatMap_cons, List.sum_append, ih, chunk_sum, List.sum_cons]
    refine ⟨⟨⟨h1, h2, (hs _).trans h3, ?_, h5⟩, .inl htr⟩, rfl⟩
    rcases h4 with ⟨hC, hl⟩ | ⟨hC, hp⟩
    · refine .inl ⟨hC, ?_⟩
      rw [hl]
      have : chunkF f col 0 = [0] := by cases f <;> simp [chunkF]
      simp [this]
    · refine .inr ⟨hC, fun n hn => ?_⟩
      obtain ⟨k, hk, hn⟩ := List.mem_flatMap.mp hn
      exact chunk_pos col hc f k (hp k hk) n hn
  · exact ⟨⟨⟨h1, h2, h3, h4, h5⟩, ht⟩, rfl⟩
theorem ls_len : ∀ (ls : List Nat), (∀ n ∈ ls, 0 < n) → ls.length ≤ ls.sum
  | [], _ => by simp
  | n :: ls, h => by
    have := ls_len ls (fun k hk => h k (List.mem_cons_of_mem _ hk))
    have := h n List.mem_cons_self
    simp; (first | lia | omega)
theorem fine_len (L : Line) (g : L.Fine) : L.ls.length ≤ L.C.length + 1 := by
  rcases g.pos with ⟨h1, h2⟩ | ⟨_, h⟩
  · rw [h2]; simp
  · have := ls_len L.ls h; have := g.sum; (first | lia | omega)
theorem ls_le : ∀ (ls : List Nat) (n : Nat), n ∈ ls → n ≤ ls.sum
  | k :: ls, n, h => by
    rcases List.mem_cons.mp h with rfl | h
    · simp
    · have := ls_le ls n h; simp; (first | lia | omega)
theorem szs_len : ∀ (ls : List Nat) (h : AV), (Mine.szs h ls).length = ls.length
  | [], _ => rfl
  | n :: ls, h => by simp [Mine.szs, szs_len ls]
section
variable {GT GR GJ GC : FG} {f : Nat}
theorem recut_whole {L : Line} {f col : Nat} (ht : truthA L.h = some false) : L.recut f col = L := by unfold Line.recut; rw [if_neg (by rw [ht]; intro h; cases h)]
theorem recut_cut {L : Line} {f col : Nat} (ht : truthA L.h = some true) : L.recut f col = ⟨L.h, L.C, L.ls.flatMap (chunkF f col)⟩ := by unfold Line.recut; rw [if_pos ht]
theorem spl_one {fs : List (Str × AV)} {col : Nat} {held sizes doc : AV} {due : OL} (hf : inst col fs) (hc : 1 ≤ col) (L : Line) (ρ : Slots) (acc : List Row) (g : L.Fine) (hL : L.C.length ≤ f) (st : ColSt ρ fs col held sizes doc) (hr : getO ρ "rows" = some ⟨none, acc.map rowA⟩) (hd : getO ρ "due" = some due) (hz : acc.length + (L.recut f col).rows.length ≤ 100000) :
    ∃ ρ', Runs (fLaw_T16 GT GR GJ GC (GS (f + 1))) (fLaw_B17 GT GR GJ GC (GS (f + 1))) (L.rows.map rowA) ρ ρ' ∧ ColSt ρ' fs col held sizes doc ∧ getO ρ' "rows" = some ⟨none, (acc ++ (L.recut f col).rows).map rowA⟩ ∧ getO ρ' "due" = some due := by
  rcases g.tr with ht | ⟨ht, hls⟩
  · rw [recut_cut ht] at hz ⊢
    exact spl_line hf hc L.ls L.h none L.C ρ acc ht (fun _ h => by cases h) g.ok g.sum hL g.small st hr hd hz
  · rw [recut_whole ht] at hz ⊢
    have er : L.rows = [(L.h, pieceT none L.C)] := by unfold Line.rows; rw [hls, rows_one]
    rw [er] at hz ⊢
    have hb := piece_bound none L.C
    have := g.small
    obtain ⟨ρ', e₁, s₁, r₁, d₁⟩ := spl_turn (GT := GT) (GR := GR) (GJ := GJ) (GC := GC) hf st hr hd (splitT_whole f col L.h (pieceT none L.C) ht (by (first | lia | omega))) hz
    exact ⟨ρ', .cons e₁ .nil, s₁, r₁, d₁⟩
theorem spl_lines {fs : List (Str × AV)} {col : Nat} {held sizes doc : AV} {due : OL} (hf : inst col fs) (hc : 1 ≤ col) (Ls : List Line) (ρ : Slots) (acc : List Row) (hG : ∀ L ∈ Ls, L.Fine ∧ L.C.length ≤ f) (st : ColSt ρ fs col held sizes doc) (hr : getO ρ "rows" = some ⟨none, acc.map rowA⟩) (hd : getO ρ "due" = some due)
    (hz : acc.length + ((Ls.map (Line.recut f col)).flatMap Line.rows).length ≤ 100000) :
    ∃ ρ', Runs (fLaw_T16 GT GR GJ GC (GS (f + 1))) (fLaw_B17 GT GR GJ GC (GS (f + 1))) ((Ls.flatMap Line.rows).map rowA) ρ ρ' ∧ ColSt ρ' fs col held sizes doc ∧ getO ρ' "rows" = some ⟨none, (acc ++ (Ls.map (Line.recut f col)).flatMap Line.rows).map rowA⟩ ∧ getO ρ' "due" = some due := by
  induction Ls generalizing ρ acc with
  | nil => exact ⟨ρ, .nil, st, by rw [List.map_nil, List.flatMap_nil, List.append_nil]; exact hr, hd⟩
  | cons L Ls ih =>
    obtain ⟨g, hL⟩ := hG L List.mem_cons_self
    rw [List.map_cons, List.flatMap_cons] at hz ⊢
    rw [List.flatMap_cons]
    rw [List.length_append] at hz
    obtain ⟨ρ₁, e₁, s₁, r₁, d₁⟩ := spl_one (GT := GT) (GR := GR) (GJ := GJ) (GC := GC) hf hc L ρ acc g hL st hr hd (by (first | lia | omega))
    obtain ⟨ρ₂, e₂, s₂, r₂, d₂⟩ := ih ρ₁ _ (fun M hM => hG M (List.mem_cons_of_mem _ hM)) s₁ r₁ d₁ (by rw [List.length_append]; (first | lia | omega))
    refine ⟨ρ₂, ?_, s₂, ?_, d₂⟩
    · rw [List.map_append]; exact e₁.append e₂
    · rw [r₂, List.append_assoc]
theorem due_one {fs : List (Str × AV)} {col : Nat} {held sizes doc : AV} {rw' : OL} (hc : 1 ≤ col) (hc' : col ≤ 100000) (L : Line) (ρ : Slots) (acc : List (AV × Nat)) (g : L.Fine) (hL : L.C.length ≤ f) (st : ColSt ρ fs col held sizes doc) (hr : getO ρ "rows" = some rw') (hd : getO ρ "due" = some ⟨none, acc.map szA⟩) (hz : acc.length + (L.recut f col).szs.length + f ≤ 100000) :
    ∃ ρ', Runs (fLaw_T20 GT GR GJ GC (GS (f + 1))) (fLaw_B21 GT GR GJ GC (GS (f + 1))) (L.szs.map szA) ρ ρ' ∧ ColSt ρ' fs col held sizes doc ∧ getO ρ' "rows" = some rw' ∧ getO ρ' "due" = some ⟨none, (acc ++ (L.recut f col).szs).map szA⟩ := by
  rcases g.tr with ht | ⟨ht, hls⟩
  · rw [recut_cut ht] at hz ⊢
    exact due_line hc hc' L.ls L.h ρ acc ht (fun n hn => by have := ls_le L.ls n hn; have := g.sum; (first | lia | omega)) st hr hd hz
  · rw [recut_whole ht] at hz ⊢
    have er : L.szs = [(L.h, L.C.length)] := by unfold Line.szs; rw [hls]; rfl
    rw [er] at hz ⊢
    obtain ⟨ρ', e₁, s₁, r₁, d₁⟩ := due_turn0 (GT := GT) (GR := GR) (GJ := GJ) (GC := GC) (n := f + 1) st hr hd ht (by (first | lia | omega))
    exact ⟨ρ', .cons e₁ .nil, s₁, r₁, d₁⟩
theorem due_lines {fs : List (Str × AV)} {col : Nat} {held sizes doc : AV} {rw' : OL} (hc : 1 ≤ col) (hc' : col ≤ 100000) (Ls : List Line) (ρ : Slots) (acc : List (AV × Nat)) (hG : ∀ L ∈ Ls, L.Fine ∧ L.C.length ≤ f) (st : ColSt ρ fs col held sizes doc) (hr : getO ρ "rows" = some rw') (hd : getO ρ "due" = some ⟨none, acc.map szA⟩)
    (hz : acc.length + ((Ls.map (Line.recut f col)).flatMap Line.szs).length + f ≤ 100000) :
    ∃ ρ', Runs (fLaw_T20 GT GR GJ GC (GS (f + 1))) (fLaw_B21 GT GR GJ GC (GS (f + 1))) ((Ls.flatMap Line.szs).map szA) ρ ρ' ∧ ColSt ρ' fs col held sizes doc ∧ getO ρ' "rows" = some rw' ∧ getO ρ' "due" = some ⟨none, (acc ++ (Ls.map (Line.recut f col)).flatMap Line.szs).map szA⟩ := by
  induction Ls generalizing ρ acc with
  | nil => exact ⟨ρ, .nil, st, hr, by rw [List.map_nil, List.flatMap_nil, List.append_nil]; exact hd⟩
  | cons L Ls ih =>
    obtain ⟨g, hL⟩ := hG L List.mem_cons_self
    rw [List.map_cons, List.flatMap_cons] at hz ⊢
    rw [List.flatMap_cons]
    rw [List.length_append] at hz
    obtain ⟨ρ₁, e₁, s₁, r₁, d₁⟩ := due_one (GT := GT) (GR := GR) (GJ := GJ) (GC := GC) hc hc' L ρ acc g hL st hr hd (by (first | lia | omega))
    obtain ⟨ρ₂, e₂, s₂, r₂, d₂⟩ := ih ρ₁ _ (fun M hM => hG M (List.mem_cons_of_mem _ hM)) s₁ r₁ d₁ (by rw [List.length_append]; (first | lia | omega))
    refine ⟨ρ₂, ?_, s₂, r₂, ?_⟩
    · rw [List.map_append]; exact e₁.append e₂
    · rw [d₂, List.append_assoc]
end
end Mine
end
section
set_option linter.unusedVariables false
set_option linter.unusedSimpArgs false
set_option maxHeartbeats 1000000
namespace Mine
theorem freeze_own {ρ : Slots} {x : Str} {l : OL} (h : getO ρ x = some l) : freeze x ρ = ρ.set x (.val (.lst l.items)) := by
  unfold freeze; rw [getO_eq h]
inductive All2 {α β : Type} (R : α → β → Prop) : List α → List β → Prop
  | nil : All2 R [] []
  | cons {a : α} {b : β} {l : List α} {m : List β} : R a b → All2 R l m → All2 R (a :: l) (b :: m)
def ReadOk (r : Row) (p : AV × Nat) : Prop := r.1 = p.1 ∧ readL r.2 false 0 = some p.2 ∧ r.2.length ≤ 90000
section
variable {GT GJ GC : FG} {GS : LG}
theorem comp_read (rs : List Row) (ps : List (AV × Nat)) (ρ : Slots) (h : All2 ReadOk rs ps) : compA (fLaw_T22 GT GR GJ GC GS) (fun _ => some true) (fLaw_f23 GT GR GJ GC GS) (rs.map rowA) ρ = some (ps.map szA) := by
  induction h generalizing ρ with
  | nil => rfl
  | cons h1 h2 ih =>
    rename_i r p rs ps
    obtain ⟨hd, t⟩ := r
    obtain ⟨hd', k⟩ := p
    obtain ⟨a1, a2, a3⟩ := h1
    have ha := GR_eq t k a3 a2
    have ef : fLaw_f23 GT GR GJ GC GS ((ρ.set "head" (.val hd)).set "text" (.val (.str (tx t)))) = some (.tup [hd, .int k]) := by
      unfold fLaw_f23
      (repeat' first | with_reducible exact Mine.getV_hit _ _ _ | with_reducible exact Mine.getO_hit _ _ _ | with_reducible assumption | with_reducible refine Mine.getV_skip ?_ ?_ | with_reducible refine Mine.getO_skip ?_ ?_ | with_reducible exact Mine.truthN_hitB _ _ _ | with_reducible refine Mine.truthN_skip ?_ ?_ | with_reducible exact Mine.aug_int _ _ | with_reducible exact Mine.truth_bool _ | with_reducible exact Mine.iter_lst _ | with_reducible refine Mine.iteT ?_ | with_reducible refine Mine.iteF ?_ | with_reducible apply Mine.bindS | with_reducible refine Mine.thenS ?_ | with_reducible exact Mine.thenA_ret _ _ _ | with_reducible refine Mine.noneS ?_ | with_reducible apply Mine.ifP | with_reducible rfl | exact Nat.le_of_ble_eq_true rfl | exact ⟨rfl, Nat.le_of_ble_eq_true rfl⟩ | decide)
    have a1 : hd = hd' := a1
    refine bindS (show fLaw_T22 GT GR GJ GC GS (rowA (hd, t)) ρ = _ from rfl) (bindS rfl (iteT (bindS ef (mapS (ih _) ?_))))
    rw [a1]; rfl
end
theorem rows_read : ∀ (ls : List Nat) (h : AV) (prev : Option Nat) (C : List Cell), (∀ c ∈ C, Ok c) → ls.sum = C.length → C.length ≤ 10000 → All2 ReadOk (rows h prev C ls) (szs h ls)
  | [], _, _, _, _, _, _ => .nil
  | n :: ls, h, prev, C, ho, hs, hz => by
    simp only [List.sum_cons] at hs
    have hl : (C.take n).length = n := by rw [List.length_take]; (first | lia | omega)
    refine .cons ⟨rfl, ?_, ?_⟩ (rows_read ls gt _ (C.drop n) (fun c hc => ho c (List.mem_of_mem_drop hc)) (by rw [List.length_drop]; (first | lia | omega)) (by rw [List.length_drop]; (first | lia | omega)))
    · have := read_piece prev (C.take n) (fun c hc => ho c (List.mem_of_mem_take hc))
      rw [hl] at this; exact this
    · have := piece_bound prev (C.take n)
      show (pieceT prev (C.take n)).length ≤ 90000
      (first | lia | omega)
theorem forall2_append {α β : Type} {R : α → β → Prop} {a : List α} {b : List β} {c : List α} {d : List β} (h : All2 R a b) (g : All2 R c d) : All2 R (a ++ c) (b ++ d) := by
  induction h with
  | nil => exact g
  | cons h _ ih => exact .cons h ih
theorem lines_read : ∀ (Ls : List Line), (∀ L ∈ Ls, L.Good) → All2 ReadOk (Ls.flatMap Line.rows) (Ls.flatMap Line.szs)
  | [], _ => .nil
  | L :: Ls, h => by
    have g := h L List.mem_cons_self
    rw [List.flatMap_cons, List.flatMap_cons]
    exact forall2_append (rows_read L.ls L.h none L.C g.ok g.sum g.small) (lines_read Ls fun M hM => h M (List.mem_cons_of_mem _ hM))
theorem dat_rows (rs : List Row) (h : ∀ r ∈ rs, dat 6 r.1 = true) : dat 8 (.lst (rs.map rowA)) = true := by
  show (rs.map rowA).all (dat 7) = true
  rw [List.all_eq_true]
  intro a ha
  obtain ⟨r, hr, rfl⟩ := List.mem_map.mp ha
  show ([r.1, AV.str (tx r.2)] : List AV).all (dat 6) = true
  rw [List.all_cons, h r hr]; rfl
theorem dat_szs (rs : List (AV × Nat)) (h : ∀ r ∈ rs, dat 6 r.1 = true) : dat 8 (.lst (rs.map szA)) = true := by
  show (rs.map szA).all (dat 7) = true
  rw [List.all_eq_true]
  intro a ha
  obtain ⟨r, hr, rfl⟩ := List.mem_map.mp ha
  show ([r.1, AV.int r.2] : List AV).all (dat 6) = true
  rw [List.all_cons, h r hr]; rfl
theorem ne_same (l : List AV) (h : dat 8 (.lst l) = true) : cmpA .NotEq (.lst l) (.lst l) = some false := by
  show (eqL l (.lst l)).map (!·) = some false
  have : eqL l (.lst l) = some true := by
    unfold eqL
    rw [show AV.lst? (.lst l) = some l from rfl, bind_some']
    exact if_pos ⟨rfl, h⟩
  rw [this]; rfl
theorem szs_heads : ∀ (ls : List Nat) (h : AV), dat 6 h = true → ∀ r ∈ szs h ls, dat 6 r.1 = true
  | [], _, _, r, hr => by cases hr
  | n :: ls, h, hd, r, hr => by
    rcases List.mem_cons.mp hr with rfl | hr
    · exact hd
    · exact szs_heads ls gt rfl r hr
section
variable {GT GC : FG} {f : Nat}
theorem col_end {GS : LG} {ρ : Slots} {Rs : List Row} {Ds : List (AV × Nat)} {Ws : List Row} (r : getO ρ "rows" = some ⟨none, Rs.map rowA⟩) (dd : getO ρ "due" = some ⟨none, Ds.map szA⟩) (c5 : getV ρ "document" = some (.lst (Ws.map rowA))) (hz : Rs.length ≤ 90000) (hrd : All2 ReadOk Rs Ds) (hj : GJ [.lst (Rs.map rowA)] = some (.lst (Ws.map rowA)))
    (h1 : dat 8 (.lst (Ds.map szA)) = true) (h2 : dat 8 (.lst (Ws.map rowA)) = true) :
    ∃ ρ', fLaw_k28 GT GR GJ GC GS ρ = some (.next, ρ') ∧ getV ρ' "held" = some (.lst (Rs.map rowA)) ∧ getV ρ' "sizes" = some (.lst (Ds.map szA)) ∧ getV ρ' "document" = some (.lst (Ws.map rowA)) := by
  obtain ⟨ρ₃, hρ₃, k1, k2, k3⟩ : ∃ ρ₃, freeze "due" (freeze "rows" ρ) = ρ₃ ∧ getV ρ₃ "rows" = some (.lst (Rs.map rowA)) ∧ getV ρ₃ "due" = some (.lst (Ds.map szA)) ∧ getV ρ₃ "document" = some (.lst (Ws.map rowA)) := by
    rw [freeze_own r, freeze_own (l := ⟨none, Ds.map szA⟩) (getO_skip rfl dd)]
    exact ⟨_, rfl, by (repeat' first | with_reducible exact Mine.getV_hit _ _ _ | with_reducible exact Mine.getO_hit _ _ _ | with_reducible assumption | with_reducible refine Mine.getV_skip ?_ ?_ | with_reducible refine Mine.getO_skip ?_ ?_ | with_reducible exact Mine.truthN_hitB _ _ _ | with_reducible refine Mine.truthN_skip ?_ ?_ | with_reducible exact Mine.aug_int _ _ | with_reducible exact Mine.truth_bool _ | with_reducible exact Mine.iter_lst _ | with_reducible refine Mine.iteT ?_ | with_reducible refine Mine.iteF ?_ | with_reducible apply Mine.bindS | with_reducible refine Mine.thenS ?_ | with_reducible exact Mine.thenA_ret _ _ _ | with_reducible refine Mine.noneS ?_ | with_reducible apply Mine.ifP | with_reducible rfl | exact Nat.le_of_ble_eq_true rfl | exact ⟨rfl, Nat.le_of_ble_eq_true rfl⟩ | decide), by (repeat' first | with_reducible exact Mine.getV_hit _ _ _ | with_reducible exact Mine.getO_hit _ _ _ | with_reducible assumption | with_reducible refine Mine.getV_skip ?_ ?_ | with_reducible refine Mine.getO_skip ?_ ?_ | with_reducible exact Mine.truthN_hitB _ _ _ | with_reducible refine Mine.truthN_skip ?_ ?_ | with_reducible exact Mine.aug_int _ _ | with_reducible exact Mine.truth_bool _ | with_reducible exact Mine.iter_lst _ | with_reducible refine Mine.iteT ?_ | with_reducible refine Mine.iteF ?_ | with_reducible apply Mine.bindS | with_reducible refine Mine.thenS ?_ | with_reducible exact Mine.thenA_ret _ _ _ | with_reducible refine Mine.noneS ?_ | with_reducible apply Mine.ifP | with_reducible rfl | exact Nat.le_of_ble_eq_true rfl | exact ⟨rfl, Nat.le_of_ble_eq_true rfl⟩ | decide), by (repeat' first | with_reducible exact Mine.getV_hit _ _ _ | with_reducible exact Mine.getO_hit _ _ _ | with_reducible assumption | with_reducible refine Mine.getV_skip ?_ ?_ | with_reducible refine Mine.getO_skip ?_ ?_ | with_reducible exact Mine.truthN_hitB _ _ _ | with_reducible refine Mine.truthN_skip ?_ ?_ | with_reducible exact Mine.aug_int _ _ | with_reducible exact Mine.truth_bool _ | with_reducible exact Mine.iter_lst _ | with_reducible refine Mine.iteT ?_ | with_reducible refine Mine.iteF ?_ | with_reducible apply Mine.bindS | with_reducible refine Mine.thenS ?_ | with_reducible exact Mine.thenA_ret _ _ _ | with_reducible refine Mine.noneS ?_ | with_reducible apply Mine.ifP | with_reducible rfl | exact Nat.le_of_ble_eq_true rfl | exact ⟨rfl, Nat.le_of_ble_eq_true rfl⟩ | decide)⟩
  have g1 : getV ((ρ₃.set "sizes" (.val (.lst (Ds.map szA)))).set "held" (.val (.lst (Rs.map rowA)))) "held" = some (.lst (Rs.map rowA)) := by (repeat' first | with_reducible exact Mine.getV_hit _ _ _ | with_reducible exact Mine.getO_hit _ _ _ | with_reducible assumption | with_reducible refine Mine.getV_skip ?_ ?_ | with_reducible refine Mine.getO_skip ?_ ?_ | with_reducible exact Mine.truthN_hitB _ _ _ | with_reducible refine Mine.truthN_skip ?_ ?_ | with_reducible exact Mine.aug_int _ _ | with_reducible exact Mine.truth_bool _ | with_reducible exact Mine.iter_lst _ | with_reducible refine Mine.iteT ?_ | with_reducible refine Mine.iteF ?_ | with_reducible apply Mine.bindS | with_reducible refine Mine.thenS ?_ | with_reducible exact Mine.thenA_ret _ _ _ | with_reducible refine Mine.noneS ?_ | with_reducible apply Mine.ifP | with_reducible rfl | exact Nat.le_of_ble_eq_true rfl | exact ⟨rfl, Nat.le_of_ble_eq_true rfl⟩ | decide)
  have g2 : getV ((ρ₃.set "sizes" (.val (.lst (Ds.map szA)))).set "held" (.val (.lst (Rs.map rowA)))) "sizes" = some (.lst (Ds.map szA)) := by (repeat' first | with_reducible exact Mine.getV_hit _ _ _ | with_reducible exact Mine.getO_hit _ _ _ | with_reducible assumption | with_reducible refine Mine.getV_skip ?_ ?_ | with_reducible refine Mine.getO_skip ?_ ?_ | with_reducible exact Mine.truthN_hitB _ _ _ | with_reducible refine Mine.truthN_skip ?_ ?_ | with_reducible exact Mine.aug_int _ _ | with_reducible exact Mine.truth_bool _ | with_reducible exact Mine.iter_lst _ | with_reducible refine Mine.iteT ?_ | with_reducible refine Mine.iteF ?_ | with_reducible apply Mine.bindS | with_reducible refine Mine.thenS ?_ | with_reducible exact Mine.thenA_ret _ _ _ | with_reducible refine Mine.noneS ?_ | with_reducible apply Mine.ifP | with_reducible rfl | exact Nat.le_of_ble_eq_true rfl | exact ⟨rfl, Nat.le_of_ble_eq_true rfl⟩ | decide)
  have g3 : getV ((ρ₃.set "sizes" (.val (.lst (Ds.map szA)))).set "held" (.val (.lst (Rs.map rowA)))) "document" = some (.lst (Ws.map rowA)) := by (repeat' first | with_reducible exact Mine.getV_hit _ _ _ | with_reducible exact Mine.getO_hit _ _ _ | with_reducible assumption | with_reducible refine Mine.getV_skip ?_ ?_ | with_reducible refine Mine.getO_skip ?_ ?_ | with_reducible exact Mine.truthN_hitB _ _ _ | with_reducible refine Mine.truthN_skip ?_ ?_ | with_reducible exact Mine.aug_int _ _ | with_reducible exact Mine.truth_bool _ | with_reducible exact Mine.iter_lst _ | with_reducible refine Mine.iteT ?_ | with_reducible refine Mine.iteF ?_ | with_reducible apply Mine.bindS | with_reducible refine Mine.thenS ?_ | with_reducible exact Mine.thenA_ret _ _ _ | with_reducible refine Mine.noneS ?_ | with_reducible apply Mine.ifP | with_reducible rfl | exact Nat.le_of_ble_eq_true rfl | exact ⟨rfl, Nat.le_of_ble_eq_true rfl⟩ | decide)
  obtain ⟨ρ₄, hρ₄⟩ : ∃ ρ₄, (ρ₃.set "sizes" (.val (.lst (Ds.map szA)))).set "held" (.val (.lst (Rs.map rowA))) = ρ₄ := ⟨_, rfl⟩
  rw [hρ₄] at g1 g2 g3
  have n1 := ne_same _ h1
  have n2 := ne_same _ h2
  have hlr : (Rs.map rowA).length ≤ 1000000 := by rw [List.length_map]; (first | lia | omega)
  have hc := comp_read (GT := GT) (GJ := GJ) (GC := GC) (GS := GS) Rs Ds (only [] ρ₄) hrd
  have e24 : fLaw_k24 GT GR GJ GC GS ρ₄ = some (.next, ρ₄) := by
    unfold fLaw_k24; (repeat' first | with_reducible exact Mine.getV_hit _ _ _ | with_reducible exact Mine.getO_hit _ _ _ | with_reducible assumption | with_reducible refine Mine.getV_skip ?_ ?_ | with_reducible refine Mine.getO_skip ?_ ?_ | with_reducible exact Mine.truthN_hitB _ _ _ | with_reducible refine Mine.truthN_skip ?_ ?_ | with_reducible exact Mine.aug_int _ _ | with_reducible exact Mine.truth_bool _ | with_reducible exact Mine.iter_lst _ | with_reducible refine Mine.iteT ?_ | with_reducible refine Mine.iteF ?_ | with_reducible apply Mine.bindS | with_reducible refine Mine.thenS ?_ | with_reducible exact Mine.thenA_ret _ _ _ | with_reducible refine Mine.noneS ?_ | with_reducible apply Mine.ifP | with_reducible rfl | exact Nat.le_of_ble_eq_true rfl | exact ⟨rfl, Nat.le_of_ble_eq_true rfl⟩ | decide)
  have hm : ((getV ρ₄ "held" >>= iterA) >>= fun items => if items.length ≤ 1000000 then compA (fLaw_T22 GT GR GJ GC GS) (fun _ => some true) (fLaw_f23 GT GR GJ GC GS) items (only [] ρ₄) else none).map AV.lst = some (.lst (Ds.map szA)) := mapS (by (repeat' first | with_reducible exact Mine.getV_hit _ _ _ | with_reducible exact Mine.getO_hit _ _ _ | with_reducible assumption | with_reducible refine Mine.getV_skip ?_ ?_ | with_reducible refine Mine.getO_skip ?_ ?_ | with_reducible exact Mine.truthN_hitB _ _ _ | with_reducible refine Mine.truthN_skip ?_ ?_ | with_reducible exact Mine.aug_int _ _ | with_reducible exact Mine.truth_bool _ | with_reducible exact Mine.iter_lst _ | with_reducible refine Mine.iteT ?_ | with_reducible refine Mine.iteF ?_ | with_reducible apply Mine.bindS | with_reducible refine Mine.thenS ?_ | with_reducible exact Mine.thenA_ret _ _ _ | with_reducible refine Mine.noneS ?_ | with_reducible apply Mine.ifP | with_reducible rfl | exact Nat.le_of_ble_eq_true rfl | exact ⟨rfl, Nat.le_of_ble_eq_true rfl⟩ | decide)) rfl
  have e25 : fLaw_k25 GT GR GJ GC GS ρ₄ = some (.next, ρ₄) := by
    unfold fLaw_k25; (repeat' first | with_reducible exact Mine.getV_hit _ _ _ | with_reducible exact Mine.getO_hit _ _ _ | with_reducible assumption | with_reducible refine Mine.getV_skip ?_ ?_ | with_reducible refine Mine.getO_skip ?_ ?_ | with_reducible exact Mine.truthN_hitB _ _ _ | with_reducible refine Mine.truthN_skip ?_ ?_ | with_reducible exact Mine.aug_int _ _ | with_reducible exact Mine.truth_bool _ | with_reducible exact Mine.iter_lst _ | with_reducible refine Mine.iteT ?_ | with_reducible refine Mine.iteF ?_ | with_reducible apply Mine.bindS | with_reducible refine Mine.thenS ?_ | with_reducible exact Mine.thenA_ret _ _ _ | with_reducible refine Mine.noneS ?_ | with_reducible apply Mine.ifP | with_reducible rfl | exact Nat.le_of_ble_eq_true rfl | exact ⟨rfl, Nat.le_of_ble_eq_true rfl⟩ | decide)
  have e25' : fLaw_k25 GT GR GJ GC GS (setMany ρ₃ ["sizes", "held"] [SV.val (.lst (Rs.map rowA)), SV.val (.lst (Ds.map szA))].reverse) = some (.next, ρ₄) := (congrArg _ hρ₄).trans e25
  refine ⟨ρ₄, ?_, g1, g2, g3⟩
  show fLaw_z26 GT GR GJ GC GS (freeze "due" (freeze "rows" ρ)) = _
  rw [hρ₃]
  unfold fLaw_z26
  (repeat' first | with_reducible exact Mine.getV_hit _ _ _ | with_reducible exact Mine.getO_hit _ _ _ | with_reducible assumption | with_reducible refine Mine.getV_skip ?_ ?_ | with_reducible refine Mine.getO_skip ?_ ?_ | with_reducible exact Mine.truthN_hitB _ _ _ | with_reducible refine Mine.truthN_skip ?_ ?_ | with_reducible exact Mine.aug_int _ _ | with_reducible exact Mine.truth_bool _ | with_reducible exact Mine.iter_lst _ | with_reducible refine Mine.iteT ?_ | with_reducible refine Mine.iteF ?_ | with_reducible apply Mine.bindS | with_reducible refine Mine.thenS ?_ | with_reducible exact Mine.thenA_ret _ _ _ | with_reducible refine Mine.noneS ?_ | with_reducible apply Mine.ifP | with_reducible rfl | exact Nat.le_of_ble_eq_true rfl | exact ⟨rfl, Nat.le_of_ble_eq_true rfl⟩ | decide)
theorem col_turn (hGC : ∀ col : Nat, ∃ fs, GC [.int 8, .int col] = some (.inst 113 fs) ∧ inst col fs) {Ls : List Line} {ρ : Slots} {col : Nat} (hc : 1 ≤ col) (hc' : col ≤ 100000) (hf : f ≤ 1000) (hL : ∀ L ∈ Ls, L.Fine ∧ L.C.length ≤ f ∧ dat 6 L.h = true) (hn : Ls.length ≤ 100000)
    (hz1 : ((Ls.map (Line.recut f col)).flatMap Line.rows).length ≤ 90000) (hz2 : ((Ls.map (Line.recut f col)).flatMap Line.szs).length ≤ 90000)
    (h1 : getV ρ "held" = some (.lst ((Ls.flatMap Line.rows).map rowA))) (h2 : getV ρ "sizes" = some (.lst ((Ls.flatMap Line.szs).map szA))) (h3 : getV ρ "document" = some (.lst ((Ls.map Line.whole).map rowA))) :
    ∃ ρ', (fLaw_T31 GT GR GJ GC (GS (f + 1)) (.int col) ρ >>= fLaw_B32 GT GR GJ GC (GS (f + 1))) = some (.next, ρ') ∧ getV ρ' "held" = some (.lst (((Ls.map (Line.recut f col)).flatMap Line.rows).map rowA)) ∧ getV ρ' "sizes" = some (.lst (((Ls.map (Line.recut f col)).flatMap Line.szs).map szA)) ∧ getV ρ' "document" = some (.lst (((Ls.map (Line.recut f col)).map Line.whole).map rowA)) := by
  obtain ⟨fs, hG, hi⟩ := hGC col
  have hF : ∀ L ∈ Ls, L.Fine ∧ L.C.length ≤ f := fun L h => ⟨(hL L h).1, (hL L h).2.1⟩
  have hR : ∀ L ∈ Ls.map (Line.recut f col), L.Good ∧ dat 6 L.h = true := fun M hM => by
    obtain ⟨L, h, rfl⟩ := List.mem_map.mp hM
    refine ⟨(recut_fine f col hc L (hL L h).1).1.toGood, ?_⟩
    have := (hL L h).2.2
    unfold Line.recut; split <;> exact this
  have hW : (Ls.map (Line.recut f col)).map Line.whole = Ls.map Line.whole := by
    rw [List.map_map]; exact List.map_congr_left fun L h => (recut_fine f col hc L (hL L h).1).2
  obtain ⟨ρ₀, base, st₀, r₀, d₀⟩ : ∃ ρ₀, (∀ r, fLaw_k30 GT GR GJ GC (GS (f + 1)) ρ₀ = r → fLaw_B32 GT GR GJ GC (GS (f + 1)) (ρ.set "column" (.val (.int col))) = r) ∧ ColSt ρ₀ fs col (.lst ((Ls.flatMap Line.rows).map rowA)) (.lst ((Ls.flatMap Line.szs).map szA)) (.lst ((Ls.map Line.whole).map rowA)) ∧
      getO ρ₀ "rows" = some ⟨none, ([] : List Row).map rowA⟩ ∧ getO ρ₀ "due" = some ⟨none, ([] : List (AV × Nat)).map szA⟩ := by
    refine ⟨(((ρ.set "column" (.val (.int col))).set "due" (.own ⟨none, []⟩)).set "rows" (.own ⟨none, []⟩)).set "sheet" (.val (.inst 113 fs)), fun r hr => ?_, ⟨by (repeat' first | with_reducible exact Mine.getV_hit _ _ _ | with_reducible exact Mine.getO_hit _ _ _ | with_reducible assumption | with_reducible refine Mine.getV_skip ?_ ?_ | with_reducible refine Mine.getO_skip ?_ ?_ | with_reducible exact Mine.truthN_hitB _ _ _ | with_reducible refine Mine.truthN_skip ?_ ?_ | with_reducible exact Mine.aug_int _ _ | with_reducible exact Mine.truth_bool _ | with_reducible exact Mine.iter_lst _ | with_reducible refine Mine.iteT ?_ | with_reducible refine Mine.iteF ?_ | with_reducible apply Mine.bindS | with_reducible refine Mine.thenS ?_ | with_reducible exact Mine.thenA_ret _ _ _ | with_reducible refine Mine.noneS ?_ | with_reducible apply Mine.ifP | with_reducible rfl | exact Nat.le_of_ble_eq_true rfl | exact ⟨rfl, Nat.le_of_ble_eq_true rfl⟩ | decide), by (repeat' first | with_reducible exact Mine.getV_hit _ _ _ | with_reducible exact Mine.getO_hit _ _ _ | with_reducible assumption | with_reducible refine Mine.getV_skip ?_ ?_ | with_reducible refine Mine.getO_skip ?_ ?_ | with_reducible exact Mine.truthN_hitB _ _ _ | with_reducible refine Mine.truthN_skip ?_ ?_ | with_reducible exact Mine.aug_int _ _ | with_reducible exact Mine.truth_bool _ | with_reducible exact Mine.iter_lst _ | with_reducible refine Mine.iteT ?_ | with_reducible refine Mine.iteF ?_ | with_reducible apply Mine.bindS | with_reducible refine Mine.thenS ?_ | with_reducible exact Mine.thenA_ret _ _ _ | with_reducible refine Mine.noneS ?_ | with_reducible apply Mine.ifP | with_reducible rfl | exact Nat.le_of_ble_eq_true rfl | exact ⟨rfl, Nat.le_of_ble_eq_true rfl⟩ | decide), by (repeat' first | with_reducible exact Mine.getV_hit _ _ _ | with_reducible exact Mine.getO_hit _ _ _ | with_reducible assumption | with_reducible refine Mine.getV_skip ?_ ?_ | with_reducible refine Mine.getO_skip ?_ ?_ | with_reducible exact Mine.truthN_hitB _ _ _ | with_reducible refine Mine.truthN_skip ?_ ?_ | with_reducible exact Mine.aug_int _ _ | with_reducible exact Mine.truth_bool _ | with_reducible exact Mine.iter_lst _ | with_reducible refine Mine.iteT ?_ | with_reducible refine Mine.iteF ?_ | with_reducible apply Mine.bindS | with_reducible refine Mine.thenS ?_ | with_reducible exact Mine.thenA_ret _ _ _ | with_reducible refine Mine.noneS ?_ | with_reducible apply Mine.ifP | with_reducible rfl | exact Nat.le_of_ble_eq_true rfl | exact ⟨rfl, Nat.le_of_ble_eq_true rfl⟩ | decide), by (repeat' first | with_reducible exact Mine.getV_hit _ _ _ | with_reducible exact Mine.getO_hit _ _ _ | with_reducible assumption | with_reducible refine Mine.getV_skip ?_ ?_ | with_reducible refine Mine.getO_skip ?_ ?_ | with_reducible exact Mine.truthN_hitB _ _ _ | with_reducible refine Mine.truthN_skip ?_ ?_ | with_reducible exact Mine.aug_int _ _ | with_reducible exact Mine.truth_bool _ | with_reducible exact Mine.iter_lst _ | with_reducible refine Mine.iteT ?_ | with_reducible refine Mine.iteF ?_ | with_reducible apply Mine.bindS | with_reducible refine Mine.thenS ?_ | with_reducible exact Mine.thenA_ret _ _ _ | with_reducible refine Mine.noneS ?_ | with_reducible apply Mine.ifP | with_reducible rfl | exact Nat.le_of_ble_eq_true rfl | exact ⟨rfl, Nat.le_of_ble_eq_true rfl⟩ | decide), by (repeat' first | with_reducible exact Mine.getV_hit _ _ _ | with_reducible exact Mine.getO_hit _ _ _ | with_reducible assumption | with_reducible refine Mine.getV_skip ?_ ?_ | with_reducible refine Mine.getO_skip ?_ ?_ | with_reducible exact Mine.truthN_hitB _ _ _ | with_reducible refine Mine.truthN_skip ?_ ?_ | with_reducible exact Mine.aug_int _ _ | with_reducible exact Mine.truth_bool _ | with_reducible exact Mine.iter_lst _ | with_reducible refine Mine.iteT ?_ | with_reducible refine Mine.iteF ?_ | with_reducible apply Mine.bindS | with_reducible refine Mine.thenS ?_ | with_reducible exact Mine.thenA_ret _ _ _ | with_reducible refine Mine.noneS ?_ | with_reducible apply Mine.ifP | with_reducible rfl | exact Nat.le_of_ble_eq_true rfl | exact ⟨rfl, Nat.le_of_ble_eq_true rfl⟩ | decide)⟩, by show _ = some (⟨none, []⟩ : OL); (repeat' first | with_reducible exact Mine.getV_hit _ _ _ | with_reducible exact Mine.getO_hit _ _ _ | with_reducible assumption | with_reducible refine Mine.getV_skip ?_ ?_ | with_reducible refine Mine.getO_skip ?_ ?_ | with_reducible exact Mine.truthN_hitB _ _ _ | with_reducible refine Mine.truthN_skip ?_ ?_ | with_reducible exact Mine.aug_int _ _ | with_reducible exact Mine.truth_bool _ | with_reducible exact Mine.iter_lst _ | with_reducible refine Mine.iteT ?_ | with_reducible refine Mine.iteF ?_ | with_reducible apply Mine.bindS | with_reducible refine Mine.thenS ?_ | with_reducible exact Mine.thenA_ret _ _ _ | with_reducible refine Mine.noneS ?_ | with_reducible apply Mine.ifP | with_reducible rfl | exact Nat.le_of_ble_eq_true rfl | exact ⟨rfl, Nat.le_of_ble_eq_true rfl⟩ | decide), by show _ = some (⟨none, []⟩ : OL); (repeat' first | with_reducible exact Mine.getV_hit _ _ _ | with_reducible exact Mine.getO_hit _ _ _ | with_reducible assumption | with_reducible refine Mine.getV_skip ?_ ?_ | with_reducible refine Mine.getO_skip ?_ ?_ | with_reducible exact Mine.truthN_hitB _ _ _ | with_reducible refine Mine.truthN_skip ?_ ?_ | with_reducible exact Mine.aug_int _ _ | with_reducible exact Mine.truth_bool _ | with_reducible exact Mine.iter_lst _ | with_reducible refine Mine.iteT ?_ | with_reducible refine Mine.iteF ?_ | with_reducible apply Mine.bindS | with_reducible refine Mine.thenS ?_ | with_reducible exact Mine.thenA_ret _ _ _ | with_reducible refine Mine.noneS ?_ | with_reducible apply Mine.ifP | with_reducible rfl | exact Nat.le_of_ble_eq_true rfl | exact ⟨rfl, Nat.le_of_ble_eq_true rfl⟩ | decide)⟩
    have hr' : fLaw_k30 GT GR GJ GC (GS (f + 1)) (setMany (ρ.set "column" (.val (.int col))) ["due", "rows", "sheet"] [SV.val (.inst 113 fs), SV.own ⟨none, []⟩, SV.own ⟨none, []⟩].reverse) = r := hr
    unfold fLaw_B32
    (repeat' first | with_reducible exact Mine.getV_hit _ _ _ | with_reducible exact Mine.getO_hit _ _ _ | with_reducible assumption | with_reducible refine Mine.getV_skip ?_ ?_ | with_reducible refine Mine.getO_skip ?_ ?_ | with_reducible exact Mine.truthN_hitB _ _ _ | with_reducible refine Mine.truthN_skip ?_ ?_ | with_reducible exact Mine.aug_int _ _ | with_reducible exact Mine.truth_bool _ | with_reducible exact Mine.iter_lst _ | with_reducible refine Mine.iteT ?_ | with_reducible refine Mine.iteF ?_ | with_reducible apply Mine.bindS | with_reducible refine Mine.thenS ?_ | with_reducible exact Mine.thenA_ret _ _ _ | with_reducible refine Mine.noneS ?_ | with_reducible apply Mine.ifP | with_reducible rfl | exact Nat.le_of_ble_eq_true rfl | exact ⟨rfl, Nat.le_of_ble_eq_true rfl⟩ | decide)
  obtain ⟨ρ₁, e₁, s₁, r₁, d₁⟩ := spl_lines (GT := GT) (GR := GR) (GJ := GJ) (GC := GC) hi hc Ls ρ₀ [] hF st₀ r₀ d₀ (by show 0 + _ ≤ 100000; (first | lia | omega))
  obtain ⟨ρ₂, e₂, s₂, r₂, d₂⟩ := due_lines (GT := GT) (GR := GR) (GJ := GJ) (GC := GC) hc hc' Ls ρ₁ [] hF s₁ r₁ d₁ (by show 0 + _ + f ≤ 100000; (first | lia | omega))
  rw [List.nil_append] at r₂ d₂
  have hML : (Ls.map (Line.recut f col)).length ≤ 100000 := by rw [List.length_map]; exact hn
  obtain ⟨ρ₃, e₃, k1, k2, k3⟩ := col_end (GT := GT) (GC := GC) (GS := GS (f + 1)) r₂ d₂ (hW ▸ s₂.doc) hz1 (lines_read _ fun L h => (hR L h).1) (GJ_eq _ (fun L h => (hR L h).1) hML)
    (dat_szs _ fun r hr => by
      obtain ⟨L, hL', hr⟩ := List.mem_flatMap.mp hr
      exact szs_heads L.ls L.h (hR L hL').2 r hr)
    (dat_rows _ fun r hr => by
      obtain ⟨L, hL', rfl⟩ := List.mem_map.mp hr
      exact (hR L hL').2)
  have a3 := st₀.held
  have b4 := s₁.sizes
  have e₁' := e₁.forA
  have e₂' := e₂.forA
  have e29 : fLaw_k29 GT GR GJ GC (GS (f + 1)) ρ₁ = some (.next, ρ₃) := by
    unfold fLaw_k29; (repeat' first | with_reducible exact Mine.getV_hit _ _ _ | with_reducible exact Mine.getO_hit _ _ _ | with_reducible assumption | with_reducible refine Mine.getV_skip ?_ ?_ | with_reducible refine Mine.getO_skip ?_ ?_ | with_reducible exact Mine.truthN_hitB _ _ _ | with_reducible refine Mine.truthN_skip ?_ ?_ | with_reducible exact Mine.aug_int _ _ | with_reducible exact Mine.truth_bool _ | with_reducible exact Mine.iter_lst _ | with_reducible refine Mine.iteT ?_ | with_reducible refine Mine.iteF ?_ | with_reducible apply Mine.bindS | with_reducible refine Mine.thenS ?_ | with_reducible exact Mine.thenA_ret _ _ _ | with_reducible refine Mine.noneS ?_ | with_reducible apply Mine.ifP | with_reducible rfl | exact Nat.le_of_ble_eq_true rfl | exact ⟨rfl, Nat.le_of_ble_eq_true rfl⟩ | decide)
  have e30 : fLaw_k30 GT GR GJ GC (GS (f + 1)) ρ₀ = some (.next, ρ₃) := by
    unfold fLaw_k30; (repeat' first | with_reducible exact Mine.getV_hit _ _ _ | with_reducible exact Mine.getO_hit _ _ _ | with_reducible assumption | with_reducible refine Mine.getV_skip ?_ ?_ | with_reducible refine Mine.getO_skip ?_ ?_ | with_reducible exact Mine.truthN_hitB _ _ _ | with_reducible refine Mine.truthN_skip ?_ ?_ | with_reducible exact Mine.aug_int _ _ | with_reducible exact Mine.truth_bool _ | with_reducible exact Mine.iter_lst _ | with_reducible refine Mine.iteT ?_ | with_reducible refine Mine.iteF ?_ | with_reducible apply Mine.bindS | with_reducible refine Mine.thenS ?_ | with_reducible exact Mine.thenA_ret _ _ _ | with_reducible refine Mine.noneS ?_ | with_reducible apply Mine.ifP | with_reducible rfl | exact Nat.le_of_ble_eq_true rfl | exact ⟨rfl, Nat.le_of_ble_eq_true rfl⟩ | decide)
  exact ⟨ρ₃, bindS rfl (base _ e30), k1, k2, k3⟩
end
end Mine
end
section
set_option linter.unusedVariables false
set_option linter.unusedSimpArgs false
set_option maxHeartbeats 1000000
namespace Mine
def sg : List Nat := [97, 98, 32, 99, 9, 100, 43, 101, 45, 102, 94, 103, 10, 48, 49, 104, 105, 60, 106, 107, 62, 108, 38, 109, 110]
theorem l_sg : (Str.ofString "ab c\td+e-f^g\n01hi<jk>l&mn" : Str) = tx sg := by decide +kernel
theorem l_plus : (Str.ofString "+" : Str) = tx [43] := by decide +kernel
theorem l_minus : (Str.ofString "-" : Str) = tx [45] := by decide +kernel
theorem l_hat : (Str.ofString "^" : Str) = tx [94] := by decide +kernel
def markOf (x : Nat) : Option Nat := if x % 4 = 0 then none else if x % 4 = 1 then some 43 else if x % 4 = 2 then some 45 else some 94
def cellOf (x k : Nat) : Cell := ⟨sg.getD (x / 6 % 20 + k) 97, markOf x, decide (k = 0) && decide (x / 4 % 3 = 0)⟩
def headOf (x n : Nat) : AV := if x / 6 % 4 = 0 then .int (n + 1 : Nat) else if x / 6 % 4 = 1 then .none else if x / 6 % 4 = 2 then .str (tx []) else .int 0
theorem fd (x k : Nat) (h0 : 0 < k) (h1 : k < 1073741824) : binA .FloorDiv (.int x) (.int k) = some (.int (x / k : Nat)) := by
  show (if (k : Int) ≠ 0 ∧ (k : Int).natAbs < 1073741824 then some (AV.int ((x : Int).fdiv k)) else none) = _
  rw [if_pos ⟨by (first | lia | omega), by (first | lia | omega)⟩, Int.fdiv_eq_ediv_of_nonneg _ (by (first | lia | omega)), ← Int.natCast_ediv]
theorem md (x k : Nat) (h0 : 0 < k) : binA .Mod (.int x) (.int k) = some (.int (x % k : Nat)) := by
  show (if (k : Int) ≠ 0 then some (AV.int ((x : Int).fmod k)) else none) = _
  rw [if_pos (by (first | lia | omega)), Int.fmod_eq_emod_of_nonneg _ (by (first | lia | omega)), ← Int.natCast_emod]
theorem ad (x k : Nat) : binA .Add (.int x) (.int k) = some (.int (x + k : Nat)) := by rw [Int.natCast_add]; exact Eq.trans rfl rfl
theorem idx_lst (l : List AV) (k : Nat) (a : AV) (h : l[k]? = some a) (hz : k ≤ 100000) : idxA (.lst l) (.int k) = some a := by
  rw [idxA_lst, if_pos ⟨by (first | lia | omega), by (first | lia | omega)⟩]
  unfold itemL
  rw [if_pos (by (first | lia | omega)), Int.toNat_natCast, h]
theorem sg_len : sg.length = 25 := rfl
theorem sg_get (i : Nat) (h : i < 25) : sg[i]'(by rw [sg_len]; exact h) = sg.getD i 97 := by
  rw [List.getD_eq_getElem?_getD, List.getElem?_eq_getElem (by rw [sg_len]; exact h)]; rfl
theorem cell_ok (x k : Nat) (hk : k < 4) : Ok (cellOf x k) := by
  constructor
  · have hi : x / 6 % 20 + k < 25 := by (first | lia | omega)
    show 2 ≤ sg.getD (x / 6 % 20 + k) 97
    rw [← sg_get _ hi]
    have : ∀ c ∈ sg, 2 ≤ c := by decide
    exact this _ (List.getElem_mem _)
  · intro m hm
    simp only [cellOf, markOf] at hm
    split at hm
    · cases hm
    · split at hm
      · cases hm; (first | lia | omega)
      · split at hm <;> cases hm <;> (first | lia | omega)
def lnA (p : AV × List Cell) : AV := .tup [p.1, .lst (p.2.map cellA)]
structure CellSt (ρ : Slots) (Ls : List (AV × List Cell)) (C : List Cell) (nums : AV) : Prop where
  lines : getO ρ "lines" = some ⟨none, Ls.map lnA⟩
  cells : getO ρ "cells" = some ⟨none, C.map cellA⟩
  nums : getV ρ "numbers" = some nums
section
variable {GT GR GJ GC : FG} {GS : LG}
theorem cell_k5 {ρ : Slots} {C : List Cell} {x k : Nat} {t : List Nat} (h2 : getO ρ "cells" = some ⟨none, C.map cellA⟩) (hx : getV ρ "x" = some (.int x)) (hk : getV ρ "k" = some (.int k)) (hs : getV ρ "sign" = some (.str (tx t))) (hz : C.length ≤ 100000) :
    fLaw_k5 GT GR GJ GC GS ρ = some (.next, ρ.set "cells" (.own ⟨none, C.map cellA ++ [AV.tup [.str (tx t), .str (tx (mk (markOf x))), .bool (decide (k = 0) && decide (x / 4 % 3 = 0))]]⟩)) := by
  have m4 : binA .Mod (.int x) (.int 4) = some (.int (x % 4 : Nat)) := md x 4 (by (first | lia | omega))
  have f4 : binA .FloorDiv (.int x) (.int 4) = some (.int (x / 4 : Nat)) := fd x 4 (by (first | lia | omega)) (by (first | lia | omega))
  have m3 : binA .Mod (.int (x / 4 : Nat)) (.int 3) = some (.int (x / 4 % 3 : Nat)) := md (x / 4) 3 (by (first | lia | omega))
  have im : idxA (.lst [.str (Str.ofString ""), .str (Str.ofString "+"), .str (Str.ofString "-"), .str (Str.ofString "^")]) (.int (x % 4 : Nat)) = some (.str (tx (mk (markOf x)))) := by
    rw [l_empty, l_plus, l_minus, l_hat]
    refine idx_lst _ _ _ ?_ (by (first | lia | omega))
    have : x % 4 = 0 ∨ x % 4 = 1 ∨ x % 4 = 2 ∨ x % 4 = 3 := by (first | lia | omega)
    unfold markOf
    rcases this with e | e | e | e <;> rw [e] <;> rfl
  have zero : ∀ n : Nat, (cmpA .Eq (.int n) (.int 0)).map AV.bool = some (.bool (decide (n = 0))) := fun n => by
    rw [eq_int']
    refine congrArg (fun b => some (AV.bool b)) ?_
    rw [Bool.eq_iff_iff, beq_iff_eq, decide_eq_true_eq]; (first | lia | omega)
  have q0 := zero k
  have q3 := zero (x / 4 % 3)
  have hc : (C.map cellA).length ≤ 1000000 := by rw [List.length_map]; (first | lia | omega)
  clear zero
  cases hb : decide (k = 0) with
  | true =>
    rw [hb] at q0
    rw [Bool.true_and]
    unfold fLaw_k5
    (repeat' first | with_reducible exact Mine.getV_hit _ _ _ | with_reducible exact Mine.getO_hit _ _ _ | with_reducible assumption | with_reducible refine Mine.getV_skip ?_ ?_ | with_reducible refine Mine.getO_skip ?_ ?_ | with_reducible exact Mine.truthN_hitB _ _ _ | with_reducible refine Mine.truthN_skip ?_ ?_ | with_reducible exact Mine.aug_int _ _ | with_reducible exact Mine.truth_bool _ | with_reducible exact Mine.iter_lst _ | with_reducible refine Mine.iteT ?_ | with_reducible refine Mine.iteF ?_ | with_reducible apply Mine.bindS | with_reducible refine Mine.thenS ?_ | with_reducible exact Mine.thenA_ret _ _ _ | with_reducible refine Mine.noneS ?_ | with_reducible apply Mine.ifP | with_reducible rfl | exact Nat.le_of_ble_eq_true rfl | exact ⟨rfl, Nat.le_of_ble_eq_true rfl⟩ | decide)
  | false =>
    rw [hb] at q0
    rw [Bool.false_and]
    unfold fLaw_k5
    (repeat' first | with_reducible exact Mine.getV_hit _ _ _ | with_reducible exact Mine.getO_hit _ _ _ | with_reducible assumption | with_reducible refine Mine.getV_skip ?_ ?_ | with_reducible refine Mine.getO_skip ?_ ?_ | with_reducible exact Mine.truthN_hitB _ _ _ | with_reducible refine Mine.truthN_skip ?_ ?_ | with_reducible exact Mine.aug_int _ _ | with_reducible exact Mine.truth_bool _ | with_reducible exact Mine.iter_lst _ | with_reducible refine Mine.iteT ?_ | with_reducible refine Mine.iteF ?_ | with_reducible apply Mine.bindS | with_reducible refine Mine.thenS ?_ | with_reducible exact Mine.thenA_ret _ _ _ | with_reducible refine Mine.noneS ?_ | with_reducible apply Mine.ifP | with_reducible rfl | exact Nat.le_of_ble_eq_true rfl | exact ⟨rfl, Nat.le_of_ble_eq_true rfl⟩ | decide)
theorem cell_turn {ρ : Slots} {Ls : List (AV × List Cell)} {C : List Cell} {nums : AV} {x k : Nat} (st : CellSt ρ Ls C nums) (hx : getV ρ "x" = some (.int x)) (hk : k < 4) (hz : C.length ≤ 100000) :
    ∃ ρ', (fLaw_T6 GT GR GJ GC GS (.int k) ρ >>= fLaw_B7 GT GR GJ GC GS) = some (.next, ρ') ∧ CellSt ρ' Ls (C ++ [cellOf x k]) nums ∧ getV ρ' "x" = some (.int x) := by
  obtain ⟨h1, h2, h3⟩ := st
  have f6 : binA .FloorDiv (.int x) (.int 6) = some (.int (x / 6 : Nat)) := fd x 6 (by (first | lia | omega)) (by (first | lia | omega))
  have m20 : binA .Mod (.int (x / 6 : Nat)) (.int 20) = some (.int (x / 6 % 20 : Nat)) := md (x / 6) 20 (by (first | lia | omega))
  have ha := ad (x / 6 % 20) k
  have hi : x / 6 % 20 + k < 25 := by (first | lia | omega)
  have is : idxA (.str (Str.ofString "ab c\td+e-f^g\n01hi<jk>l&mn")) (.int (x / 6 % 20 + k : Nat)) = some (.str (tx [sg.getD (x / 6 % 20 + k) 97])) := by
    rw [l_sg, idx_str sg _ (by rw [sg_len]; exact hi) (by rw [sg_len]; (first | lia | omega)), sg_get _ hi]
  have e5 := cell_k5 (GT := GT) (GR := GR) (GJ := GJ) (GC := GC) (GS := GS) (ρ := (ρ.set "k" (.val (.int k))).set "sign" (.val (.str (tx [sg.getD (x / 6 % 20 + k) 97])))) (C := C) (x := x) (k := k) (t := [sg.getD (x / 6 % 20 + k) 97]) (by (repeat' first | with_reducible exact Mine.getV_hit _ _ _ | with_reducible exact Mine.getO_hit _ _ _ | with_reducible assumption | with_reducible refine Mine.getV_skip ?_ ?_ | with_reducible refine Mine.getO_skip ?_ ?_ | with_reducible exact Mine.truthN_hitB _ _ _ | with_reducible refine Mine.truthN_skip ?_ ?_ | with_reducible exact Mine.aug_int _ _ | with_reducible exact Mine.truth_bool _ | with_reducible exact Mine.iter_lst _ | with_reducible refine Mine.iteT ?_ | with_reducible refine Mine.iteF ?_ | with_reducible apply Mine.bindS | with_reducible refine Mine.thenS ?_ | with_reducible exact Mine.thenA_ret _ _ _ | with_reducible refine Mine.noneS ?_ | with_reducible apply Mine.ifP | with_reducible rfl | exact Nat.le_of_ble_eq_true rfl | exact ⟨rfl, Nat.le_of_ble_eq_true rfl⟩ | decide)) (by (repeat' first | with_reducible exact Mine.getV_hit _ _ _ | with_reducible exact Mine.getO_hit _ _ _ | with_reducible assumption | with_reducible refine Mine.getV_skip ?_ ?_ | with_reducible refine Mine.getO_skip ?_ ?_ | with_reducible exact Mine.truthN_hitB _ _ _ | with_reducible refine Mine.truthN_skip ?_ ?_ | with_reducible exact Mine.aug_int _ _ | with_reducible exact Mine.truth_bool _ | with_reducible exact Mine.iter_lst _ | with_reducible refine Mine.iteT ?_ | with_reducible refine Mine.iteF ?_ | with_reducible apply Mine.bindS | with_reducible refine Mine.thenS ?_ | with_reducible exact Mine.thenA_ret _ _ _ | with_reducible refine Mine.noneS ?_ | with_reducible apply Mine.ifP | with_reducible rfl | exact Nat.le_of_ble_eq_true rfl | exact ⟨rfl, Nat.le_of_ble_eq_true rfl⟩ | decide)) (by (repeat' first | with_reducible exact Mine.getV_hit _ _ _ | with_reducible exact Mine.getO_hit _ _ _ | with_reducible assumption | with_reducible refine Mine.getV_skip ?_ ?_ | with_reducible refine Mine.getO_skip ?_ ?_ | with_reducible exact Mine.truthN_hitB _ _ _ | with_reducible refine Mine.truthN_skip ?_ ?_ | with_reducible exact Mine.aug_int _ _ | with_reducible exact Mine.truth_bool _ | with_reducible exact Mine.iter_lst _ | with_reducible refine Mine.iteT ?_ | with_reducible refine Mine.iteF ?_ | with_reducible apply Mine.bindS | with_reducible refine Mine.thenS ?_ | with_reducible exact Mine.thenA_ret _ _ _ | with_reducible refine Mine.noneS ?_ | with_reducible apply Mine.ifP | with_reducible rfl | exact Nat.le_of_ble_eq_true rfl | exact ⟨rfl, Nat.le_of_ble_eq_true rfl⟩ | decide)) (by (repeat' first | with_reducible exact Mine.getV_hit _ _ _ | with_reducible exact Mine.getO_hit _ _ _ | with_reducible assumption | with_reducible refine Mine.getV_skip ?_ ?_ | with_reducible refine Mine.getO_skip ?_ ?_ | with_reducible exact Mine.truthN_hitB _ _ _ | with_reducible refine Mine.truthN_skip ?_ ?_ | with_reducible exact Mine.aug_int _ _ | with_reducible exact Mine.truth_bool _ | with_reducible exact Mine.iter_lst _ | with_reducible refine Mine.iteT ?_ | with_reducible refine Mine.iteF ?_ | with_reducible apply Mine.bindS | with_reducible refine Mine.thenS ?_ | with_reducible exact Mine.thenA_ret _ _ _ | with_reducible refine Mine.noneS ?_ | with_reducible apply Mine.ifP | with_reducible rfl | exact Nat.le_of_ble_eq_true rfl | exact ⟨rfl, Nat.le_of_ble_eq_true rfl⟩ | decide)) hz
  have e7 : ∀ r, fLaw_k5 GT GR GJ GC GS ((ρ.set "k" (.val (.int k))).set "sign" (.val (.str (tx [sg.getD (x / 6 % 20 + k) 97])))) = r → fLaw_B7 GT GR GJ GC GS (ρ.set "k" (.val (.int k))) = r := fun r hr => by
    unfold fLaw_B7
    (repeat' first | with_reducible exact Mine.getV_hit _ _ _ | with_reducible exact Mine.getO_hit _ _ _ | with_reducible assumption | with_reducible refine Mine.getV_skip ?_ ?_ | with_reducible refine Mine.getO_skip ?_ ?_ | with_reducible exact Mine.truthN_hitB _ _ _ | with_reducible refine Mine.truthN_skip ?_ ?_ | with_reducible exact Mine.aug_int _ _ | with_reducible exact Mine.truth_bool _ | with_reducible exact Mine.iter_lst _ | with_reducible refine Mine.iteT ?_ | with_reducible refine Mine.iteF ?_ | with_reducible apply Mine.bindS | with_reducible refine Mine.thenS ?_ | with_reducible exact Mine.thenA_ret _ _ _ | with_reducible refine Mine.noneS ?_ | with_reducible apply Mine.ifP | with_reducible rfl | exact Nat.le_of_ble_eq_true rfl | exact ⟨rfl, Nat.le_of_ble_eq_true rfl⟩ | decide)
  exact ⟨_, bindS rfl (e7 _ e5), ⟨by (repeat' first | with_reducible exact Mine.getV_hit _ _ _ | with_reducible exact Mine.getO_hit _ _ _ | with_reducible assumption | with_reducible refine Mine.getV_skip ?_ ?_ | with_reducible refine Mine.getO_skip ?_ ?_ | with_reducible exact Mine.truthN_hitB _ _ _ | with_reducible refine Mine.truthN_skip ?_ ?_ | with_reducible exact Mine.aug_int _ _ | with_reducible exact Mine.truth_bool _ | with_reducible exact Mine.iter_lst _ | with_reducible refine Mine.iteT ?_ | with_reducible refine Mine.iteF ?_ | with_reducible apply Mine.bindS | with_reducible refine Mine.thenS ?_ | with_reducible exact Mine.thenA_ret _ _ _ | with_reducible refine Mine.noneS ?_ | with_reducible apply Mine.ifP | with_reducible rfl | exact Nat.le_of_ble_eq_true rfl | exact ⟨rfl, Nat.le_of_ble_eq_true rfl⟩ | decide), by rw [List.map_append]; exact getO_hit _ _ _, by (repeat' first | with_reducible exact Mine.getV_hit _ _ _ | with_reducible exact Mine.getO_hit _ _ _ | with_reducible assumption | with_reducible refine Mine.getV_skip ?_ ?_ | with_reducible refine Mine.getO_skip ?_ ?_ | with_reducible exact Mine.truthN_hitB _ _ _ | with_reducible refine Mine.truthN_skip ?_ ?_ | with_reducible exact Mine.aug_int _ _ | with_reducible exact Mine.truth_bool _ | with_reducible exact Mine.iter_lst _ | with_reducible refine Mine.iteT ?_ | with_reducible refine Mine.iteF ?_ | with_reducible apply Mine.bindS | with_reducible refine Mine.thenS ?_ | with_reducible exact Mine.thenA_ret _ _ _ | with_reducible refine Mine.noneS ?_ | with_reducible apply Mine.ifP | with_reducible rfl | exact Nat.le_of_ble_eq_true rfl | exact ⟨rfl, Nat.le_of_ble_eq_true rfl⟩ | decide)⟩, by (repeat' first | with_reducible exact Mine.getV_hit _ _ _ | with_reducible exact Mine.getO_hit _ _ _ | with_reducible assumption | with_reducible refine Mine.getV_skip ?_ ?_ | with_reducible refine Mine.getO_skip ?_ ?_ | with_reducible exact Mine.truthN_hitB _ _ _ | with_reducible refine Mine.truthN_skip ?_ ?_ | with_reducible exact Mine.aug_int _ _ | with_reducible exact Mine.truth_bool _ | with_reducible exact Mine.iter_lst _ | with_reducible refine Mine.iteT ?_ | with_reducible refine Mine.iteF ?_ | with_reducible apply Mine.bindS | with_reducible refine Mine.thenS ?_ | with_reducible exact Mine.thenA_ret _ _ _ | with_reducible refine Mine.noneS ?_ | with_reducible apply Mine.ifP | with_reducible rfl | exact Nat.le_of_ble_eq_true rfl | exact ⟨rfl, Nat.le_of_ble_eq_true rfl⟩ | decide)⟩
end
end Mine
end
section
set_option linter.unusedVariables false
set_option linter.unusedSimpArgs false
set_option maxHeartbeats 1000000
namespace Mine
section
variable {GT GR GJ GC : FG} {GS : LG}
theorem cells_loop {Ls : List (AV × List Cell)} {nums : AV} {x : Nat} : ∀ (m a : Nat) (ρ : Slots) (C : List Cell), a + m ≤ 4 → CellSt ρ Ls C nums → getV ρ "x" = some (.int x) → C.length + m ≤ 100000 →
    ∃ ρ', Runs (fLaw_T6 GT GR GJ GC GS) (fLaw_B7 GT GR GJ GC GS) (rangeL a 1 m) ρ ρ' ∧ CellSt ρ' Ls (C ++ (List.range' a m).map (cellOf x)) nums
  | 0, a, ρ, C, _, st, _, _ => ⟨ρ, .nil, by simpa using st⟩
  | m + 1, a, ρ, C, ha, st, hx, hz => by
    obtain ⟨ρ₁, e₁, s₁, x₁⟩ := cell_turn (GT := GT) (GR := GR) (GJ := GJ) (GC := GC) (GS := GS) (k := a) st hx (by (first | lia | omega)) (by (first | lia | omega))
    obtain ⟨ρ₂, e₂, s₂⟩ := cells_loop m (a + 1) ρ₁ _ (by (first | lia | omega)) s₁ x₁ (by simp; (first | lia | omega))
    refine ⟨ρ₂, .cons e₁ (by simpa using e₂), ?_⟩
    simpa [List.range'_succ] using s₂
def newCells (x : Nat) : List Cell := (List.range' 0 (1 + x / 12 % 4)).map (cellOf x)
def stepN (s : List (AV × List Cell) × List Cell) (x : Nat) : List (AV × List Cell) × List Cell := if x % 6 = 5 then (s.1 ++ [(headOf x s.1.length, s.2)], []) else (s.1, s.2 ++ newCells x)
theorem num_line {ρ : Slots} {Ls : List (AV × List Cell)} {C : List Cell} {x : Nat} (h1 : getO ρ "lines" = some ⟨none, Ls.map lnA⟩) (h2 : getO ρ "cells" = some ⟨none, C.map cellA⟩) (hx : getV ρ "x" = some (.int x)) (hz' : Ls.length ≤ 90000) :
    fLaw_z4 GT GR GJ GC GS (freeze "cells" ρ) = some (.next, ((ρ.set "cells" (.val (.lst (C.map cellA)))).set "lines" (.own ⟨none, Ls.map lnA ++ [AV.tup [headOf x Ls.length, .lst (C.map cellA)]]⟩)).set "cells" (.own ⟨none, []⟩)) := by
  have f6 : binA .FloorDiv (.int x) (.int 6) = some (.int (x / 6 : Nat)) := fd x 6 (by (first | lia | omega)) (by (first | lia | omega))
  have m64 : binA .Mod (.int (x / 6 : Nat)) (.int 4) = some (.int (x / 6 % 4 : Nat)) := md (x / 6) 4 (by (first | lia | omega))
  have fr : freeze "cells" ρ = ρ.set "cells" (.val (.lst (C.map cellA))) := freeze_own h2
  have b1' : getO (ρ.set "cells" (.val (.lst (C.map cellA)))) "lines" = some ⟨none, Ls.map lnA⟩ := by (repeat' first | with_reducible exact Mine.getV_hit _ _ _ | with_reducible exact Mine.getO_hit _ _ _ | with_reducible assumption | with_reducible refine Mine.getV_skip ?_ ?_ | with_reducible refine Mine.getO_skip ?_ ?_ | with_reducible exact Mine.truthN_hitB _ _ _ | with_reducible refine Mine.truthN_skip ?_ ?_ | with_reducible exact Mine.aug_int _ _ | with_reducible exact Mine.truth_bool _ | with_reducible exact Mine.iter_lst _ | with_reducible refine Mine.iteT ?_ | with_reducible refine Mine.iteF ?_ | with_reducible apply Mine.bindS | with_reducible refine Mine.thenS ?_ | with_reducible exact Mine.thenA_ret _ _ _ | with_reducible refine Mine.noneS ?_ | with_reducible apply Mine.ifP | with_reducible rfl | exact Nat.le_of_ble_eq_true rfl | exact ⟨rfl, Nat.le_of_ble_eq_true rfl⟩ | decide)
  have gl : getL (ρ.set "cells" (.val (.lst (C.map cellA)))) "lines" = some (Ls.map lnA) := by unfold getL; rw [getO_eq b1']
  have ia : idxA (.lst [.int (Ls.length + 1 : Nat), .none, .str (Str.ofString ""), .int 0]) (.int (x / 6 % 4 : Nat)) = some (headOf x Ls.length) := by
    rw [l_empty]
    refine idx_lst _ _ _ ?_ (by (first | lia | omega))
    have : x / 6 % 4 = 0 ∨ x / 6 % 4 = 1 ∨ x / 6 % 4 = 2 ∨ x / 6 % 4 = 3 := by (first | lia | omega)
    unfold headOf
    rcases this with e | e | e | e <;> rw [e] <;> rfl
  have a1 : binA .Add (.int ((Ls.map lnA).length : Nat)) (.int 1) = some (.int (Ls.length + 1 : Nat)) := by rw [List.length_map]; exact ad Ls.length 1
  have q1 : (Ls.map lnA).length ≤ 16777216 := by rw [List.length_map]; (first | lia | omega)
  have q2 : (Ls.map lnA).length ≤ 1000000 := by rw [List.length_map]; (first | lia | omega)
  rw [fr]
  unfold fLaw_z4 fLaw_k3
  (repeat' first | with_reducible exact Mine.getV_hit _ _ _ | with_reducible exact Mine.getO_hit _ _ _ | with_reducible assumption | with_reducible refine Mine.getV_skip ?_ ?_ | with_reducible refine Mine.getO_skip ?_ ?_ | with_reducible exact Mine.truthN_hitB _ _ _ | with_reducible refine Mine.truthN_skip ?_ ?_ | with_reducible exact Mine.aug_int _ _ | with_reducible exact Mine.truth_bool _ | with_reducible exact Mine.iter_lst _ | with_reducible refine Mine.iteT ?_ | with_reducible refine Mine.iteF ?_ | with_reducible apply Mine.bindS | with_reducible refine Mine.thenS ?_ | with_reducible exact Mine.thenA_ret _ _ _ | with_reducible refine Mine.noneS ?_ | with_reducible apply Mine.ifP | with_reducible rfl | exact Nat.le_of_ble_eq_true rfl | exact ⟨rfl, Nat.le_of_ble_eq_true rfl⟩ | decide)
theorem num_turn {ρ : Slots} {Ls : List (AV × List Cell)} {C : List Cell} {nums : AV} {x : Nat} (st : CellSt ρ Ls C nums) (hz : C.length ≤ 90000) (hz' : Ls.length ≤ 90000) :
    ∃ ρ', (fLaw_T8 GT GR GJ GC GS (.int x) ρ >>= fLaw_B9 GT GR GJ GC GS) = some (.next, ρ') ∧ CellSt ρ' (stepN (Ls, C) x).1 (stepN (Ls, C) x).2 nums := by
  obtain ⟨h1, h2, h3⟩ := st
  have m6 : binA .Mod (.int x) (.int 6) = some (.int (x % 6 : Nat)) := md x 6 (by (first | lia | omega))
  have e5 := eq_int' (x % 6 : Nat) 5
  by_cases h5 : x % 6 = 5
  · have e := num_line (GT := GT) (GR := GR) (GJ := GJ) (GC := GC) (GS := GS) (ρ := ρ.set "x" (.val (.int x))) (Ls := Ls) (C := C) (x := x) (by (repeat' first | with_reducible exact Mine.getV_hit _ _ _ | with_reducible exact Mine.getO_hit _ _ _ | with_reducible assumption | with_reducible refine Mine.getV_skip ?_ ?_ | with_reducible refine Mine.getO_skip ?_ ?_ | with_reducible exact Mine.truthN_hitB _ _ _ | with_reducible refine Mine.truthN_skip ?_ ?_ | with_reducible exact Mine.aug_int _ _ | with_reducible exact Mine.truth_bool _ | with_reducible exact Mine.iter_lst _ | with_reducible refine Mine.iteT ?_ | with_reducible refine Mine.iteF ?_ | with_reducible apply Mine.bindS | with_reducible refine Mine.thenS ?_ | with_reducible exact Mine.thenA_ret _ _ _ | with_reducible refine Mine.noneS ?_ | with_reducible apply Mine.ifP | with_reducible rfl | exact Nat.le_of_ble_eq_true rfl | exact ⟨rfl, Nat.le_of_ble_eq_true rfl⟩ | decide)) (by (repeat' first | with_reducible exact Mine.getV_hit _ _ _ | with_reducible exact Mine.getO_hit _ _ _ | with_reducible assumption | with_reducible refine Mine.getV_skip ?_ ?_ | with_reducible refine Mine.getO_skip ?_ ?_ | with_reducible exact Mine.truthN_hitB _ _ _ | with_reducible refine Mine.truthN_skip ?_ ?_ | with_reducible exact Mine.aug_int _ _ | with_reducible exact Mine.truth_bool _ | with_reducible exact Mine.iter_lst _ | with_reducible refine Mine.iteT ?_ | with_reducible refine Mine.iteF ?_ | with_reducible apply Mine.bindS | with_reducible refine Mine.thenS ?_ | with_reducible exact Mine.thenA_ret _ _ _ | with_reducible refine Mine.noneS ?_ | with_reducible apply Mine.ifP | with_reducible rfl | exact Nat.le_of_ble_eq_true rfl | exact ⟨rfl, Nat.le_of_ble_eq_true rfl⟩ | decide)) (by (repeat' first | with_reducible exact Mine.getV_hit _ _ _ | with_reducible exact Mine.getO_hit _ _ _ | with_reducible assumption | with_reducible refine Mine.getV_skip ?_ ?_ | with_reducible refine Mine.getO_skip ?_ ?_ | with_reducible exact Mine.truthN_hitB _ _ _ | with_reducible refine Mine.truthN_skip ?_ ?_ | with_reducible exact Mine.aug_int _ _ | with_reducible exact Mine.truth_bool _ | with_reducible exact Mine.iter_lst _ | with_reducible refine Mine.iteT ?_ | with_reducible refine Mine.iteF ?_ | with_reducible apply Mine.bindS | with_reducible refine Mine.thenS ?_ | with_reducible exact Mine.thenA_ret _ _ _ | with_reducible refine Mine.noneS ?_ | with_reducible apply Mine.ifP | with_reducible rfl | exact Nat.le_of_ble_eq_true rfl | exact ⟨rfl, Nat.le_of_ble_eq_true rfl⟩ | decide)) hz'
    rw [show (((x % 6 : Nat) : Int) == 5) = true by rw [h5]; rfl] at e5
    have e9 : fLaw_B9 GT GR GJ GC GS (ρ.set "x" (.val (.int x))) = some (.next, (((ρ.set "x" (.val (.int x))).set "cells" (.val (.lst (C.map cellA)))).set "lines" (.own ⟨none, Ls.map lnA ++ [AV.tup [headOf x Ls.length, .lst (C.map cellA)]]⟩)).set "cells" (.own ⟨none, []⟩)) := by
      unfold fLaw_B9
      (repeat' first | with_reducible exact Mine.getV_hit _ _ _ | with_reducible exact Mine.getO_hit _ _ _ | with_reducible assumption | with_reducible refine Mine.getV_skip ?_ ?_ | with_reducible refine Mine.getO_skip ?_ ?_ | with_reducible exact Mine.truthN_hitB _ _ _ | with_reducible refine Mine.truthN_skip ?_ ?_ | with_reducible exact Mine.aug_int _ _ | with_reducible exact Mine.truth_bool _ | with_reducible exact Mine.iter_lst _ | with_reducible refine Mine.iteT ?_ | with_reducible refine Mine.iteF ?_ | with_reducible apply Mine.bindS | with_reducible refine Mine.thenS ?_ | with_reducible exact Mine.thenA_ret _ _ _ | with_reducible refine Mine.noneS ?_ | with_reducible apply Mine.ifP | with_reducible rfl | exact Nat.le_of_ble_eq_true rfl | exact ⟨rfl, Nat.le_of_ble_eq_true rfl⟩ | decide)
    refine ⟨_, bindS rfl e9, ?_⟩
    unfold stepN
    rw [if_pos h5]
    exact ⟨by show _ = some (⟨none, (Ls ++ [(headOf x Ls.length, C)]).map lnA⟩ : OL); rw [List.map_append]; exact getO_skip rfl (getO_hit _ _ _), by show _ = some (⟨none, []⟩ : OL); (repeat' first | with_reducible exact Mine.getV_hit _ _ _ | with_reducible exact Mine.getO_hit _ _ _ | with_reducible assumption | with_reducible refine Mine.getV_skip ?_ ?_ | with_reducible refine Mine.getO_skip ?_ ?_ | with_reducible exact Mine.truthN_hitB _ _ _ | with_reducible refine Mine.truthN_skip ?_ ?_ | with_reducible exact Mine.aug_int _ _ | with_reducible exact Mine.truth_bool _ | with_reducible exact Mine.iter_lst _ | with_reducible refine Mine.iteT ?_ | with_reducible refine Mine.iteF ?_ | with_reducible apply Mine.bindS | with_reducible refine Mine.thenS ?_ | with_reducible exact Mine.thenA_ret _ _ _ | with_reducible refine Mine.noneS ?_ | with_reducible apply Mine.ifP | with_reducible rfl | exact Nat.le_of_ble_eq_true rfl | exact ⟨rfl, Nat.le_of_ble_eq_true rfl⟩ | decide), by (repeat' first | with_reducible exact Mine.getV_hit _ _ _ | with_reducible exact Mine.getO_hit _ _ _ | with_reducible assumption | with_reducible refine Mine.getV_skip ?_ ?_ | with_reducible refine Mine.getO_skip ?_ ?_ | with_reducible exact Mine.truthN_hitB _ _ _ | with_reducible refine Mine.truthN_skip ?_ ?_ | with_reducible exact Mine.aug_int _ _ | with_reducible exact Mine.truth_bool _ | with_reducible exact Mine.iter_lst _ | with_reducible refine Mine.iteT ?_ | with_reducible refine Mine.iteF ?_ | with_reducible apply Mine.bindS | with_reducible refine Mine.thenS ?_ | with_reducible exact Mine.thenA_ret _ _ _ | with_reducible refine Mine.noneS ?_ | with_reducible apply Mine.ifP | with_reducible rfl | exact Nat.le_of_ble_eq_true rfl | exact ⟨rfl, Nat.le_of_ble_eq_true rfl⟩ | decide)⟩
  · have f12 : binA .FloorDiv (.int x) (.int 12) = some (.int (x / 12 : Nat)) := fd x 12 (by (first | lia | omega)) (by (first | lia | omega))
    have m124 : binA .Mod (.int (x / 12 : Nat)) (.int 4) = some (.int (x / 12 % 4 : Nat)) := md (x / 12) 4 (by (first | lia | omega))
    rw [show (((x % 6 : Nat) : Int) == 5) = false from beq_eq_false_iff_ne.mpr (by (first | lia | omega))] at e5
    have hra : rangeA [.int (1 + x / 12 % 4 : Nat)] = some (rangeL 0 1 (1 + x / 12 % 4)) := by
      rw [rangeA_1]
      show (if -1000000000 < ((1 + x / 12 % 4 : Nat) : Int) ∧ ((1 + x / 12 % 4 : Nat) : Int) < 1000000000 then some (rangeL 0 1 (((1 + x / 12 % 4 : Nat) : Int)).toNat) else none) = _
      rw [if_pos ⟨by (first | lia | omega), by (first | lia | omega)⟩, Int.toNat_natCast]
    have a1 : binA .Add (.int 1) (.int (x / 12 % 4 : Nat)) = some (.int (1 + x / 12 % 4 : Nat)) := ad 1 (x / 12 % 4)
    obtain ⟨ρ', e, s⟩ := cells_loop (GT := GT) (GR := GR) (GJ := GJ) (GC := GC) (GS := GS) (Ls := Ls) (nums := nums) (x := x) (1 + x / 12 % 4) 0 (ρ.set "x" (.val (.int x))) C (by (first | lia | omega)) ⟨by (repeat' first | with_reducible exact Mine.getV_hit _ _ _ | with_reducible exact Mine.getO_hit _ _ _ | with_reducible assumption | with_reducible refine Mine.getV_skip ?_ ?_ | with_reducible refine Mine.getO_skip ?_ ?_ | with_reducible exact Mine.truthN_hitB _ _ _ | with_reducible refine Mine.truthN_skip ?_ ?_ | with_reducible exact Mine.aug_int _ _ | with_reducible exact Mine.truth_bool _ | with_reducible exact Mine.iter_lst _ | with_reducible refine Mine.iteT ?_ | with_reducible refine Mine.iteF ?_ | with_reducible apply Mine.bindS | with_reducible refine Mine.thenS ?_ | with_reducible exact Mine.thenA_ret _ _ _ | with_reducible refine Mine.noneS ?_ | with_reducible apply Mine.ifP | with_reducible rfl | exact Nat.le_of_ble_eq_true rfl | exact ⟨rfl, Nat.le_of_ble_eq_true rfl⟩ | decide), by (repeat' first | with_reducible exact Mine.getV_hit _ _ _ | with_reducible exact Mine.getO_hit _ _ _ | with_reducible assumption | with_reducible refine Mine.getV_skip ?_ ?_ | with_reducible refine Mine.getO_skip ?_ ?_ | with_reducible exact Mine.truthN_hitB _ _ _ | with_reducible refine Mine.truthN_skip ?_ ?_ | with_reducible exact Mine.aug_int _ _ | with_reducible exact Mine.truth_bool _ | with_reducible exact Mine.iter_lst _ | with_reducible refine Mine.iteT ?_ | with_reducible refine Mine.iteF ?_ | with_reducible apply Mine.bindS | with_reducible refine Mine.thenS ?_ | with_reducible exact Mine.thenA_ret _ _ _ | with_reducible refine Mine.noneS ?_ | with_reducible apply Mine.ifP | with_reducible rfl | exact Nat.le_of_ble_eq_true rfl | exact ⟨rfl, Nat.le_of_ble_eq_true rfl⟩ | decide), by (repeat' first | with_reducible exact Mine.getV_hit _ _ _ | with_reducible exact Mine.getO_hit _ _ _ | with_reducible assumption | with_reducible refine Mine.getV_skip ?_ ?_ | with_reducible refine Mine.getO_skip ?_ ?_ | with_reducible exact Mine.truthN_hitB _ _ _ | with_reducible refine Mine.truthN_skip ?_ ?_ | with_reducible exact Mine.aug_int _ _ | with_reducible exact Mine.truth_bool _ | with_reducible exact Mine.iter_lst _ | with_reducible refine Mine.iteT ?_ | with_reducible refine Mine.iteF ?_ | with_reducible apply Mine.bindS | with_reducible refine Mine.thenS ?_ | with_reducible exact Mine.thenA_ret _ _ _ | with_reducible refine Mine.noneS ?_ | with_reducible apply Mine.ifP | with_reducible rfl | exact Nat.le_of_ble_eq_true rfl | exact ⟨rfl, Nat.le_of_ble_eq_true rfl⟩ | decide)⟩ (by (repeat' first | with_reducible exact Mine.getV_hit _ _ _ | with_reducible exact Mine.getO_hit _ _ _ | with_reducible assumption | with_reducible refine Mine.getV_skip ?_ ?_ | with_reducible refine Mine.getO_skip ?_ ?_ | with_reducible exact Mine.truthN_hitB _ _ _ | with_reducible refine Mine.truthN_skip ?_ ?_ | with_reducible exact Mine.aug_int _ _ | with_reducible exact Mine.truth_bool _ | with_reducible exact Mine.iter_lst _ | with_reducible refine Mine.iteT ?_ | with_reducible refine Mine.iteF ?_ | with_reducible apply Mine.bindS | with_reducible refine Mine.thenS ?_ | with_reducible exact Mine.thenA_ret _ _ _ | with_reducible refine Mine.noneS ?_ | with_reducible apply Mine.ifP | with_reducible rfl | exact Nat.le_of_ble_eq_true rfl | exact ⟨rfl, Nat.le_of_ble_eq_true rfl⟩ | decide)) (by (first | lia | omega))
    have e' : forA (fLaw_T6 GT GR GJ GC GS) (fLaw_B7 GT GR GJ GC GS) (rangeL 0 1 (1 + x / 12 % 4)) (ρ.set "x" (.val (.int x))) = some (.next, ρ') := e.forA
    have e9 : fLaw_B9 GT GR GJ GC GS (ρ.set "x" (.val (.int x))) = some (.next, ρ') := by
      unfold fLaw_B9
      (repeat' first | with_reducible exact Mine.getV_hit _ _ _ | with_reducible exact Mine.getO_hit _ _ _ | with_reducible assumption | with_reducible refine Mine.getV_skip ?_ ?_ | with_reducible refine Mine.getO_skip ?_ ?_ | with_reducible exact Mine.truthN_hitB _ _ _ | with_reducible refine Mine.truthN_skip ?_ ?_ | with_reducible exact Mine.aug_int _ _ | with_reducible exact Mine.truth_bool _ | with_reducible exact Mine.iter_lst _ | with_reducible refine Mine.iteT ?_ | with_reducible refine Mine.iteF ?_ | with_reducible apply Mine.bindS | with_reducible refine Mine.thenS ?_ | with_reducible exact Mine.thenA_ret _ _ _ | with_reducible refine Mine.noneS ?_ | with_reducible apply Mine.ifP | with_reducible rfl | exact Nat.le_of_ble_eq_true rfl | exact ⟨rfl, Nat.le_of_ble_eq_true rfl⟩ | decide)
    refine ⟨ρ', bindS rfl e9, ?_⟩
    unfold stepN
    rw [if_neg h5]; exact s
end
end Mine
end
section
set_option linter.unusedVariables false
set_option linter.unusedSimpArgs false
set_option maxHeartbeats 1000000
namespace Mine
theorem step_len (s : List (AV × List Cell) × List Cell) (x : Nat) : (stepN s x).2.length ≤ s.2.length + 4 ∧ (stepN s x).1.length ≤ s.1.length + 1 := by
  unfold stepN
  split
  · simp
  · simp [newCells]; (first | lia | omega)
section
variable {GT GR GJ GC : FG} {GS : LG}
theorem num_loop {nums : AV} : ∀ (xs : List Nat) (ρ : Slots) (s : List (AV × List Cell) × List Cell), CellSt ρ s.1 s.2 nums → s.2.length + 4 * xs.length ≤ 80000 → s.1.length + xs.length ≤ 80000 →
    ∃ ρ', Runs (fLaw_T8 GT GR GJ GC GS) (fLaw_B9 GT GR GJ GC GS) (xs.map fun (x : Nat) => AV.int x) ρ ρ' ∧ CellSt ρ' (xs.foldl stepN s).1 (xs.foldl stepN s).2 nums
  | [], ρ, s, st, _, _ => ⟨ρ, .nil, st⟩
  | x :: xs, ρ, s, st, h1, h2 => by
    simp only [List.length_cons] at h1 h2
    obtain ⟨ρ₁, e₁, s₁⟩ := num_turn (GT := GT) (GR := GR) (GJ := GJ) (GC := GC) (GS := GS) (x := x) st (by (first | lia | omega)) (by (first | lia | omega))
    have := step_len s x
    obtain ⟨ρ₂, e₂, s₂⟩ := num_loop xs ρ₁ (stepN s x) s₁ (by (first | lia | omega)) (by (first | lia | omega))
    exact ⟨ρ₂, .cons e₁ e₂, s₂⟩
end
def HeadOk (h : AV) : Prop := NoGt h ∧ dat 6 h = true ∧ (truthA h = some true ∨ truthA h = some false)
theorem head_int (n : Nat) : HeadOk (.int n) := by
  refine ⟨Eq.trans rfl rfl, rfl, ?_⟩
  rw [truth_int]
  cases ((n : Int) != 0) <;> simp
theorem head_ok (x n : Nat) : HeadOk (headOf x n) := by
  unfold headOf
  split
  · exact head_int _
  · split
    · exact ⟨Eq.trans rfl rfl, rfl, .inr rfl⟩
    · split
      · refine ⟨?_, rfl, .inr ?_⟩
        · unfold NoGt; rw [eq_str]; rfl
        · rw [truth_str _ (by simp)]; rfl
      · exact head_int 0
structure PInv (N : Nat) (s : List (AV × List Cell) × List Cell) : Prop where
  lines : ∀ p ∈ s.1, HeadOk p.1 ∧ (∀ c ∈ p.2, Ok c) ∧ p.2.length ≤ N
  ok : ∀ c ∈ s.2, Ok c
  len : s.2.length ≤ N
theorem pinv_step {N : Nat} {s : List (AV × List Cell) × List Cell} (x : Nat) (h : PInv N s) : PInv (N + 4) (stepN s x) := by
  obtain ⟨h1, h2, h3⟩ := h
  unfold stepN
  split
  · refine ⟨fun p hp => ?_, (fun c hc => by cases hc), by simp⟩
    rcases List.mem_append.mp hp with hp | hp
    · have := h1 p hp; exact ⟨this.1, this.2.1, by (first | lia | omega)⟩
    · cases List.mem_singleton.mp hp
      exact ⟨head_ok _ _, h2, by simp; (first | lia | omega)⟩
  · refine ⟨fun p hp => ?_, fun c hc => ?_, ?_⟩
    · have := h1 p hp; exact ⟨this.1, this.2.1, by (first | lia | omega)⟩
    · rcases List.mem_append.mp hc with hc | hc
      · exact h2 c hc
      · obtain ⟨k, hk, rfl⟩ := List.mem_map.mp hc
        exact cell_ok x k (by rw [List.mem_range'] at hk; obtain ⟨i, hi, rfl⟩ := hk; (first | lia | omega))
    · simp [newCells]; (first | lia | omega)
theorem pinv_fold : ∀ (xs : List Nat) (N : Nat) (s : List (AV × List Cell) × List Cell), PInv N s → PInv (N + 4 * xs.length) (xs.foldl stepN s) ∧ (xs.foldl stepN s).1.length ≤ s.1.length + xs.length
  | [], N, s, h => ⟨h, Nat.le_refl _⟩
  | x :: xs, N, s, h => by
    have := pinv_fold xs (N + 4) (stepN s x) (pinv_step x h)
    have hl := step_len s x
    refine ⟨?_, ?_⟩
    · rw [List.length_cons, show N + 4 * (xs.length + 1) = N + 4 + 4 * xs.length by (first | lia | omega)]; exact this.1
    · rw [List.length_cons]; have := this.2; simp only [List.foldl_cons]; (first | lia | omega)
def toLine (p : AV × List Cell) : Line := ⟨p.1, p.2, [p.2.length]⟩
theorem toLine_fine (p : AV × List Cell) (h : HeadOk p.1) (ho : ∀ c ∈ p.2, Ok c) (hz : p.2.length ≤ 10000) : (toLine p).Fine := by
  refine ⟨⟨h.1, ho, by simp [toLine], ?_, hz⟩, ?_⟩
  · by_cases e : p.2 = []
    · left; exact ⟨e, by simp [toLine, e]⟩
    · right
      refine ⟨e, fun n hn => ?_⟩
      cases List.mem_singleton.mp hn
      exact List.length_pos_iff.mpr e
  · exact h.2.2.imp id fun h => ⟨h, rfl⟩
theorem piece_none (C : List Cell) : pieceT none C = enc none C := by unfold pieceT; cases C <;> rfl
theorem toLine_rows (Ps : List (AV × List Cell)) : (Ps.map toLine).flatMap Line.rows = (Ps.map toLine).map Line.whole := by
  induction Ps with
  | nil => rfl
  | cons p Ps ih =>
    rw [List.map_cons, List.flatMap_cons, List.map_cons, ih]
    have : (toLine p).rows = [(toLine p).whole] := by
      show rows p.1 none p.2 [p.2.length] = _
      rw [rows_one, piece_none]; rfl
    rw [this]; rfl
theorem toLine_szs (Ps : List (AV × List Cell)) : (Ps.map toLine).flatMap Line.szs = Ps.map fun p => (p.1, p.2.length) := by
  induction Ps with
  | nil => rfl
  | cons p Ps ih => rw [List.map_cons, List.flatMap_cons, ih]; rfl
end Mine
end
section
set_option linter.unusedVariables false
set_option linter.unusedSimpArgs false
set_option maxHeartbeats 1000000
namespace Mine
section
variable {GR GJ GC : FG} {GS : LG}
theorem comp_abs {GT : FG} : ∀ (ns : List Int) (ρ : Slots), compA (fLaw_T1 GT GR GJ GC GS) (fun _ => some true) (fLaw_f2 GT GR GJ GC GS) (ns.map AV.int) ρ = some ((ns.map Int.natAbs).map fun (x : Nat) => AV.int x)
  | [], ρ => rfl
  | i :: ns, ρ => by
    have eT : fLaw_T1 GT GR GJ GC GS (.int i) ρ = some (ρ.set "x" (.val (.int i))) := Eq.trans rfl rfl
    have ea : absF [.int i] = some (.int (i.natAbs : Nat)) := by
      show some (AV.int (if i < 0 then -i else i)) = _
      congr 2; split <;> (first | lia | omega)
    have ef : fLaw_f2 GT GR GJ GC GS (ρ.set "x" (.val (.int i))) = some (.int (i.natAbs : Nat)) := by
      simp only [fLaw_f2, getV_set, reduceIte, bind_some', ea]
    simp only [List.map_cons, compA, eT, bind_some', ef, if_true]
    rw [comp_abs ns _]; rfl
theorem comp_doc : ∀ (Ps : List (AV × List Cell)) (ρ : Slots), (∀ p ∈ Ps, p.2.length ≤ 10000) → compA (fLaw_T10 GT GR GJ GC GS) (fun _ => some true) (fLaw_f11 GT GR GJ GC GS) (Ps.map lnA) ρ = some (((Ps.map toLine).map Line.whole).map rowA)
  | [], ρ, _ => rfl
  | p :: Ps, ρ, h => by
    obtain ⟨hd, C⟩ := p
    have eT : fLaw_T10 GT GR GJ GC GS (lnA (hd, C)) ρ = some ((ρ.set "head" (.val hd)).set "cells" (.val (.lst (C.map cellA)))) := Eq.trans rfl rfl
    have ef : fLaw_f11 GT GR GJ GC GS ((ρ.set "head" (.val hd)).set "cells" (.val (.lst (C.map cellA)))) = some (rowA (hd, enc none C)) := by
      have l2 : (0 + 1 + 1 ≤ 1000000) := by (first | lia | omega)
      simp only [fLaw_f11, getV_set, ofString_inj, String.reduceEq, reduceIte, bind_some', GT_eq C (h (hd, C) List.mem_cons_self), List.length_cons, List.length_nil, if_pos l2]
      rfl
    simp only [List.map_cons, compA, eT, bind_some', ef, if_true]
    rw [comp_doc Ps _ fun q hq => h q (List.mem_cons_of_mem _ hq)]; rfl
theorem comp_size {GT : FG} : ∀ (Ps : List (AV × List Cell)) (ρ : Slots), (∀ p ∈ Ps, p.2.length ≤ 10000) → compA (fLaw_T12 GT GR GJ GC GS) (fun _ => some true) (fLaw_f13 GT GR GJ GC GS) (Ps.map lnA) ρ = some (((Ps.map toLine).flatMap Line.szs).map szA)
  | [], ρ, _ => rfl
  | p :: Ps, ρ, h => by
    obtain ⟨hd, C⟩ := p
    have hC := h (hd, C) List.mem_cons_self
    simp only at hC
    have eT : fLaw_T12 GT GR GJ GC GS (lnA (hd, C)) ρ = some ((ρ.set "head" (.val hd)).set "cells" (.val (.lst (C.map cellA)))) := Eq.trans rfl rfl
    have gl : getL ((ρ.set "head" (.val hd)).set "cells" (.val (.lst (C.map cellA)))) "cells" = some (C.map cellA) := by
      unfold getL; simp [set_eq]
    have ef : fLaw_f13 GT GR GJ GC GS ((ρ.set "head" (.val hd)).set "cells" (.val (.lst (C.map cellA)))) = some (szA (hd, C.length)) := by
      have l2 : (0 + 1 + 1 ≤ 1000000) := by (first | lia | omega)
      have lc : C.length ≤ 16777216 := by (first | lia | omega)
      simp only [fLaw_f13, gl, getV_set, ofString_inj, String.reduceEq, reduceIte, bind_some', List.length_map, if_pos lc, List.length_cons, List.length_nil, if_pos l2]
      rfl
    simp only [List.map_cons, compA, eT, bind_some', ef, if_true]
    rw [comp_size Ps _ fun q hq => h q (List.mem_cons_of_mem _ hq), toLine_szs, List.flatMap_cons, toLine_szs]; rfl
end
end Mine
end
section
set_option linter.unusedVariables false
set_option linter.unusedSimpArgs false
set_option maxHeartbeats 1000000
namespace Mine
theorem recut_C (f col : Nat) (L : Line) : (L.recut f col).C = L.C ∧ (L.recut f col).h = L.h := by unfold Line.recut; split <;> exact ⟨rfl, rfl⟩
theorem rows_total : ∀ (Ls : List Line) (f : Nat), (∀ L ∈ Ls, L.Fine ∧ L.C.length ≤ f) → (Ls.flatMap Line.rows).length ≤ Ls.length * (f + 1) ∧ (Ls.flatMap Line.szs).length ≤ Ls.length * (f + 1)
  | [], _, _ => by simp
  | L :: Ls, f, h => by
    have ih := rows_total Ls f fun M hM => h M (List.mem_cons_of_mem _ hM)
    obtain ⟨g, hL⟩ := h L List.mem_cons_self
    have h1 := fine_len L g
    have h2 : L.rows.length = L.ls.length := rows_len ..
    have h3 : L.szs.length = L.ls.length := szs_len ..
    rw [List.flatMap_cons, List.flatMap_cons, List.length_append, List.length_append, List.length_cons, Nat.add_mul]
    (first | lia | omega)
section
variable {GT GC : FG} {f : Nat}
theorem col_loop (hGC : ∀ col : Nat, ∃ fs, GC [.int 8, .int col] = some (.inst 113 fs) ∧ inst col fs) (hf : f ≤ 1000) : ∀ (cs : List Nat) (Ls : List Line) (ρ : Slots), (∀ c ∈ cs, 1 ≤ c ∧ c ≤ 100000) → (∀ L ∈ Ls, L.Fine ∧ L.C.length ≤ f ∧ dat 6 L.h = true) → Ls.length * (f + 1) ≤ 90000 → getV ρ "held" = some (.lst ((Ls.flatMap Line.rows).map rowA)) → getV ρ "sizes" = some (.lst ((Ls.flatMap Line.szs).map szA)) → getV ρ "document" = some (.lst ((Ls.map Line.whole).map rowA)) →
    ∃ ρ', Runs (fLaw_T31 GT GR GJ GC (GS (f + 1))) (fLaw_B32 GT GR GJ GC (GS (f + 1))) (cs.map fun (c : Nat) => AV.int c) ρ ρ'
  | [], Ls, ρ, _, _, _, _, _, _ => ⟨ρ, .nil⟩
  | c :: cs, Ls, ρ, hcs, hL, hz, h1, h2, h3 => by
    obtain ⟨hc, hc'⟩ := hcs c List.mem_cons_self
    have hF : ∀ L ∈ Ls.map (Line.recut f c), L.Fine ∧ L.C.length ≤ f ∧ dat 6 L.h = true := fun M hM => by
      obtain ⟨L, h, rfl⟩ := List.mem_map.mp hM
      rw [(recut_C f c L).1, (recut_C f c L).2]
      exact ⟨(recut_fine f c hc L (hL L h).1).1, (hL L h).2⟩
    have ht := rows_total (Ls.map (Line.recut f c)) f fun M hM => ⟨(hF M hM).1, (hF M hM).2.1⟩
    rw [List.length_map] at ht
    have hn : Ls.length ≤ 100000 := by
      have : Ls.length * 1 ≤ Ls.length * (f + 1) := Nat.mul_le_mul_left _ (by (first | lia | omega))
      (first | lia | omega)
    obtain ⟨ρ₁, e₁, a1, a2, a3⟩ := col_turn (GT := GT) hGC hc hc' hf hL hn (by (first | lia | omega)) (by (first | lia | omega)) h1 h2 h3
    obtain ⟨ρ₂, e₂⟩ := col_loop hGC hf cs (Ls.map (Line.recut f c)) ρ₁ (fun d hd => hcs d (List.mem_cons_of_mem _ hd)) hF (by rw [List.length_map]; exact hz) a1 a2 a3
    exact ⟨ρ₂, .cons e₁ e₂⟩
end
end Mine
end
section
set_option linter.unusedVariables false
set_option linter.unusedSimpArgs false
set_option maxHeartbeats 1000000
namespace Mine
section
variable {GC : FG} {f : Nat}
theorem law_cols (hGC : ∀ col : Nat, ∃ fs, GC [.int 8, .int col] = some (.inst 113 fs) ∧ inst col fs) (hf : f ≤ 1000) {Ls : List Line} {ρ : Slots} {M : List Nat} (hM : 3 ≤ M.length) (hL : ∀ L ∈ Ls, L.Fine ∧ L.C.length ≤ f ∧ dat 6 L.h = true) (hz : Ls.length * (f + 1) ≤ 90000) (h0 : getV ρ "numbers" = some (.lst (M.map fun (x : Nat) => AV.int x)))
    (h1 : getV ρ "held" = some (.lst ((Ls.flatMap Line.rows).map rowA))) (h2 : getV ρ "sizes" = some (.lst ((Ls.flatMap Line.szs).map szA))) (h3 : getV ρ "document" = some (.lst ((Ls.map Line.whole).map rowA))) :
    ∃ ρ', fLaw_k34 GT GR GJ GC (GS (f + 1)) ρ = some (.ret (.bool true), ρ') := by
  have idx : ∀ i : Nat, (h : i < M.length) → i ≤ 5 → idxA (.lst (M.map fun (x : Nat) => AV.int x)) (.int i) = some (.int (M[i] : Nat)) := fun i h hi => idx_lst _ _ _ (by simp [h]) (by (first | lia | omega))
  have i0 : idxA (.lst (M.map fun (x : Nat) => AV.int x)) (.int 0) = some (.int (M[0] : Nat)) := idx 0 (by (first | lia | omega)) (by (first | lia | omega))
  have i1 : idxA (.lst (M.map fun (x : Nat) => AV.int x)) (.int 1) = some (.int (M[1] : Nat)) := idx 1 (by (first | lia | omega)) (by (first | lia | omega))
  have i2 : idxA (.lst (M.map fun (x : Nat) => AV.int x)) (.int 2) = some (.int (M[2] : Nat)) := idx 2 (by (first | lia | omega)) (by (first | lia | omega))
  have m7 : binA .Mod (.int (M[0] : Nat)) (.int 7) = some (.int (M[0] % 7 : Nat)) := md _ 7 (by (first | lia | omega))
  have m5 : binA .Mod (.int (M[1] : Nat)) (.int 5) = some (.int (M[1] % 5 : Nat)) := md _ 5 (by (first | lia | omega))
  have m4 : binA .Mod (.int (M[2] : Nat)) (.int 4) = some (.int (M[2] % 4 : Nat)) := md _ 4 (by (first | lia | omega))
  have a3 : binA .Add (.int 3) (.int (M[0] % 7 : Nat)) = some (.int (3 + M[0] % 7 : Nat)) := ad 3 _
  have a2 : binA .Add (.int 2) (.int (M[1] % 5 : Nat)) = some (.int (2 + M[1] % 5 : Nat)) := ad 2 _
  have a1 : binA .Add (.int 1) (.int (M[2] % 4 : Nat)) = some (.int (1 + M[2] % 4 : Nat)) := ad 1 _
  obtain ⟨ρ', e⟩ := col_loop (GT := GT) hGC hf [3 + M[0] % 7, 2 + M[1] % 5, 1 + M[2] % 4] Ls ρ (fun c hc => by simp at hc; (first | lia | omega)) hL hz h1 h2 h3
  have e' : forA (fLaw_T31 GT GR GJ GC (GS (f + 1))) (fLaw_B32 GT GR GJ GC (GS (f + 1))) [.int (3 + M[0] % 7 : Nat), .int (2 + M[1] % 5 : Nat), .int (1 + M[2] % 4 : Nat)] ρ = some (.next, ρ') := e.forA
  have l3 : (0 + 1 + 1 + 1 ≤ 1000000) := by (first | lia | omega)
  refine ⟨ρ', ?_⟩
  simp only [fLaw_k34, h0, bind_some', i0, i1, i2, m7, m5, m4, a3, a2, a1, List.length_cons, List.length_nil, if_pos l3, iter_lst, e', thenA_next, fLaw_k33, thenA_ret]
end
end Mine
end
section
set_option linter.unusedVariables false
set_option linter.unusedSimpArgs false
set_option maxHeartbeats 1000000
namespace Mine
def dfl04 : List Nat := [4, 3, 1, 38, 27, 45, 75, 5, 38, 11]
def numsOf (ns : List Int) : List Nat := ns.map Int.natAbs ++ dfl04.drop ns.length
theorem cutL_drop {β : Type} (l : List β) (k : Nat) : cutL l (some (k : Int)) none = l.drop k := by
  unfold cutL
  simp only [Option.elim]
  rcases Nat.le_total k l.length with h | h
  · rw [clip_nat _ _ h, List.take_of_length_le]; simp
  · rw [clip_over _ _ h, List.drop_of_length_le h]; simp
theorem nums_len (ns : List Int) (h : ns.length ≤ 63) : 10 ≤ (numsOf ns).length ∧ (numsOf ns).length ≤ 63 := by
  unfold numsOf dfl04; simp; (first | lia | omega)
section
variable {GC : FG} {GS' : LG}
theorem law_nums (ns : List Int) (h : ns.length ≤ 63) : ∃ ρ, fLaw GT GR GJ GC GS' (script0 ns) = fLaw_k45 GT GR GJ GC GS' ρ ∧ getO ρ "numbers" = some ⟨none, (numsOf ns).map fun (x : Nat) => AV.int x⟩ := by
  have g0 : getV (script0 ns) "script" = some (.lst (ns.map .int)) := by unfold getV script0; simp
  have hl : (ns.map AV.int).length ≤ 1000000 := by rw [List.length_map]; (first | lia | omega)
  generalize hρ : (script0 ns).set "numbers" (.own ⟨none, (ns.map Int.natAbs).map fun (x : Nat) => AV.int x⟩) = ρ₁
  have g1 : getO ρ₁ "numbers" = some ⟨none, (ns.map Int.natAbs).map fun (x : Nat) => AV.int x⟩ := by subst hρ; simp [getO_setO]
  have gl : getL ρ₁ "numbers" = some ((ns.map Int.natAbs).map fun (x : Nat) => AV.int x) := by unfold getL; rw [getO_eq g1]
  have e1 : fLaw GT GR GJ GC GS' (script0 ns) = fLaw_k46 GT GR GJ GC GS' ρ₁ := by
    subst hρ
    simp only [fLaw, g0, bind_some', iter_lst, if_pos hl, comp_abs, thenA_next]
  have l10 : (0 + 1 + 1 + 1 + 1 + 1 + 1 + 1 + 1 + 1 + 1 ≤ 1000000) := by (first | lia | omega)
  have ln : ns.length ≤ 16777216 := by (first | lia | omega)
  have ec : cutO (.lst [.int 4, .int 3, .int 1, .int 38, .int 27, .int 45, .int 75, .int 5, .int 38, .int 11]) (some (ns.length : Int)) none = some ((dfl04.drop ns.length).map fun (x : Nat) => AV.int x) := by
    show (if ([.int 4, .int 3, .int 1, .int 38, .int 27, .int 45, .int 75, .int 5, .int 38, .int 11] : List AV).length ≤ 1000000 then some (cutL ([.int 4, .int 3, .int 1, .int 38, .int 27, .int 45, .int 75, .int 5, .int 38, .int 11] : List AV) (some (ns.length : Int)) none) else none) = _
    rw [if_pos (by simp), cutL_drop, List.map_drop]; rfl
  refine ⟨ρ₁.set "numbers" (.own ⟨none, (numsOf ns).map fun (x : Nat) => AV.int x⟩), ?_, by simp [getO_setO]⟩
  rw [e1]
  have lz : ((ns.map Int.natAbs).map fun (x : Nat) => AV.int x).length + ((dfl04.drop ns.length).map fun (x : Nat) => AV.int x).length ≤ 1000000 := by simp [dfl04]; (first | lia | omega)
  simp only [fLaw_k46, g1, gl, bind_some', List.length_map, List.length_cons, List.length_nil, if_pos l10, if_pos ln, as_int, map_some', ec]
  simp only [List.length_map] at lz
  rw [if_pos (by simpa using lz)]
  simp only [bind_some', thenA_next, numsOf, List.map_append]
end
end Mine
end
section
set_option linter.unusedVariables false
set_option linter.unusedSimpArgs false
set_option maxHeartbeats 1000000
namespace Mine
section
variable {GC : FG} {GS' : LG}
theorem getL_own {ρ : Slots} {x : Str} {l : OL} (h : getO ρ x = some l) : getL ρ x = some l.items := by unfold getL; rw [getO_eq h]
theorem mid_a {ρ : Slots} {nums : AV} {l : List AV} (hn : nums = .lst l) (h : getO ρ "numbers" = some ⟨none, l⟩) : ∃ ρ₁, (∀ r, fLaw_z43 GT GR GJ GC GS' ρ₁ = r → fLaw_k45 GT GR GJ GC GS' ρ = r) ∧ CellSt ρ₁ ([] : List (AV × List Cell)) [] nums := by
  have fr := freeze_own (ρ := (ρ.set "cells" (.own ⟨none, []⟩)).set "lines" (.own ⟨none, []⟩)) (x := "numbers") (l := ⟨none, l⟩) (by (repeat' first | with_reducible exact Mine.getV_hit _ _ _ | with_reducible exact Mine.getO_hit _ _ _ | with_reducible assumption | with_reducible refine Mine.getV_skip ?_ ?_ | with_reducible refine Mine.getO_skip ?_ ?_ | with_reducible exact Mine.truthN_hitB _ _ _ | with_reducible refine Mine.truthN_skip ?_ ?_ | with_reducible exact Mine.aug_int _ _ | with_reducible exact Mine.truth_bool _ | with_reducible exact Mine.iter_lst _ | with_reducible refine Mine.iteT ?_ | with_reducible refine Mine.iteF ?_ | with_reducible apply Mine.bindS | with_reducible refine Mine.thenS ?_ | with_reducible exact Mine.thenA_ret _ _ _ | with_reducible refine Mine.noneS ?_ | with_reducible apply Mine.ifP | with_reducible rfl | exact Nat.le_of_ble_eq_true rfl | exact ⟨rfl, Nat.le_of_ble_eq_true rfl⟩ | decide))
  refine ⟨((ρ.set "cells" (.own ⟨none, []⟩)).set "lines" (.own ⟨none, []⟩)).set "numbers" (.val (.lst l)), fun r hr => ?_, by show _ = some (⟨none, []⟩ : OL); (repeat' first | with_reducible exact Mine.getV_hit _ _ _ | with_reducible exact Mine.getO_hit _ _ _ | with_reducible assumption | with_reducible refine Mine.getV_skip ?_ ?_ | with_reducible refine Mine.getO_skip ?_ ?_ | with_reducible exact Mine.truthN_hitB _ _ _ | with_reducible refine Mine.truthN_skip ?_ ?_ | with_reducible exact Mine.aug_int _ _ | with_reducible exact Mine.truth_bool _ | with_reducible exact Mine.iter_lst _ | with_reducible refine Mine.iteT ?_ | with_reducible refine Mine.iteF ?_ | with_reducible apply Mine.bindS | with_reducible refine Mine.thenS ?_ | with_reducible exact Mine.thenA_ret _ _ _ | with_reducible refine Mine.noneS ?_ | with_reducible apply Mine.ifP | with_reducible rfl | exact Nat.le_of_ble_eq_true rfl | exact ⟨rfl, Nat.le_of_ble_eq_true rfl⟩ | decide), by show _ = some (⟨none, []⟩ : OL); (repeat' first | with_reducible exact Mine.getV_hit _ _ _ | with_reducible exact Mine.getO_hit _ _ _ | with_reducible assumption | with_reducible refine Mine.getV_skip ?_ ?_ | with_reducible refine Mine.getO_skip ?_ ?_ | with_reducible exact Mine.truthN_hitB _ _ _ | with_reducible refine Mine.truthN_skip ?_ ?_ | with_reducible exact Mine.aug_int _ _ | with_reducible exact Mine.truth_bool _ | with_reducible exact Mine.iter_lst _ | with_reducible refine Mine.iteT ?_ | with_reducible refine Mine.iteF ?_ | with_reducible apply Mine.bindS | with_reducible refine Mine.thenS ?_ | with_reducible exact Mine.thenA_ret _ _ _ | with_reducible refine Mine.noneS ?_ | with_reducible apply Mine.ifP | with_reducible rfl | exact Nat.le_of_ble_eq_true rfl | exact ⟨rfl, Nat.le_of_ble_eq_true rfl⟩ | decide), by rw [hn]; (repeat' first | with_reducible exact Mine.getV_hit _ _ _ | with_reducible exact Mine.getO_hit _ _ _ | with_reducible assumption | with_reducible refine Mine.getV_skip ?_ ?_ | with_reducible refine Mine.getO_skip ?_ ?_ | with_reducible exact Mine.truthN_hitB _ _ _ | with_reducible refine Mine.truthN_skip ?_ ?_ | with_reducible exact Mine.aug_int _ _ | with_reducible exact Mine.truth_bool _ | with_reducible exact Mine.iter_lst _ | with_reducible refine Mine.iteT ?_ | with_reducible refine Mine.iteF ?_ | with_reducible apply Mine.bindS | with_reducible refine Mine.thenS ?_ | with_reducible exact Mine.thenA_ret _ _ _ | with_reducible refine Mine.noneS ?_ | with_reducible apply Mine.ifP | with_reducible rfl | exact Nat.le_of_ble_eq_true rfl | exact ⟨rfl, Nat.le_of_ble_eq_true rfl⟩ | decide)⟩
  rw [← fr] at hr
  have hr' : fLaw_k44 GT GR GJ GC GS' (setMany ρ ["cells", "lines"] [SV.own ⟨none, []⟩, SV.own ⟨none, []⟩].reverse) = r := hr
  unfold fLaw_k45
  (repeat' first | with_reducible exact Mine.getV_hit _ _ _ | with_reducible exact Mine.getO_hit _ _ _ | with_reducible assumption | with_reducible refine Mine.getV_skip ?_ ?_ | with_reducible refine Mine.getO_skip ?_ ?_ | with_reducible exact Mine.truthN_hitB _ _ _ | with_reducible refine Mine.truthN_skip ?_ ?_ | with_reducible exact Mine.aug_int _ _ | with_reducible exact Mine.truth_bool _ | with_reducible exact Mine.iter_lst _ | with_reducible refine Mine.iteT ?_ | with_reducible refine Mine.iteF ?_ | with_reducible apply Mine.bindS | with_reducible refine Mine.thenS ?_ | with_reducible exact Mine.thenA_ret _ _ _ | with_reducible refine Mine.noneS ?_ | with_reducible apply Mine.ifP | with_reducible rfl | exact Nat.le_of_ble_eq_true rfl | exact ⟨rfl, Nat.le_of_ble_eq_true rfl⟩ | decide)
theorem mid_b {ρ : Slots} {nums : AV} {Ls : List (AV × List Cell)} {C : List Cell} (st : CellSt ρ Ls C nums) (hl : Ls.length ≤ 60) : ∃ ρ₃, (∀ r, fLaw_k40 GT GR GJ GC GS' ρ₃ = r → fLaw_k42 GT GR GJ GC GS' ρ = r) ∧ getO ρ₃ "lines" = some ⟨none, (Ls ++ [((.int (Ls.length + 1 : Nat) : AV), C)]).map lnA⟩ ∧ getV ρ₃ "numbers" = some nums := by
  obtain ⟨b1, b2, b3⟩ := st
  have fc : freeze "cells" ρ = ρ.set "cells" (.val (.lst (C.map cellA))) := freeze_own b2
  have b1' : getO (ρ.set "cells" (.val (.lst (C.map cellA)))) "lines" = some ⟨none, Ls.map lnA⟩ := by (repeat' first | with_reducible exact Mine.getV_hit _ _ _ | with_reducible exact Mine.getO_hit _ _ _ | with_reducible assumption | with_reducible refine Mine.getV_skip ?_ ?_ | with_reducible refine Mine.getO_skip ?_ ?_ | with_reducible exact Mine.truthN_hitB _ _ _ | with_reducible refine Mine.truthN_skip ?_ ?_ | with_reducible exact Mine.aug_int _ _ | with_reducible exact Mine.truth_bool _ | with_reducible exact Mine.iter_lst _ | with_reducible refine Mine.iteT ?_ | with_reducible refine Mine.iteF ?_ | with_reducible apply Mine.bindS | with_reducible refine Mine.thenS ?_ | with_reducible exact Mine.thenA_ret _ _ _ | with_reducible refine Mine.noneS ?_ | with_reducible apply Mine.ifP | with_reducible rfl | exact Nat.le_of_ble_eq_true rfl | exact ⟨rfl, Nat.le_of_ble_eq_true rfl⟩ | decide)
  have gl := getL_own b1'
  have a1 : binA .Add (.int ((Ls.map lnA).length : Nat)) (.int 1) = some (.int (Ls.length + 1 : Nat)) := by rw [List.length_map]; exact ad Ls.length 1
  have q1 : (Ls.map lnA).length ≤ 16777216 := by rw [List.length_map]; (first | lia | omega)
  have q2 : (Ls.map lnA).length ≤ 1000000 := by rw [List.length_map]; (first | lia | omega)
  refine ⟨(ρ.set "cells" (.val (.lst (C.map cellA)))).set "lines" (.own ⟨none, Ls.map lnA ++ [AV.tup [.int (Ls.length + 1 : Nat), .lst (C.map cellA)]]⟩), fun r hr => ?_, by rw [List.map_append]; exact getO_hit _ _ _, by (repeat' first | with_reducible exact Mine.getV_hit _ _ _ | with_reducible exact Mine.getO_hit _ _ _ | with_reducible assumption | with_reducible refine Mine.getV_skip ?_ ?_ | with_reducible refine Mine.getO_skip ?_ ?_ | with_reducible exact Mine.truthN_hitB _ _ _ | with_reducible refine Mine.truthN_skip ?_ ?_ | with_reducible exact Mine.aug_int _ _ | with_reducible exact Mine.truth_bool _ | with_reducible exact Mine.iter_lst _ | with_reducible refine Mine.iteT ?_ | with_reducible refine Mine.iteF ?_ | with_reducible apply Mine.bindS | with_reducible refine Mine.thenS ?_ | with_reducible exact Mine.thenA_ret _ _ _ | with_reducible refine Mine.noneS ?_ | with_reducible apply Mine.ifP | with_reducible rfl | exact Nat.le_of_ble_eq_true rfl | exact ⟨rfl, Nat.le_of_ble_eq_true rfl⟩ | decide)⟩
  show fLaw_z41 GT GR GJ GC GS' (freeze "cells" ρ) = r
  rw [fc]
  unfold fLaw_z41
  (repeat' first | with_reducible exact Mine.getV_hit _ _ _ | with_reducible exact Mine.getO_hit _ _ _ | with_reducible assumption | with_reducible refine Mine.getV_skip ?_ ?_ | with_reducible refine Mine.getO_skip ?_ ?_ | with_reducible exact Mine.truthN_hitB _ _ _ | with_reducible refine Mine.truthN_skip ?_ ?_ | with_reducible exact Mine.aug_int _ _ | with_reducible exact Mine.truth_bool _ | with_reducible exact Mine.iter_lst _ | with_reducible refine Mine.iteT ?_ | with_reducible refine Mine.iteF ?_ | with_reducible apply Mine.bindS | with_reducible refine Mine.thenS ?_ | with_reducible exact Mine.thenA_ret _ _ _ | with_reducible refine Mine.noneS ?_ | with_reducible apply Mine.ifP | with_reducible rfl | exact Nat.le_of_ble_eq_true rfl | exact ⟨rfl, Nat.le_of_ble_eq_true rfl⟩ | decide)
theorem mid_c {ρ : Slots} {nums : AV} {Ps : List (AV × List Cell)} (c1 : getO ρ "lines" = some ⟨none, Ps.map lnA⟩) (c2 : getV ρ "numbers" = some nums) (hl : Ps.length ≤ 61) (hs : ∀ p ∈ Ps, p.2.length ≤ 10000) :
    ∃ ρ', (∀ r, fLaw_k34 GT GR GJ GC GS' ρ' = r → fLaw_k40 GT GR GJ GC GS' ρ = r) ∧ getV ρ' "numbers" = some nums ∧ getV ρ' "held" = some (.lst (((Ps.map toLine).map Line.whole).map rowA)) ∧ getV ρ' "sizes" = some (.lst (((Ps.map toLine).flatMap Line.szs).map szA)) ∧ getV ρ' "document" = some (.lst (((Ps.map toLine).map Line.whole).map rowA)) := by
  have hPl : (Ps.map lnA).length ≤ 1000000 := by rw [List.length_map]; (first | lia | omega)
  have cd := comp_doc (GR := GR) (GJ := GJ) (GC := GC) (GS := GS') Ps
  have cs := comp_size (GT := GT) (GR := GR) (GJ := GJ) (GC := GC) (GS := GS') Ps
  generalize ((Ps.map toLine).map Line.whole).map rowA = D at cd ⊢
  generalize ((Ps.map toLine).flatMap Line.szs).map szA = S at cs ⊢
  obtain ⟨ρ₁, h₁, a1, a2⟩ : ∃ ρ₁, freeze "lines" ρ = ρ₁ ∧ getV ρ₁ "lines" = some (.lst (Ps.map lnA)) ∧ getV ρ₁ "numbers" = some nums := ⟨_, freeze_own c1, by (repeat' first | with_reducible exact Mine.getV_hit _ _ _ | with_reducible exact Mine.getO_hit _ _ _ | with_reducible assumption | with_reducible refine Mine.getV_skip ?_ ?_ | with_reducible refine Mine.getO_skip ?_ ?_ | with_reducible exact Mine.truthN_hitB _ _ _ | with_reducible refine Mine.truthN_skip ?_ ?_ | with_reducible exact Mine.aug_int _ _ | with_reducible exact Mine.truth_bool _ | with_reducible exact Mine.iter_lst _ | with_reducible refine Mine.iteT ?_ | with_reducible refine Mine.iteF ?_ | with_reducible apply Mine.bindS | with_reducible refine Mine.thenS ?_ | with_reducible exact Mine.thenA_ret _ _ _ | with_reducible refine Mine.noneS ?_ | with_reducible apply Mine.ifP | with_reducible rfl | exact Nat.le_of_ble_eq_true rfl | exact ⟨rfl, Nat.le_of_ble_eq_true rfl⟩ | decide), by (repeat' first | with_reducible exact Mine.getV_hit _ _ _ | with_reducible exact Mine.getO_hit _ _ _ | with_reducible assumption | with_reducible refine Mine.getV_skip ?_ ?_ | with_reducible refine Mine.getO_skip ?_ ?_ | with_reducible exact Mine.truthN_hitB _ _ _ | with_reducible refine Mine.truthN_skip ?_ ?_ | with_reducible exact Mine.aug_int _ _ | with_reducible exact Mine.truth_bool _ | with_reducible exact Mine.iter_lst _ | with_reducible refine Mine.iteT ?_ | with_reducible refine Mine.iteF ?_ | with_reducible apply Mine.bindS | with_reducible refine Mine.thenS ?_ | with_reducible exact Mine.thenA_ret _ _ _ | with_reducible refine Mine.noneS ?_ | with_reducible apply Mine.ifP | with_reducible rfl | exact Nat.le_of_ble_eq_true rfl | exact ⟨rfl, Nat.le_of_ble_eq_true rfl⟩ | decide)⟩
  have f1 : freeze "document" ((ρ₁.set "document" (.own ⟨none, D⟩)).set "sizes" (.own ⟨none, S⟩)) = ((ρ₁.set "document" (.own ⟨none, D⟩)).set "sizes" (.own ⟨none, S⟩)).set "document" (.val (.lst D)) := freeze_own (l := ⟨none, D⟩) (by (repeat' first | with_reducible exact Mine.getV_hit _ _ _ | with_reducible exact Mine.getO_hit _ _ _ | with_reducible assumption | with_reducible refine Mine.getV_skip ?_ ?_ | with_reducible refine Mine.getO_skip ?_ ?_ | with_reducible exact Mine.truthN_hitB _ _ _ | with_reducible refine Mine.truthN_skip ?_ ?_ | with_reducible exact Mine.aug_int _ _ | with_reducible exact Mine.truth_bool _ | with_reducible exact Mine.iter_lst _ | with_reducible refine Mine.iteT ?_ | with_reducible refine Mine.iteF ?_ | with_reducible apply Mine.bindS | with_reducible refine Mine.thenS ?_ | with_reducible exact Mine.thenA_ret _ _ _ | with_reducible refine Mine.noneS ?_ | with_reducible apply Mine.ifP | with_reducible rfl | exact Nat.le_of_ble_eq_true rfl | exact ⟨rfl, Nat.le_of_ble_eq_true rfl⟩ | decide))
  have f2 : freeze "sizes" (((ρ₁.set "document" (.own ⟨none, D⟩)).set "sizes" (.own ⟨none, S⟩)).set "document" (.val (.lst D))) = (((ρ₁.set "document" (.own ⟨none, D⟩)).set "sizes" (.own ⟨none, S⟩)).set "document" (.val (.lst D))).set "sizes" (.val (.lst S)) := freeze_own (l := ⟨none, S⟩) (by (repeat' first | with_reducible exact Mine.getV_hit _ _ _ | with_reducible exact Mine.getO_hit _ _ _ | with_reducible assumption | with_reducible refine Mine.getV_skip ?_ ?_ | with_reducible refine Mine.getO_skip ?_ ?_ | with_reducible exact Mine.truthN_hitB _ _ _ | with_reducible refine Mine.truthN_skip ?_ ?_ | with_reducible exact Mine.aug_int _ _ | with_reducible exact Mine.truth_bool _ | with_reducible exact Mine.iter_lst _ | with_reducible refine Mine.iteT ?_ | with_reducible refine Mine.iteF ?_ | with_reducible apply Mine.bindS | with_reducible refine Mine.thenS ?_ | with_reducible exact Mine.thenA_ret _ _ _ | with_reducible refine Mine.noneS ?_ | with_reducible apply Mine.ifP | with_reducible rfl | exact Nat.le_of_ble_eq_true rfl | exact ⟨rfl, Nat.le_of_ble_eq_true rfl⟩ | decide))
  obtain ⟨ρ₂, h₂, g1, g2, g3⟩ : ∃ ρ₂, freeze "sizes" (freeze "document" ((ρ₁.set "document" (.own ⟨none, D⟩)).set "sizes" (.own ⟨none, S⟩))) = ρ₂ ∧ getV ρ₂ "document" = some (.lst D) ∧ getV ρ₂ "sizes" = some (.lst S) ∧ getV ρ₂ "numbers" = some nums :=
    ⟨_, by rw [f1, f2], by (repeat' first | with_reducible exact Mine.getV_hit _ _ _ | with_reducible exact Mine.getO_hit _ _ _ | with_reducible assumption | with_reducible refine Mine.getV_skip ?_ ?_ | with_reducible refine Mine.getO_skip ?_ ?_ | with_reducible exact Mine.truthN_hitB _ _ _ | with_reducible refine Mine.truthN_skip ?_ ?_ | with_reducible exact Mine.aug_int _ _ | with_reducible exact Mine.truth_bool _ | with_reducible exact Mine.iter_lst _ | with_reducible refine Mine.iteT ?_ | with_reducible refine Mine.iteF ?_ | with_reducible apply Mine.bindS | with_reducible refine Mine.thenS ?_ | with_reducible exact Mine.thenA_ret _ _ _ | with_reducible refine Mine.noneS ?_ | with_reducible apply Mine.ifP | with_reducible rfl | exact Nat.le_of_ble_eq_true rfl | exact ⟨rfl, Nat.le_of_ble_eq_true rfl⟩ | decide), by (repeat' first | with_reducible exact Mine.getV_hit _ _ _ | with_reducible exact Mine.getO_hit _ _ _ | with_reducible assumption | with_reducible refine Mine.getV_skip ?_ ?_ | with_reducible refine Mine.getO_skip ?_ ?_ | with_reducible exact Mine.truthN_hitB _ _ _ | with_reducible refine Mine.truthN_skip ?_ ?_ | with_reducible exact Mine.aug_int _ _ | with_reducible exact Mine.truth_bool _ | with_reducible exact Mine.iter_lst _ | with_reducible refine Mine.iteT ?_ | with_reducible refine Mine.iteF ?_ | with_reducible apply Mine.bindS | with_reducible refine Mine.thenS ?_ | with_reducible exact Mine.thenA_ret _ _ _ | with_reducible refine Mine.noneS ?_ | with_reducible apply Mine.ifP | with_reducible rfl | exact Nat.le_of_ble_eq_true rfl | exact ⟨rfl, Nat.le_of_ble_eq_true rfl⟩ | decide), by (repeat' first | with_reducible exact Mine.getV_hit _ _ _ | with_reducible exact Mine.getO_hit _ _ _ | with_reducible assumption | with_reducible refine Mine.getV_skip ?_ ?_ | with_reducible refine Mine.getO_skip ?_ ?_ | with_reducible exact Mine.truthN_hitB _ _ _ | with_reducible refine Mine.truthN_skip ?_ ?_ | with_reducible exact Mine.aug_int _ _ | with_reducible exact Mine.truth_bool _ | with_reducible exact Mine.iter_lst _ | with_reducible refine Mine.iteT ?_ | with_reducible refine Mine.iteF ?_ | with_reducible apply Mine.bindS | with_reducible refine Mine.thenS ?_ | with_reducible exact Mine.thenA_ret _ _ _ | with_reducible refine Mine.noneS ?_ | with_reducible apply Mine.ifP | with_reducible rfl | exact Nat.le_of_ble_eq_true rfl | exact ⟨rfl, Nat.le_of_ble_eq_true rfl⟩ | decide)⟩
  refine ⟨ρ₂.set "held" (.val (.lst D)), fun r hr => ?_, by (repeat' first | with_reducible exact Mine.getV_hit _ _ _ | with_reducible exact Mine.getO_hit _ _ _ | with_reducible assumption | with_reducible refine Mine.getV_skip ?_ ?_ | with_reducible refine Mine.getO_skip ?_ ?_ | with_reducible exact Mine.truthN_hitB _ _ _ | with_reducible refine Mine.truthN_skip ?_ ?_ | with_reducible exact Mine.aug_int _ _ | with_reducible exact Mine.truth_bool _ | with_reducible exact Mine.iter_lst _ | with_reducible refine Mine.iteT ?_ | with_reducible refine Mine.iteF ?_ | with_reducible apply Mine.bindS | with_reducible refine Mine.thenS ?_ | with_reducible exact Mine.thenA_ret _ _ _ | with_reducible refine Mine.noneS ?_ | with_reducible apply Mine.ifP | with_reducible rfl | exact Nat.le_of_ble_eq_true rfl | exact ⟨rfl, Nat.le_of_ble_eq_true rfl⟩ | decide), by (repeat' first | with_reducible exact Mine.getV_hit _ _ _ | with_reducible exact Mine.getO_hit _ _ _ | with_reducible assumption | with_reducible refine Mine.getV_skip ?_ ?_ | with_reducible refine Mine.getO_skip ?_ ?_ | with_reducible exact Mine.truthN_hitB _ _ _ | with_reducible refine Mine.truthN_skip ?_ ?_ | with_reducible exact Mine.aug_int _ _ | with_reducible exact Mine.truth_bool _ | with_reducible exact Mine.iter_lst _ | with_reducible refine Mine.iteT ?_ | with_reducible refine Mine.iteF ?_ | with_reducible apply Mine.bindS | with_reducible refine Mine.thenS ?_ | with_reducible exact Mine.thenA_ret _ _ _ | with_reducible refine Mine.noneS ?_ | with_reducible apply Mine.ifP | with_reducible rfl | exact Nat.le_of_ble_eq_true rfl | exact ⟨rfl, Nat.le_of_ble_eq_true rfl⟩ | decide), by (repeat' first | with_reducible exact Mine.getV_hit _ _ _ | with_reducible exact Mine.getO_hit _ _ _ | with_reducible assumption | with_reducible refine Mine.getV_skip ?_ ?_ | with_reducible refine Mine.getO_skip ?_ ?_ | with_reducible exact Mine.truthN_hitB _ _ _ | with_reducible refine Mine.truthN_skip ?_ ?_ | with_reducible exact Mine.aug_int _ _ | with_reducible exact Mine.truth_bool _ | with_reducible exact Mine.iter_lst _ | with_reducible refine Mine.iteT ?_ | with_reducible refine Mine.iteF ?_ | with_reducible apply Mine.bindS | with_reducible refine Mine.thenS ?_ | with_reducible exact Mine.thenA_ret _ _ _ | with_reducible refine Mine.noneS ?_ | with_reducible apply Mine.ifP | with_reducible rfl | exact Nat.le_of_ble_eq_true rfl | exact ⟨rfl, Nat.le_of_ble_eq_true rfl⟩ | decide), by (repeat' first | with_reducible exact Mine.getV_hit _ _ _ | with_reducible exact Mine.getO_hit _ _ _ | with_reducible assumption | with_reducible refine Mine.getV_skip ?_ ?_ | with_reducible refine Mine.getO_skip ?_ ?_ | with_reducible exact Mine.truthN_hitB _ _ _ | with_reducible refine Mine.truthN_skip ?_ ?_ | with_reducible exact Mine.aug_int _ _ | with_reducible exact Mine.truth_bool _ | with_reducible exact Mine.iter_lst _ | with_reducible refine Mine.iteT ?_ | with_reducible refine Mine.iteF ?_ | with_reducible apply Mine.bindS | with_reducible refine Mine.thenS ?_ | with_reducible exact Mine.thenA_ret _ _ _ | with_reducible refine Mine.noneS ?_ | with_reducible apply Mine.ifP | with_reducible rfl | exact Nat.le_of_ble_eq_true rfl | exact ⟨rfl, Nat.le_of_ble_eq_true rfl⟩ | decide)⟩
  have cd1 := cd (only [] ρ₁) hs
  have cs1 := cs (only [] (ρ₁.set "document" (.own ⟨none, D⟩))) hs
  have e37 : fLaw_k37 GT GR GJ GC GS' ((ρ₁.set "document" (.own ⟨none, D⟩)).set "sizes" (.own ⟨none, S⟩)) = r := by
    show fLaw_z35 GT GR GJ GC GS' (freeze "sizes" (freeze "document" _)) = r
    rw [h₂]
    unfold fLaw_z35
    (repeat' first | with_reducible exact Mine.getV_hit _ _ _ | with_reducible exact Mine.getO_hit _ _ _ | with_reducible assumption | with_reducible refine Mine.getV_skip ?_ ?_ | with_reducible refine Mine.getO_skip ?_ ?_ | with_reducible exact Mine.truthN_hitB _ _ _ | with_reducible refine Mine.truthN_skip ?_ ?_ | with_reducible exact Mine.aug_int _ _ | with_reducible exact Mine.truth_bool _ | with_reducible exact Mine.iter_lst _ | with_reducible refine Mine.iteT ?_ | with_reducible refine Mine.iteF ?_ | with_reducible apply Mine.bindS | with_reducible refine Mine.thenS ?_ | with_reducible exact Mine.thenA_ret _ _ _ | with_reducible refine Mine.noneS ?_ | with_reducible apply Mine.ifP | with_reducible rfl | exact Nat.le_of_ble_eq_true rfl | exact ⟨rfl, Nat.le_of_ble_eq_true rfl⟩ | decide)
  have e38 : fLaw_k38 GT GR GJ GC GS' (ρ₁.set "document" (.own ⟨none, D⟩)) = r := by
    unfold fLaw_k38
    (repeat' first | with_reducible exact Mine.getV_hit _ _ _ | with_reducible exact Mine.getO_hit _ _ _ | with_reducible assumption | with_reducible refine Mine.getV_skip ?_ ?_ | with_reducible refine Mine.getO_skip ?_ ?_ | with_reducible exact Mine.truthN_hitB _ _ _ | with_reducible refine Mine.truthN_skip ?_ ?_ | with_reducible exact Mine.aug_int _ _ | with_reducible exact Mine.truth_bool _ | with_reducible exact Mine.iter_lst _ | with_reducible refine Mine.iteT ?_ | with_reducible refine Mine.iteF ?_ | with_reducible apply Mine.bindS | with_reducible refine Mine.thenS ?_ | with_reducible exact Mine.thenA_ret _ _ _ | with_reducible refine Mine.noneS ?_ | with_reducible apply Mine.ifP | with_reducible rfl | exact Nat.le_of_ble_eq_true rfl | exact ⟨rfl, Nat.le_of_ble_eq_true rfl⟩ | decide)
  show fLaw_z39 GT GR GJ GC GS' (freeze "lines" ρ) = r
  rw [h₁]
  unfold fLaw_z39
  (repeat' first | with_reducible exact Mine.getV_hit _ _ _ | with_reducible exact Mine.getO_hit _ _ _ | with_reducible assumption | with_reducible refine Mine.getV_skip ?_ ?_ | with_reducible refine Mine.getO_skip ?_ ?_ | with_reducible exact Mine.truthN_hitB _ _ _ | with_reducible refine Mine.truthN_skip ?_ ?_ | with_reducible exact Mine.aug_int _ _ | with_reducible exact Mine.truth_bool _ | with_reducible exact Mine.iter_lst _ | with_reducible refine Mine.iteT ?_ | with_reducible refine Mine.iteF ?_ | with_reducible apply Mine.bindS | with_reducible refine Mine.thenS ?_ | with_reducible exact Mine.thenA_ret _ _ _ | with_reducible refine Mine.noneS ?_ | with_reducible apply Mine.ifP | with_reducible rfl | exact Nat.le_of_ble_eq_true rfl | exact ⟨rfl, Nat.le_of_ble_eq_true rfl⟩ | decide)
theorem law_mid (M : List Nat) (hM : M.length ≤ 63) {ρ : Slots} (h : getO ρ "numbers" = some ⟨none, M.map fun (x : Nat) => AV.int x⟩) :
    ∃ (ρ' : Slots) (Ps : List (AV × List Cell)), fLaw_k45 GT GR GJ GC GS' ρ = fLaw_k34 GT GR GJ GC GS' ρ' ∧ getV ρ' "numbers" = some (.lst (M.map fun (x : Nat) => AV.int x)) ∧ (∀ p ∈ Ps, HeadOk p.1 ∧ (∀ c ∈ p.2, Ok c) ∧ p.2.length ≤ 240) ∧ Ps.length ≤ 61 ∧
      getV ρ' "held" = some (.lst (((Ps.map toLine).map Line.whole).map rowA)) ∧ getV ρ' "sizes" = some (.lst (((Ps.map toLine).flatMap Line.szs).map szA)) ∧ getV ρ' "document" = some (.lst (((Ps.map toLine).map Line.whole).map rowA)) := by
  obtain ⟨ρ₁, e1, st⟩ := mid_a (GC := GC) (GS' := GS') rfl h
  obtain ⟨ρ₂, e₂, s₂⟩ := num_loop (GT := GT) (GR := GR) (GJ := GJ) (GC := GC) (GS := GS') (M.drop 3) ρ₁ ([], []) st (by simp; (first | lia | omega)) (by simp; (first | lia | omega))
  obtain ⟨pv, pl⟩ := pinv_fold (M.drop 3) 0 ([], []) ⟨(fun p hp => by cases hp), (fun c hc => by cases hc), by simp⟩
  have hd : (M.drop 3).length ≤ 60 := by rw [List.length_drop]; (first | lia | omega)
  have hnum := st.nums
  have hcut : cutA (.lst (M.map fun (x : Nat) => AV.int x)) (some 3) none = some (.lst ((M.drop 3).map fun (x : Nat) => AV.int x)) := by
    show (if (M.map fun (x : Nat) => AV.int x).length ≤ 16777216 then some (AV.lst (cutL (M.map fun (x : Nat) => AV.int x) (some ((3 : Nat) : Int)) none)) else none) = _
    rw [if_pos (by rw [List.length_map]; (first | lia | omega)), cutL_drop, List.map_drop]
  have e₂' := e₂.forA
  have as3 : (asInt (.int 3)).map some = some (some (3 : Int)) := rfl
  have e3 : ∀ r, fLaw_k42 GT GR GJ GC GS' ρ₂ = r → fLaw_z43 GT GR GJ GC GS' ρ₁ = r := fun r hr => by
    unfold fLaw_z43
    (repeat' first | with_reducible exact Mine.getV_hit _ _ _ | with_reducible exact Mine.getO_hit _ _ _ | with_reducible assumption | with_reducible refine Mine.getV_skip ?_ ?_ | with_reducible refine Mine.getO_skip ?_ ?_ | with_reducible exact Mine.truthN_hitB _ _ _ | with_reducible refine Mine.truthN_skip ?_ ?_ | with_reducible exact Mine.aug_int _ _ | with_reducible exact Mine.truth_bool _ | with_reducible exact Mine.iter_lst _ | with_reducible refine Mine.iteT ?_ | with_reducible refine Mine.iteF ?_ | with_reducible apply Mine.bindS | with_reducible refine Mine.thenS ?_ | with_reducible exact Mine.thenA_ret _ _ _ | with_reducible refine Mine.noneS ?_ | with_reducible apply Mine.ifP | with_reducible rfl | exact Nat.le_of_ble_eq_true rfl | exact ⟨rfl, Nat.le_of_ble_eq_true rfl⟩ | decide)
  clear e₂' e₂ hcut hnum st as3
  generalize (M.drop 3).foldl stepN ([], []) = s at s₂ pv pl
  obtain ⟨Ls, C⟩ := s
  obtain ⟨p1, p2, p3⟩ := pv
  have hLs : Ls.length ≤ 60 := Nat.le_trans pl (by rw [List.length_nil, Nat.zero_add]; exact hd)
  have hC : C.length ≤ 240 := by
    have : C.length ≤ 0 + 4 * (M.drop 3).length := p3
    (first | lia | omega)
  have hPs : ∀ p ∈ Ls ++ [((.int (Ls.length + 1 : Nat) : AV), C)], HeadOk p.1 ∧ (∀ c ∈ p.2, Ok c) ∧ p.2.length ≤ 240 := fun p hp => by
    rcases List.mem_append.mp hp with hp | hp
    · have := p1 p hp; exact ⟨this.1, this.2.1, by (first | lia | omega)⟩
    · cases List.mem_singleton.mp hp; exact ⟨head_int _, p2, hC⟩
  have hlen : (Ls ++ [((.int (Ls.length + 1 : Nat) : AV), C)]).length ≤ 61 := by rw [List.length_append, List.length_singleton]; (first | lia | omega)
  obtain ⟨ρ₃, e4, c1, c2⟩ := mid_b (GC := GC) (GS' := GS') s₂ hLs
  obtain ⟨ρ', e5, k1, k2, k3, k4⟩ := mid_c (GC := GC) (GS' := GS') c1 c2 hlen fun p hp => Nat.le_trans (hPs p hp).2.2 (Nat.le_of_ble_eq_true rfl)
  exact ⟨ρ', _, e1 _ (e3 _ (e4 _ (e5 _ rfl))), k1, hPs, hlen, k2, k3, k4⟩
end
end Mine
end
section
set_option linter.unusedVariables false
set_option linter.unusedSimpArgs false
set_option maxHeartbeats 1000000
namespace Mine
def initL : List InitSt := [⟨"_tabsize", "tabsize", ⟨19, 8, 19, 12⟩, ⟨19, 8, 19, 21⟩, ⟨19, 24, 19, 31⟩, ⟨19, 8, 19, 31⟩⟩, ⟨"_wrapcolumn", "wrapcolumn", ⟨20, 8, 20, 12⟩, ⟨20, 8, 20, 24⟩, ⟨20, 27, 20, 37⟩, ⟨20, 8, 20, 37⟩⟩, ⟨"_linejunk", "linejunk", ⟨21, 8, 21, 12⟩, ⟨21, 8, 21, 22⟩, ⟨21, 25, 21, 33⟩, ⟨21, 8, 21, 33⟩⟩, ⟨"_charjunk", "charjunk", ⟨22, 8, 22, 12⟩, ⟨22, 8, 22, 22⟩, ⟨22, 25, 22, 33⟩, ⟨22, 8, 22, 33⟩⟩]
def ctorB : List AV → Option (List AV)
  | [a, b] => some [a, b, .none, .raw (.ref 29)]
  | _ => none
def argsOf : Stmt → Arguments
  | .FunctionDef _ a _ _ _ _ _ _ _ _ => a
  | _ => { posonlyargs := [], args := [], vararg := none, kwonlyargs := [], kw_defaults := [], kwarg := none, defaults := [] }
def pInit : Arguments := argsOf (inBody (stAt P04 7) 5)
def ctorN : List Str := ["tabsize", "wrapcolumn", "linejunk", "charjunk"]
def GC : List AV → Option AV := fun args => ctorB args >>= fun full => (initA (fun p => (ctorN.zip full).reverse.lookup p) initL []).map (.inst 113)
section
variable {w : World} {h₀ : Heap} {mg mb : Str → Option Value} {os : OsState} {d : Nat}
theorem init_eq : initL.map InitSt.stmt = bdInit := by kernel_rfl
theorem binds_two (fd : FuncData) (hp : fd.params = pInit) (hd : fd.defaults = .ref 37) (x v1 v2 : Value) (s : Shared) {K : Frag} (X : K.In s.heap) {o : Obj} (ho : K.lookup 37 = some o) (hs : o.data = .seq #[.int 8 231, .none, .none, .ref 29] 0) : BindsTo s fd ⟨[x, v1, v2], []⟩ (("self", x) :: ctorN.zip [v1, v2, .none, .ref 29]) := by
  obtain ⟨⟩ := fd
  simp only at hp hd
  subst hp
  subst hd
  exact binds_K X rfl ho hs rfl rfl
theorem binds_ctor (x v1 v2 : Value) (s : Shared) (X : (W04 w h₀ mg mb os).K.In s.heap) : BindsTo s (fdK (W04 w h₀ mg mb os).K 44 has_init) ⟨[x, v1, v2], []⟩ (("self", x) :: ctorN.zip [v1, v2, .none, .ref 29]) := by
  have ho : ((W04 w h₀ mg mb os).K.lookup 37).isSome = true := by kernel_rfl
  obtain ⟨o, ho⟩ := Option.isSome_iff_exists.mp ho
  have hs : ((W04 w h₀ mg mb os).K.lookup 37).map (·.data) = some (.seq #[.int 8 231, .none, .none, .ref 29] 0) := by kernel_rfl
  rw [ho] at hs
  exact binds_two _ (by kernel_rfl) (by kernel_rfl) x v1 v2 s X ho (Option.some.inj hs)
theorem spec_ctor : FSpec (W04 w h₀ mg mb os) (d + 1) (.ref 113) GC := by
  have kf := fn_init (w := w) (h₀ := h₀) (mg := mg) (mb := mb) (os := os)
  rw [← init_eq] at kf
  refine ctor_spec (names := ctorN) (l := initL) (bd := ctorB) cls_diff kf (fun Z h x vals args full r hb => ?_) (fun x hx => ?_) (by decide) (fun st hst => ?_) (by decide)
  · unfold ctorB at hb
    split at hb
    · cases hb
      obtain ⟨v1, v2, rfl, r1, r2⟩ := r.two
      exact ⟨[v1, v2, .none, .ref 29], fun s X => binds_ctor x v1 v2 s X, .cons r1 (.cons r2 (.cons .none (.cons (.raw _) .nil)))⟩
    · cases hb
  · rw [sc_init]
    have : ((("self" : Str) :: ctorN).all fun x => scInit.names.lookup x == some .local) = true := by kernel_rfl
    exact beq_iff_eq.mp (List.all_eq_true.mp this x hx)
  · have : (initL.all fun st => ctorN.contains st.par && !(st.par == ("__debug__" : Str)) && (takerIn (W04 w h₀ mg mb os).K 113 st.attr == some none)) = true := by kernel_rfl
    have := List.all_eq_true.mp this st hst
    simp only [Bool.and_eq_true, Bool.not_eq_true', beq_iff_eq, List.contains_iff_mem] at this
    exact ⟨this.1.1, this.1.2, this.2⟩
theorem spec_gt' : FSpec (W04 w h₀ mg mb os) (d + 1) (.ref 124) GT := by
  have hD := fText_den (w := w) (h₀ := h₀) (mg := mg) (mb := mb) (os := os) (d := d)
  rw [← sc_text (w := w) (h₀ := h₀) (mg := mg) (mb := mb) (os := os)] at hD
  refine fspec_of (names := ["cells"]) fn_text (fun s vals hv => ?_) (fun x hx => ?_) hD
  · obtain ⟨v1, rfl⟩ := List.length_eq_one_iff.mp hv; exact BindsTo.of_eq (by kernel_rfl)
  · rw [sc_text]; cases List.mem_singleton.mp hx; kernel_rfl
theorem spec_gr : FSpec (W04 w h₀ mg mb os) (d + 1) (.ref 131) GR := by
  have hD := fRead_den (w := w) (h₀ := h₀) (mg := mg) (mb := mb) (os := os) (d := d)
  rw [← sc_read (w := w) (h₀ := h₀) (mg := mg) (mb := mb) (os := os)] at hD
  refine fspec_of (names := ["text"]) fn_read (fun s vals hv => ?_) (fun x hx => ?_) hD
  · obtain ⟨v1, rfl⟩ := List.length_eq_one_iff.mp hv; exact BindsTo.of_eq (by kernel_rfl)
  · rw [sc_read]; cases List.mem_singleton.mp hx; kernel_rfl
theorem spec_gj : FSpec (W04 w h₀ mg mb os) (d + 1) (.ref 138) GJ := by
  have hD := fJoin_den (w := w) (h₀ := h₀) (mg := mg) (mb := mb) (os := os) (d := d)
  rw [← sc_join (w := w) (h₀ := h₀) (mg := mg) (mb := mb) (os := os)] at hD
  refine fspec_of (names := ["rows"]) fn_join (fun s vals hv => ?_) (fun x hx => ?_) hD
  · obtain ⟨v1, rfl⟩ := List.length_eq_one_iff.mp hv; exact BindsTo.of_eq (by kernel_rfl)
  · rw [sc_join]; cases List.mem_singleton.mp hx; kernel_rfl
end
theorem GC_eq (a : AV) (col : Nat) : ∃ fs, GC [a, .int col] = some (.inst 113 fs) ∧ inst col fs := by
  refine ⟨[("_tabsize", a), ("_wrapcolumn", .int col), ("_linejunk", .none), ("_charjunk", .raw (.ref 29))], ?_, ?_, ?_⟩
  · kernel_rfl
  · kernel_rfl
  · kernel_rfl
end Mine
end
section
set_option maxRecDepth 100000
set_option maxHeartbeats 8000000
namespace Mine
theorem plain04 (ns : List Int) (hlen : ns.length ≤ 63) : ∃ ρ', fLaw GT GR GJ GC (GS 241) (script0 ns) = some (.ret (.bool true), ρ') := by
  obtain ⟨ρ₁, e1, g1⟩ := law_nums (GC := GC) (GS' := GS 241) ns hlen
  obtain ⟨hM1, hM2⟩ := nums_len ns hlen
  obtain ⟨ρ₂, Ps, e2, n2, hP, hl, h1, h2, h3⟩ := law_mid (GC := GC) (GS' := GS 241) (numsOf ns) hM2 g1
  rw [e1, e2]
  refine law_cols (f := 240) (Ls := Ps.map toLine) (fun col => GC_eq (.int 8) col) (by (first | lia | omega)) (by (first | lia | omega)) (fun L hL => ?_) (by rw [List.length_map]; (first | lia | omega)) n2 (by rw [toLine_rows]; exact h1) h2 h3
  obtain ⟨p, hp, rfl⟩ := List.mem_map.mp hL
  obtain ⟨a, b, c⟩ := hP p hp
  exact ⟨toLine_fine p a b (by (first | lia | omega)), c, a.2.1⟩
theorem room0 (env : Env) : Room (callerA.deeper env) 250 := ⟨rfl, by show callerA.depth + 1 + 2 * 250 + 10 < recursionLimit; decide +kernel, by show callerA.units + 3 + 30 * 250 + 100 < cLine; decide +kernel⟩
theorem fin04 {w : World} {s₀ s₁ : Shared} {mg mb : Str → Option Value} {p : Program} {loose : List Str} {mean : ExcName → Option Value} (T : Top p loose mean mg mb s₁.heap) (KX : (Mine.hd.heap_39 w.params).In s₁.heap) (hg : s₁.gens = #[]) {h₁ : Heap} {L a : Addr}
    (F : Fr s₁.heap L h₁ (fun x => List.lookup x [(("script" : Str), Value.ref a)].reverse)) {vals : List Value} {ns : List Int} (hl : s₁.heap.IsList a vals.toArray) (hi : IntsAre vals ns) (hlt : ¬ ((63 : Nat) : Int) < (ns.length : Int)) {fa : Addr} {cd : Value} {name : Str} {tk : Nat} {E : Value → Shared → Prop} :
    wpAny (model P04 w) (callerA.deeper (envOf name scLaw L fa cd)) (execs bdLaw (envOf name scLaw L fa cd)) (fun f s' => GoodWG PySem.Challenge.rw_dm0064_04.row.claim (classAt s₀.heap) (ExcName.means s₀.heap) [ofPy (PyData.list (List.map PyData.int ns))] s₁ (.ok (.ret (match f with | .ret v => v | _ => .none))) s') E { s₁ with heap := h₁, toks := tk } := by
  obtain ⟨ρ', hp⟩ := plain04 ns (by (first | lia | omega))
  have ok : (W04 w s₁.heap mg mb s₁.os).Ok := ⟨T.g, T.b, T.nolimit, T.nodigits, T.builtins, KX, fun a h => h.elim⟩
  refine law_bridge (W := W04 w s₁.heap mg mb s₁.os) ok rfl rfl (fun _ h => h) hg F hl hi (by simp) (sc := scLaw) ⟨rfl, rfl, rfl, by kernel_rfl, fun x hx => ?_⟩ rfl rfl (by kernel_rfl) (room0 _) (fLaw_den spec_gt' spec_gr spec_gj spec_ctor (lspec_le (spec_gs 241) (by (first | lia | omega)))) hp fun s' hk ho hb => ?_
  · exfalso
    have hn : noCellB scLaw = true := by kernel_rfl
    rcases hx with h | h <;> (have := List.all_eq_true.mp hn _ (lookup_in h); simp at this)
  · exact ⟨.inl ⟨.bool true, .bool true, [], rfl, fun _ => rfl, .bool _, by kernel_rfl, fun _ => ⟨List.nodup_nil, fun _ h => by cases h⟩⟩, .of_keep hk, ho, hb⟩
end Mine
theorem PySem.Challenge.cw_dm0064_04_holds : PySem.Challenge.rw_dm0064_04.Holds :=
  Mine.hd (by
  k_fill
  intro w s₀ s₁ mg mb G Y fa o pm cd doc dV kV ho hd hcd hD hmg hg args vals as hpre hlay hrd hwl hlo
  have KX := kIn_of Y
  refine Ground.open G ?_
  intro T B D TE TW
  try (refine guard_noD D (by decide +kernel) ?_; clear D)
  have TA := at_of_top T
  clear hmg
  wrow_args hpre hlay hrd hwl hlo
  refine enter_call ?_
  w_top on
  w_call any ho hd hcd hD T F
  exact Mine.fin04 T KX hg F (by assumption) (by assumption) (by assumption))
end
