import PyProof.Rows.All
import Wide.All
import OpenK.AllK
import Wide.FinOn
import Lean
import PySem.Challenge.RW_dm0064_05
open PySem PySem.W PyProof.Rows
set_option Elab.async false
section
namespace Mine
set_option maxRecDepth 100000 in
set_option maxHeartbeats 8000000 in
open_top hd for PySem.Challenge.rw_dm0064_05
end Mine
end
section
namespace Mine
inductive AV where
  | none
  | bool (b : Bool)
  | int (i : Int)
  | str (s : Str)
  | bytes (b : Array UInt8)
  | tup (l : List AV)
  | lst (l : List AV)
  | inst (c : Addr) (fs : List (Str × AV))
  | raw (v : Value)
structure OL where
  place : Option Addr
  items : List AV
inductive SV where
  | val (v : AV)
  | own (l : OL)
abbrev Slots := Str → Option SV
def Slots.set (ρ : Slots) (x : Str) (v : SV) : Slots := fun y => if y = x then some v else ρ y
abbrev AddrSet := Addr → Prop
mutual
inductive RepV (Z : AddrSet) (h : Heap) : Value → AV → Prop where
  | none : RepV Z h .none .none
  | bool (b : Bool) : RepV Z h (.bool b) (.bool b)
  | int (i : Int) (t : Tok) : RepV Z h (.int i t) (.int i)
  | str (x : Str) (t : Tok) : RepV Z h (.str x t) (.str x)
  | bytes (b : Array UInt8) (t : Tok) : RepV Z h (.bytes b t) (.bytes b)
  | tup {a : Addr} {vs : List Value} {l : List AV} : Z a → IsTup h a vs.toArray → RepVs Z h vs l → RepV Z h (.ref a) (.tup l)
  | lst {a : Addr} {vs : List Value} {l : List AV} : Z a → h.IsList a vs.toArray → RepVs Z h vs l → RepV Z h (.ref a) (.lst l)
  | inst {x dx c : Addr} {es : List DictEntry} {n : Nat} {fs : List (Str × AV)} : Z x → Z dx → h.get? x = some (instObj c dx) → h.get? dx = some (dictOf es n) →
      RepEs Z h es fs → RepV Z h (.ref x) (.inst c fs)
  | raw (v : Value) : RepV Z h v (.raw v)
inductive RepVs (Z : AddrSet) (h : Heap) : List Value → List AV → Prop where
  | nil : RepVs Z h [] []
  | cons {v : Value} {vs : List Value} {a : AV} {l : List AV} : RepV Z h v a → RepVs Z h vs l → RepVs Z h (v :: vs) (a :: l)
inductive RepEs (Z : AddrSet) (h : Heap) : List DictEntry → List (Str × AV) → Prop where
  | nil : RepEs Z h [] []
  | cons {hs : Int} {x : Str} {t : Tok} {v : Value} {es : List DictEntry} {a : AV} {fs : List (Str × AV)} : RepV Z h v a → RepEs Z h es fs → RepEs Z h (⟨hs, .str x t, v⟩ :: es) ((x, a) :: fs)
end
section
variable {Z Z' : AddrSet} {h h' : Heap}
theorem RepV.mono (hz : ∀ a, Z a → Z' a) (hk : ∀ a o, Z a → h.get? a = some o → h'.get? a = some o) {v : Value} {a : AV} (r : RepV Z h v a) : RepV Z' h' v a :=
  RepV.rec (motive_1 := fun v a _ => RepV Z' h' v a) (motive_2 := fun vs l _ => RepVs Z' h' vs l) (motive_3 := fun es fs _ => RepEs Z' h' es fs)
    .none .bool .int .str .bytes (fun z ho _ rs => .tup (hz _ z) (let ⟨o, ho, r⟩ := ho; ⟨o, hk _ _ z ho, r⟩) rs) (fun z ho _ rs => .lst (hz _ z) (let ⟨o, ho, r⟩ := ho; ⟨o, hk _ _ z ho, r⟩) rs)
    (fun z1 z2 h1 h2 _ rs => .inst (hz _ z1) (hz _ z2) (hk _ _ z1 h1) (hk _ _ z2 h2) rs) .raw .nil (fun _ _ r rs => .cons r rs) .nil (fun _ _ r rs => .cons r rs) r
theorem RepVs.mono (hz : ∀ a, Z a → Z' a) (hk : ∀ a o, Z a → h.get? a = some o → h'.get? a = some o) {vs : List Value} {l : List AV} (r : RepVs Z h vs l) : RepVs Z' h' vs l :=
  RepVs.rec (motive_1 := fun v a _ => RepV Z' h' v a) (motive_2 := fun vs l _ => RepVs Z' h' vs l) (motive_3 := fun es fs _ => RepEs Z' h' es fs)
    .none .bool .int .str .bytes (fun z ho _ rs => .tup (hz _ z) (let ⟨o, ho, r⟩ := ho; ⟨o, hk _ _ z ho, r⟩) rs) (fun z ho _ rs => .lst (hz _ z) (let ⟨o, ho, r⟩ := ho; ⟨o, hk _ _ z ho, r⟩) rs)
    (fun z1 z2 h1 h2 _ rs => .inst (hz _ z1) (hz _ z2) (hk _ _ z1 h1) (hk _ _ z2 h2) rs) .raw .nil (fun _ _ r rs => .cons r rs) .nil (fun _ _ r rs => .cons r rs) r
theorem RepEs.mono (hz : ∀ a, Z a → Z' a) (hk : ∀ a o, Z a → h.get? a = some o → h'.get? a = some o) {vs : List DictEntry} {l : List (Str × AV)} (r : RepEs Z h vs l) : RepEs Z' h' vs l :=
  RepEs.rec (motive_1 := fun v a _ => RepV Z' h' v a) (motive_2 := fun vs l _ => RepVs Z' h' vs l) (motive_3 := fun es fs _ => RepEs Z' h' es fs)
    .none .bool .int .str .bytes (fun z ho _ rs => .tup (hz _ z) (let ⟨o, ho, r⟩ := ho; ⟨o, hk _ _ z ho, r⟩) rs) (fun z ho _ rs => .lst (hz _ z) (let ⟨o, ho, r⟩ := ho; ⟨o, hk _ _ z ho, r⟩) rs)
    (fun z1 z2 h1 h2 _ rs => .inst (hz _ z1) (hz _ z2) (hk _ _ z1 h1) (hk _ _ z2 h2) rs) .raw .nil (fun _ _ r rs => .cons r rs) .nil (fun _ _ r rs => .cons r rs) r
theorem RepV.none' {v : Value} (r : RepV Z h v .none) : v = .none := by cases r; rfl
theorem RepV.bool' {v : Value} {b : Bool} (r : RepV Z h v (.bool b)) : v = .bool b := by cases r; rfl
theorem RepV.int' {v : Value} {i : Int} (r : RepV Z h v (.int i)) : ∃ t, v = .int i t := by cases r; exact ⟨_, rfl⟩
theorem RepV.str' {v : Value} {x : Str} (r : RepV Z h v (.str x)) : ∃ t, v = .str x t := by cases r; exact ⟨_, rfl⟩
theorem RepV.tup' {v : Value} {l : List AV} (r : RepV Z h v (.tup l)) : ∃ a vs, v = .ref a ∧ Z a ∧ IsTup h a vs.toArray ∧ RepVs Z h vs l := by cases r with | tup z i rs => exact ⟨_, _, rfl, z, i, rs⟩
theorem RepV.lst' {v : Value} {l : List AV} (r : RepV Z h v (.lst l)) : ∃ a vs, v = .ref a ∧ Z a ∧ h.IsList a vs.toArray ∧ RepVs Z h vs l := by cases r with | lst z i rs => exact ⟨_, _, rfl, z, i, rs⟩
theorem RepVs.nil' {vs : List Value} (r : RepVs Z h vs []) : vs = [] := by cases r; rfl
theorem RepVs.cons' {vs : List Value} {a : AV} {l : List AV} (r : RepVs Z h vs (a :: l)) : ∃ v ws, vs = v :: ws ∧ RepV Z h v a ∧ RepVs Z h ws l := by cases r with | cons r rs => exact ⟨_, _, rfl, r, rs⟩
theorem RepVs.length {vs : List Value} {l : List AV} (r : RepVs Z h vs l) : vs.length = l.length := by
  induction l generalizing vs with
  | nil => rw [r.nil']; rfl
  | cons a l ih => obtain ⟨v, ws, rfl, _, rs⟩ := r.cons'; exact congrArg (· + 1) (ih rs)
theorem RepVs.get {vs : List Value} {l : List AV} (r : RepVs Z h vs l) {i : Nat} {a : AV} (e : l[i]? = some a) : ∃ v, vs[i]? = some v ∧ RepV Z h v a := by
  induction l generalizing vs i with
  | nil => cases e
  | cons b l ih =>
    obtain ⟨v, ws, rfl, r, rs⟩ := r.cons'
    cases i with
    | zero => cases e; exact ⟨v, rfl, r⟩
    | succ i => exact ih rs e
theorem RepVs.append {vs : List Value} {l : List AV} {ws : List Value} {m : List AV} (r : RepVs Z h vs l) (k : RepVs Z h ws m) : RepVs Z h (vs ++ ws) (l ++ m) := by
  induction l generalizing vs with
  | nil => rw [r.nil']; exact k
  | cons b l ih => obtain ⟨v, us, rfl, r, rs⟩ := r.cons'; exact .cons r (ih rs)
theorem RepVs.snoc {vs : List Value} {l : List AV} {v : Value} {a : AV} (r : RepVs Z h vs l) (q : RepV Z h v a) : RepVs Z h (vs ++ [v]) (l ++ [a]) := r.append (.cons q .nil)
theorem RepVs.take (n : Nat) {vs : List Value} {l : List AV} (r : RepVs Z h vs l) : RepVs Z h (vs.take n) (l.take n) := by
  induction n generalizing vs l with
  | zero => exact .nil
  | succ n ih =>
    cases l with
    | nil => rw [r.nil']; exact .nil
    | cons a l => obtain ⟨v, us, rfl, r, rs⟩ := r.cons'; exact .cons r (ih rs)
theorem RepVs.drop (n : Nat) {vs : List Value} {l : List AV} (r : RepVs Z h vs l) : RepVs Z h (vs.drop n) (l.drop n) := by
  induction n generalizing vs l with
  | zero => exact r
  | succ n ih =>
    cases l with
    | nil => rw [r.nil']; exact .nil
    | cons a l => obtain ⟨v, us, rfl, r, rs⟩ := r.cons'; exact ih rs
theorem RepVs.reverse {vs : List Value} {l : List AV} (r : RepVs Z h vs l) : RepVs Z h vs.reverse l.reverse := by
  induction l generalizing vs with
  | nil => rw [r.nil']; exact .nil
  | cons a l ih => obtain ⟨v, us, rfl, r, rs⟩ := r.cons'; rw [List.reverse_cons, List.reverse_cons]; exact (ih rs).snoc r
end
end Mine
end
section
namespace Mine
structure Wd where
  prog : Program
  w : World
  K : Frag
  h₀ : Heap
  mg : Str → Option Value
  mb : Str → Option Value
  os : OsState
  X : AddrSet
  Z₀ : AddrSet
abbrev Wd.M (W : Wd) : Model := model W.prog W.w
structure Wd.Ok (W : Wd) : Prop where
  g : W.h₀.Ns mainGlobals W.mg
  b : W.h₀.Ns builtinsNs W.mb
  nolimit : W.h₀.NoLimit
  nodigits : ∃ mc, W.h₀.Ns cStatics mc ∧ mc "sys.int_max_str_digits" = none
  builtins : ∀ x : Str, x ≠ "__name__" → W.mb x = bootBuiltins x
  kin : W.K.In W.h₀
  xk : ∀ a, W.X a → W.K.lookup a = none ∧ a ≠ mainGlobals ∧ a ≠ builtinsNs ∧ a ≠ cStatics
structure Inv (W : Wd) (Z : AddrSet) (s : Shared) : Prop where
  ok : W.Ok
  base : ∀ b o, W.h₀.get? b = some o → ¬ W.X b → s.heap.get? b = some o
  xs : ∀ b, W.X b → ∃ o, s.heap.get? b = some o
  zin : ∀ a, Z a → ∃ o, s.heap.get? a = some o
  os : s.os = W.os
  bare : AllBare s.gens
  zx : ∀ a, Z a → ¬ W.X a
  z0 : ∀ a, W.Z₀ a → Z a
  tk : 1 ≤ s.toks
namespace Inv
variable {W : Wd} {Z : AddrSet} {s : Shared}
theorem ns_of (I : Inv W Z s) {a : Addr} {m : Str → Option Value} (hn : W.h₀.Ns a m) (hx : ¬ W.X a) : s.heap.Ns a m := by
  obtain ⟨o, es, ep, ho, r⟩ := hn
  exact ⟨o, es, ep, I.base _ _ ho hx, r⟩
theorem g (I : Inv W Z s) : s.heap.Ns mainGlobals W.mg := I.ns_of I.ok.g fun h => (I.ok.xk _ h).2.1 rfl
theorem b (I : Inv W Z s) : s.heap.Ns builtinsNs W.mb := I.ns_of I.ok.b fun h => (I.ok.xk _ h).2.2.1 rfl
theorem nolimit (I : Inv W Z s) : s.heap.NoLimit := by
  obtain ⟨mc, h1, h2⟩ := I.ok.nolimit
  exact ⟨mc, I.ns_of h1 fun h => (I.ok.xk _ h).2.2.2 rfl, h2⟩
theorem kin (I : Inv W Z s) : W.K.In s.heap := fun a o e => I.base _ _ (I.ok.kin a o e) fun h => by rw [(I.ok.xk _ h).1] at e; cases e
theorem fresh_z (I : Inv W Z s) {a : Addr} (h : s.heap.get? a = none) : ¬ Z a := fun z => by obtain ⟨o, e⟩ := I.zin a z; rw [h] at e; cases e
theorem fresh_b (I : Inv W Z s) {a : Addr} (h : s.heap.get? a = none) : W.h₀.get? a = none := by
  cases e : W.h₀.get? a with
  | none => rfl
  | some o =>
    by_cases hx : W.X a
    · obtain ⟨o, e⟩ := I.xs a hx; rw [h] at e; cases e
    · have := I.base a o e hx; rw [h] at this; cases this
theorem fresh_x (I : Inv W Z s) {a : Addr} (h : s.heap.get? a = none) : ¬ W.X a := fun hx => by obtain ⟨o, e⟩ := I.xs a hx; rw [h] at e; cases e
end Inv
structure Own where
  a : Addr → Prop
  g : Nat → Prop
def Own.none : Own := ⟨fun _ => False, fun _ => False⟩
def Own.addrs (p : Addr → Prop) : Own := ⟨p, fun _ => False⟩
structure Step (W : Wd) (O : Own) (Z : AddrSet) (s : Shared) (Z' : AddrSet) (s' : Shared) : Prop where
  inv : Inv W Z' s'
  keep : ∀ b o, ¬ O.a b → s.heap.get? b = some o → s'.heap.get? b = some o
  zsub : ∀ a, Z a → Z' a
  znew : ∀ a, Z' a → Z a ∨ O.a a ∨ s.heap.get? a = none
  gens : ∀ i x, ¬ O.g i → s.gens[i]? = some x → s'.gens[i]? = some x
namespace Step
variable {W : Wd} {O O₁ : Own} {Z Z₁ Z₂ : AddrSet} {s s₁ s₂ : Shared}
theorem none_back (p : Step W O Z s Z₁ s₁) {a : Addr} (h : s₁.heap.get? a = none) : O.a a ∨ s.heap.get? a = none := by
  by_cases ho : O.a a
  · exact .inl ho
  · refine .inr ?_
    cases e : s.heap.get? a with
    | none => rfl
    | some o => rw [p.keep a o ho e] at h; cases h
theorem id (I : Inv W Z s) : Step W O Z s Z s := ⟨I, fun _ _ _ e => e, fun _ h => h, fun _ h => .inl h, fun _ _ _ e => e⟩
theorem trans (p : Step W O Z s Z₁ s₁) (q : Step W O₁ Z₁ s₁ Z₂ s₂) (ho : ∀ a, O₁.a a → O.a a ∨ s.heap.get? a = none) (hg : ∀ i, O₁.g i → O.g i ∨ s.gens[i]? = none) : Step W O Z s Z₂ s₂ where
  inv := q.inv
  keep b o hb e := q.keep b o (fun h => (ho b h).elim hb fun h' => by rw [h'] at e; cases e) (p.keep b o hb e)
  zsub a h := q.zsub a (p.zsub a h)
  znew a h := by
    rcases q.znew a h with h | h | h
    · exact p.znew a h
    · exact .inr (ho a h)
    · exact .inr (p.none_back h)
  gens i x hi e := q.gens i x (fun h => (hg i h).elim hi fun h' => by rw [h'] at e; cases e) (p.gens i x hi e)
theorem tr (p : Step W .none Z s Z₁ s₁) (q : Step W .none Z₁ s₁ Z₂ s₂) : Step W .none Z s Z₂ s₂ := p.trans q (fun _ h => .inl h) (fun _ h => .inl h)
theorem mono (p : Step W O Z s Z₁ s₁) (ho : ∀ a, O.a a → O₁.a a ∨ s.heap.get? a = none) (hg : ∀ i, O.g i → O₁.g i ∨ s.gens[i]? = none) : Step W O₁ Z s Z₁ s₁ where
  inv := p.inv
  keep b o hb e := p.keep b o (fun h => (ho b h).elim hb fun h' => by rw [h'] at e; cases e) e
  zsub := p.zsub
  znew a h := (p.znew a h).imp (fun h => h) fun h => h.elim (ho a) .inr
  gens i x hi e := p.gens i x (fun h => (hg i h).elim hi fun h' => by rw [h'] at e; cases e) e
theorem weak (p : Step W .none Z s Z₁ s₁) : Step W O Z s Z₁ s₁ := p.mono (fun _ h => h.elim) (fun _ h => h.elim)
theorem toks (I : Inv W Z s) (tk : Nat) (htk : s.toks ≤ tk := by first | exact Nat.le_refl _ | exact Nat.le_add_right _ _ | assumption | (first | lia | omega)) : Step W O Z s Z { s with toks := tk } := ⟨⟨I.ok, I.base, I.xs, I.zin, I.os, I.bare, I.zx, I.z0, Nat.le_trans I.tk htk⟩, fun _ _ _ e => e, fun _ h => h, fun _ h => .inl h, fun _ _ _ e => e⟩
theorem grow (I : Inv W Z s) {h' : Heap} {tk : Nat} (hk : ∀ b o, s.heap.get? b = some o → h'.get? b = some o) (htk : s.toks ≤ tk := by first | exact Nat.le_refl _ | exact Nat.le_add_right _ _ | assumption | (first | lia | omega)) : Step W O Z s Z { s with heap := h', toks := tk } :=
  ⟨⟨I.ok, fun b o e x => hk _ _ (I.base b o e x), fun b x => let ⟨o, e⟩ := I.xs b x; ⟨o, hk _ _ e⟩, fun a z => let ⟨o, e⟩ := I.zin a z; ⟨o, hk _ _ e⟩, I.os, I.bare, I.zx, I.z0, Nat.le_trans I.tk htk⟩, fun b o _ e => hk b o e, fun _ h => h, fun _ h => .inl h, fun _ _ _ e => e⟩
theorem grow1 (I : Inv W Z s) {h' : Heap} {tk : Nat} {a : Addr} {oa : Obj} (hk : ∀ b o, s.heap.get? b = some o → h'.get? b = some o) (hn : s.heap.get? a = none) (ha : h'.get? a = some oa) (htk : s.toks ≤ tk := by first | exact Nat.le_refl _ | exact Nat.le_add_right _ _ | assumption | (first | lia | omega)) :
    Step W O Z s (fun b => Z b ∨ b = a) { s with heap := h', toks := tk } :=
  ⟨⟨I.ok, fun b o e x => hk _ _ (I.base b o e x), fun b x => let ⟨o, e⟩ := I.xs b x; ⟨o, hk _ _ e⟩, fun b z => z.elim (fun z => let ⟨o, e⟩ := I.zin b z; ⟨o, hk _ _ e⟩) fun e => ⟨oa, e ▸ ha⟩, I.os, I.bare, fun b z => z.elim (I.zx b) fun e => e ▸ I.fresh_x hn, fun b h => .inl (I.z0 b h), Nat.le_trans I.tk htk⟩,
    fun b o _ e => hk b o e, fun _ h => .inl h, fun _ h => h.elim .inl fun e => .inr (.inr (e ▸ hn)), fun _ _ _ e => e⟩
theorem rep (p : Step W O Z s Z₁ s₁) (ho : ∀ a, Z a → ¬ O.a a) {v : Value} {a : AV} (r : RepV Z s.heap v a) : RepV Z₁ s₁.heap v a := r.mono p.zsub fun a o z e => p.keep a o (ho a z) e
theorem reps (p : Step W O Z s Z₁ s₁) (ho : ∀ a, Z a → ¬ O.a a) {v : List Value} {a : List AV} (r : RepVs Z s.heap v a) : RepVs Z₁ s₁.heap v a := r.mono p.zsub fun a o z e => p.keep a o (ho a z) e
theorem rep0 (p : Step W .none Z s Z₁ s₁) {v : Value} {a : AV} (r : RepV Z s.heap v a) : RepV Z₁ s₁.heap v a := p.rep (fun _ _ h => h) r
theorem reps0 (p : Step W .none Z s Z₁ s₁) {v : List Value} {a : List AV} (r : RepVs Z s.heap v a) : RepVs Z₁ s₁.heap v a := p.reps (fun _ _ h => h) r
end Step
structure Room (A : Around) (d : Nat) : Prop where
  handled : A.handled = none
  depth : A.depth + 2 * d + 10 < recursionLimit
  units : A.units + 30 * d + 100 < cLine
theorem Room.deeper {A : Around} {d : Nat} (r : Room A (d + 1)) (env : Env) : Room (A.deeper env) d := ⟨r.handled, by have h : A.depth + 2 * (d + 1) + 10 < recursionLimit := r.depth; show A.depth + 1 + 2 * d + 10 < recursionLimit; (first | lia | omega), by have h : A.units + 30 * (d + 1) + 100 < cLine := r.units; show A.units + 3 + 30 * d + 100 < cLine; (first | lia | omega)⟩
theorem Room.lt {A : Around} {d : Nat} (r : Room A d) : A.depth < recursionLimit := by have := r.depth; (first | lia | omega)
theorem Room.ult {A : Around} {d : Nat} (r : Room A d) : A.units + 50 < cLine := by have := r.units; (first | lia | omega)
structure EnvOk (env : Env) (sc : Scope) : Prop where
  scope : env.scope = sc
  globals : env.globals = mainGlobals
  builtins : env.builtins = builtinsNs
  fn : sc.kind = .function
  cells : ∀ x, sc.names.lookup x = some .cell ∨ sc.names.lookup x = some .free → ∃ c, env.cells.lookup x = some c
def At (h : Heap) (env : Env) (m : Str → Option Value) (x : Str) (v : Value) : Prop :=
  (env.kindOf x = some .local ∧ m x = some v) ∨ ((env.kindOf x = some .cell ∨ env.kindOf x = some .free) ∧ ∃ c, env.cells.lookup x = some c ∧ h.IsCell c (some v))
def SRep (Z : AddrSet) (h : Heap) (a : Addr) (v : Value) : SV → Prop
  | .val av => RepV Z h v av
  | .own l => v = .ref a ∧ ∃ vs : List Value, h.PlainList a vs.toArray ∧ RepVs Z h vs l.items
def frz : Str := "self"
abbrev Kd (sc : Scope) (x : Str) : Prop := sc.names.lookup x = some .local ∨ (sc.names.lookup x = some .cell ∧ x ≠ frz)
def FOwn (env : Env) (ρ : Slots) (α : Str → Addr) (a : Addr) : Prop := a = env.locals ∨ (∃ x, x ≠ frz ∧ env.cells.lookup x = some a) ∨ ∃ x l, ρ x = some (.own l) ∧ α x = a
structure Loc (W : Wd) (Z : AddrSet) (h : Heap) (env : Env) (ρ : Slots) (α : Str → Addr) : Prop where
  ns : ∃ m, h.Ns env.locals m ∧ ∀ x sv, ρ x = some sv → ∃ v, At h env m x v ∧ SRep Z h (α x) v sv
  nz : ∀ a, FOwn env ρ α a → ¬ Z a
  nb : ∀ a, FOwn env ρ α a → W.h₀.get? a = none ∧ ¬ W.X a
  fix : ∀ x l b, ρ x = some (.own l) → l.place = some b → α x = b
  inj : ∀ x y l l', ρ x = some (.own l) → ρ y = some (.own l') → α x = α y → x = y
  cell : ∀ x c, env.cells.lookup x = some c → ∃ v, h.IsCell c v
  cinj : ∀ x y c, env.cells.lookup x = some c → env.cells.lookup y = some c → x = y
  slf : ∀ c, env.cells.lookup frz = some c → Z c
end Mine
end
section
namespace Mine
section
variable {W : Wd} {Z Z' Z₁ : AddrSet} {s s' s₁ : Shared} {h h' : Heap} {env : Env} {sc : Scope} {ρ ρ' ρ₁ : Slots} {α α' α₁ : Str → Addr} {A : Around} {E' : Value → Shared → Prop}
theorem EnvOk.kind (E : EnvOk env sc) (x : Str) : env.kindOf x = sc.names.lookup x := by unfold Env.kindOf; rw [E.scope]
theorem EnvOk.kfn (E : EnvOk env sc) : env.scope.kind = .function := by rw [E.scope]; exact E.fn
theorem At.mono {m : Str → Option Value} {x : Str} {v : Value} (a : At h env m x v) (hk : ∀ x c o, env.cells.lookup x = some c → h.get? c = some o → h'.get? c = some o) : At h' env m x v := by
  rcases a with a | ⟨k, c, hc, o, ho, hd⟩
  · exact .inl a
  · exact .inr ⟨k, c, hc, o, hk _ _ _ hc ho, hd⟩
theorem Loc.alive (L : Loc W Z h env ρ α) {a : Addr} (ha : FOwn env ρ α a) : ∃ o, h.get? a = some o := by
  obtain ⟨m, ⟨o, es, ep, ho, _⟩, hv⟩ := L.ns
  rcases ha with rfl | ⟨x, _, hx⟩ | ⟨x, l, hx, rfl⟩
  · exact ⟨o, ho⟩
  · obtain ⟨v, o, ho, _⟩ := L.cell _ _ hx; exact ⟨o, ho⟩
  · obtain ⟨v, _, _, vs, ⟨n, hn⟩, _⟩ := hv x _ hx; exact ⟨_, hn⟩
theorem Loc.step {O : Own} (L : Loc W Z s.heap env ρ α) (p : Step W O Z s Z' s') (ho : ∀ a, O.a a → ¬ FOwn env ρ α a ∧ ¬ Z a) : Loc W Z' s'.heap env ρ α := by
  have hk : ∀ a o, FOwn env ρ α a → s.heap.get? a = some o → s'.heap.get? a = some o := fun a o f e => p.keep a o (fun h => (ho a h).1 f) e
  have hz : ∀ a o, Z a → s.heap.get? a = some o → s'.heap.get? a = some o := fun a o f e => p.keep a o (fun h => (ho a h).2 f) e
  have hcl : ∀ x c o, env.cells.lookup x = some c → s.heap.get? c = some o → s'.heap.get? c = some o := fun x c o hc e => by
    by_cases q : x = frz
    · exact hz c o (L.slf c (q ▸ hc)) e
    · exact hk c o (.inr (.inl ⟨x, q, hc⟩)) e
  refine ⟨?_, fun a f z => ?_, L.nb, L.fix, L.inj, fun x c hc => ?_, L.cinj, fun c hc => p.zsub c (L.slf c hc)⟩
  · obtain ⟨m, ⟨o, es, ep, e, r⟩, hv⟩ := L.ns
    refine ⟨m, ⟨o, es, ep, hk _ _ (.inl rfl) e, r⟩, fun x sv hx => ?_⟩
    obtain ⟨v, at', r⟩ := hv x sv hx
    refine ⟨v, at'.mono fun y c o hc e => hcl y c o hc e, ?_⟩
    cases sv with
    | val av => exact r.mono p.zsub hz
    | own l => obtain ⟨e, vs, ⟨n, hn⟩, rs⟩ := r; exact ⟨e, vs, ⟨n, hk _ _ (.inr (.inr ⟨x, l, hx, rfl⟩)) hn⟩, rs.mono p.zsub hz⟩
  · obtain ⟨o, e⟩ := L.alive f
    rcases p.znew a z with z | z | z
    · exact L.nz a f z
    · exact (ho a z).1 f
    · rw [e] at z; cases z
  · obtain ⟨v, o, e, d⟩ := L.cell x c hc; exact ⟨v, o, hcl x c o hc e, d⟩
theorem Loc.step0 (L : Loc W Z s.heap env ρ α) (p : Step W .none Z s Z' s') : Loc W Z' s'.heap env ρ α := L.step p fun _ h => h.elim
theorem Loc.load {x : Str} {sv : SV} {Q : Value → Shared → Prop} (L : Loc W Z s.heap env ρ α) (E : EnvOk env sc) (hx : ρ x = some sv) (h : ∀ v, SRep Z s.heap (α x) v sv → Q v s)
    (hn : (x == ("__classdict__" : Str)) = false) : wpAny W.M A (loadName env x) Q E' s := by
  obtain ⟨m, ns, hv⟩ := L.ns
  obtain ⟨v, at', r⟩ := hv x sv hx
  rcases at' with ⟨k, e⟩ | ⟨k | k, c, hc, e⟩
  · exact wpAny_loadName_local E.kfn k ns e (h v r)
  · exact wpAny_loadName_cell E.kfn k hc e (h v r)
  · exact wpAny_loadName_free E.kfn k hc e (h v r) hn
structure FStep (W : Wd) (env : Env) (Z : AddrSet) (s : Shared) (ρ : Slots) (α : Str → Addr) (Z' : AddrSet) (s' : Shared) (ρ' : Slots) (α' : Str → Addr) : Prop where
  step : Step W (.addrs (FOwn env ρ α)) Z s Z' s'
  fo : ∀ a, FOwn env ρ' α' a → FOwn env ρ α a ∨ s.heap.get? a = none
  loc : Loc W Z' s'.heap env ρ' α'
theorem FStep.id (I : Inv W Z s) (L : Loc W Z s.heap env ρ α) : FStep W env Z s ρ α Z s ρ α := ⟨.id I, fun _ h => .inl h, L⟩
theorem FStep.trans (p : FStep W env Z s ρ α Z₁ s₁ ρ₁ α₁) (q : FStep W env Z₁ s₁ ρ₁ α₁ Z' s' ρ' α') : FStep W env Z s ρ α Z' s' ρ' α' where
  step := p.step.trans q.step (fun a h => p.fo a h) (fun _ h => h.elim)
  fo a h := by
    rcases q.fo a h with h | h
    · exact p.fo a h
    · exact p.step.none_back h
  loc := q.loc
theorem FStep.pure (L : Loc W Z s.heap env ρ α) (p : Step W .none Z s Z' s') : FStep W env Z s ρ α Z' s' ρ α := ⟨p.weak, fun _ h => .inl h, L.step0 p⟩
def setA (α : Str → Addr) (x : Str) (a : Addr) : Str → Addr := fun y => if y = x then a else α y
theorem store_fo {x : Str} {sv : SV} {a : Addr} : ∀ b, FOwn env (ρ.set x sv) (setA α x a) b → FOwn env ρ α b ∨ ((∃ l, sv = .own l) ∧ b = a) := by
  rintro b (rfl | ⟨y, hn, hy⟩ | ⟨y, l, hy, rfl⟩)
  · exact .inl (.inl rfl)
  · exact .inl (.inr (.inl ⟨y, hn, hy⟩))
  · unfold Slots.set at hy
    unfold setA
    by_cases e : y = x
    · rw [if_pos e] at hy ⊢; exact .inr ⟨⟨l, Option.some.inj hy⟩, rfl⟩
    · rw [if_neg e] at hy ⊢; exact .inl (.inr (.inr ⟨y, l, hy, rfl⟩))
def StoreOk (W : Wd) (Z : AddrSet) (ρ : Slots) (α : Str → Addr) (x : Str) (a : Addr) (sv : SV) : Prop := ∀ l, sv = .own l → ¬ Z a ∧ W.h₀.get? a = none ∧ ¬ W.X a ∧ (∀ b, l.place = some b → a = b) ∧ ∀ y l', y ≠ x → ρ y = some (.own l') → α y ≠ a
theorem store_loc {x : Str} {v : Value} {sv : SV} {a b : Addr} {h' : Heap} {m m' : Str → Option Value} (L : Loc W Z h env ρ α) (fb : FOwn env ρ α b) (hm : ∀ x sv, ρ x = some sv → ∃ v, At h env m x v ∧ SRep Z h (α x) v sv) (r : SRep Z h a v sv) (hf : StoreOk W Z ρ α x a sv) (hs : Heap.SameBut b h h')
    (hns : h'.Ns env.locals m') (hat : ∀ y w, y ≠ x → At h env m y w → At h' env m' y w) (hatx : At h' env m' x v) (hc : ∀ y c, env.cells.lookup y = some c → ∃ w, h'.IsCell c w) (hnl : ∀ vs, ¬ h.PlainList b vs) : Loc W Z h' env (ρ.set x sv) (setA α x a) := by
  have kz : ∀ c o, Z c → h.get? c = some o → h'.get? c = some o := fun c o z e => (hs.2 c (fun q => L.nz b fb (q ▸ z))).trans e
  have ks : ∀ {c : Addr} {w : Value} {sv : SV}, SRep Z h c w sv → SRep Z h' c w sv := fun {c w sv} r => by
    cases sv with
    | val av => exact RepV.mono (fun _ z => z) kz r
    | own l => obtain ⟨e, vs, ⟨n, hn⟩, rs⟩ := r; exact ⟨e, vs, ⟨n, (hs.2 c (fun q => hnl vs.toArray ⟨n, by rw [← q]; exact hn⟩)).trans hn⟩, rs.mono (fun _ z => z) kz⟩
  refine ⟨⟨m', hns, fun y sv' hy => ?_⟩, fun b f => ?_, fun b f => ?_, fun y l b hy hb => ?_, fun y z l l' hy hz e => ?_, hc, L.cinj, L.slf⟩
  · unfold Slots.set at hy
    unfold setA
    by_cases e : y = x
    · rw [if_pos e] at hy ⊢
      exact ⟨v, e ▸ hatx, Option.some.inj hy ▸ ks r⟩
    · rw [if_neg e] at hy ⊢
      obtain ⟨w, aw, rw'⟩ := hm y sv' hy
      exact ⟨w, hat y w e aw, ks rw'⟩
  · rcases store_fo b f with f | ⟨⟨l, e⟩, rfl⟩
    · exact L.nz b f
    · exact (hf l e).1
  · rcases store_fo b f with f | ⟨⟨l, e⟩, rfl⟩
    · exact L.nb b f
    · exact ⟨(hf l e).2.1, (hf l e).2.2.1⟩
  · unfold Slots.set at hy
    unfold setA
    by_cases e : y = x
    · rw [if_pos e] at hy ⊢; exact (hf l (Option.some.inj hy)).2.2.2.1 b hb
    · rw [if_neg e] at hy ⊢; exact L.fix y l b hy hb
  · unfold Slots.set at hy hz
    unfold setA at e
    by_cases ey : y = x <;> by_cases ez : z = x
    · rw [ey, ez]
    · rw [if_pos ey] at hy e; rw [if_neg ez] at hz e
      exact ((hf l (Option.some.inj hy)).2.2.2.2 z l' ez hz e.symm).elim
    · rw [if_neg ey] at hy e; rw [if_pos ez] at hz e
      exact ((hf l' (Option.some.inj hz)).2.2.2.2 y l ey hy e).elim
    · rw [if_neg ey] at hy e; rw [if_neg ez] at hz e
      exact L.inj y z l l' hy hz e
theorem store_step {b : Addr} {h' : Heap} {tk : Nat} (I : Inv W Z s) (L : Loc W Z s.heap env ρ α) (fb : FOwn env ρ α b) (hs : Heap.SameBut b s.heap h') (htk : s.toks ≤ tk := by first | exact Nat.le_refl _ | exact Nat.le_add_right _ _ | assumption | (first | lia | omega)) : Step W (.addrs (· = b)) Z s Z { s with heap := h', toks := tk } := by
  have kz : ∀ c o, Z c → s.heap.get? c = some o → h'.get? c = some o := fun c o z e => (hs.2 c (fun q => L.nz b fb (q ▸ z))).trans e
  refine ⟨⟨I.ok, fun c o e x => ?_, fun c x => ?_, fun c z => let ⟨o, e⟩ := I.zin c z; ⟨o, kz c o z e⟩, I.os, I.bare, I.zx, I.z0, Nat.le_trans I.tk htk⟩, fun c o hc e => (hs.2 c hc).trans e, fun _ z => z, fun _ z => .inl z, fun _ _ _ e => e⟩
  · exact (hs.2 c (fun q => by rw [q, (L.nb b fb).1] at e; cases e)).trans (I.base c o e x)
  · by_cases q : c = b
    · exact absurd (q ▸ x) (L.nb b fb).2
    · obtain ⟨o, e⟩ := I.xs c x; exact ⟨o, (hs.2 c q).trans e⟩
theorem ns_cell {c : Addr} {w : Option Value} {m : Str → Option Value} (hc : h.IsCell c w) (ns : h.Ns env.locals m) : c ≠ env.locals := fun q => by
  obtain ⟨o, e1, d1⟩ := hc
  obtain ⟨o', es, ep, e2, d2, _⟩ := ns
  rw [q, e2] at e1; cases e1; rw [d1] at d2; cases d2
theorem Loc.store' {x : Str} {v : Value} {sv : SV} {a : Addr} (I : Inv W Z s) (L : Loc W Z s.heap env ρ α) (E : EnvOk env sc) (hk : Kd sc x)
    (r : SRep Z s.heap a v sv) (hf : ∀ l, sv = .own l → ¬ Z a ∧ W.h₀.get? a = none ∧ ¬ W.X a ∧ (∀ b, l.place = some b → a = b) ∧ ∀ y l', y ≠ x → ρ y = some (.own l') → α y ≠ a)
    {Q : Unit → Shared → Prop} (h : ∀ s' c, FOwn env ρ α c → (sc.names.lookup x = some .local → c = env.locals) → Step W (.addrs (· = c)) Z s Z s' → (∀ b, FOwn env (ρ.set x sv) (setA α x a) b → FOwn env ρ α b ∨ ((∃ l, sv = .own l) ∧ b = a)) → Loc W Z s'.heap env (ρ.set x sv) (setA α x a) → Q () s') :
    wpAny W.M A (storeName env x v) Q E' s := by
  obtain ⟨m, ns, hv⟩ := L.ns
  rcases hk with hk | ⟨hk, hne⟩
  · have k : env.kindOf x = some .local := (E.kind x).trans hk
    refine wpAny_storeName_local k ns (fun h' ns' hs => h _ env.locals (.inl rfl) (fun _ => rfl) (store_step I L (.inl rfl) hs) store_fo (store_loc L (.inl rfl) hv r hf hs ns' (fun y w hy aw => ?_) (.inl ⟨k, by simp⟩) (fun y c hc => ?_) ?_)) (by rw [E.kfn]; rfl)
    · rcases aw with ⟨k', e⟩ | ⟨k', c, hc, e⟩
      · exact .inl ⟨k', by simpa [hy] using e⟩
      · exact .inr ⟨k', c, hc, e.sameBut hs (ns_cell e ns)⟩
    · obtain ⟨w, hw⟩ := L.cell y c hc; exact ⟨w, hw.sameBut hs (ns_cell hw ns)⟩
    · rintro vs ⟨n, e⟩; obtain ⟨o', es, ep, e2, d2, _⟩ := ns; rw [e2] at e; cases e; cases d2
  · have k : env.kindOf x = some .cell := (E.kind x).trans hk
    obtain ⟨c, hc⟩ := E.cells x (.inl hk)
    obtain ⟨v₀, hv₀⟩ := L.cell x c hc
    refine wpAny_storeName_cell E.kfn k hc hv₀ (fun h' hc' hs => h _ c (.inr (.inl ⟨x, hne, hc⟩)) (fun q => by rw [hk] at q; cases q) (store_step (tk := s.toks) I L (.inr (.inl ⟨x, hne, hc⟩)) hs) store_fo (store_loc L (.inr (.inl ⟨x, hne, hc⟩)) hv r hf hs (ns.sameBut hs (ns_cell hv₀ ns).symm) (fun y w hy aw => ?_) (.inr ⟨.inl k, c, hc, hc'⟩) (fun y c' hy => ?_) ?_))
    · rcases aw with ⟨k', e⟩ | ⟨k', c', hc'', e⟩
      · exact .inl ⟨k', e⟩
      · exact .inr ⟨k', c', hc'', e.sameBut hs fun q => hy (L.cinj y x c (q ▸ hc'') hc)⟩
    · by_cases q : c' = c
      · exact ⟨_, q ▸ hc'⟩
      · obtain ⟨w, hw⟩ := L.cell y c' hy; exact ⟨w, hw.sameBut hs q⟩
    · rintro vs ⟨n, e⟩; obtain ⟨o, e1, d1⟩ := hv₀; rw [e1] at e; cases e; cases d1
theorem Loc.store {x : Str} {v : Value} {sv : SV} {a : Addr} (I : Inv W Z s) (L : Loc W Z s.heap env ρ α) (E : EnvOk env sc) (hk : Kd sc x)
    (r : SRep Z s.heap a v sv) (hf : ∀ l, sv = .own l → ¬ Z a ∧ W.h₀.get? a = none ∧ ¬ W.X a ∧ (∀ b, l.place = some b → a = b) ∧ ∀ y l', y ≠ x → ρ y = some (.own l') → α y ≠ a)
    {Q : Unit → Shared → Prop} (h : ∀ s', Step W (.addrs (FOwn env ρ α)) Z s Z s' → (∀ b, FOwn env (ρ.set x sv) (setA α x a) b → FOwn env ρ α b ∨ ((∃ l, sv = .own l) ∧ b = a)) → Loc W Z s'.heap env (ρ.set x sv) (setA α x a) → Q () s') :
    wpAny W.M A (storeName env x v) Q E' s :=
  L.store' I E hk r hf fun s' c fc _ p fo l => h s' (p.mono (fun b e => .inl (by rw [show b = c from e]; exact fc)) fun _ h => h.elim) fo l
end
end Mine
end
section
set_option linter.unusedVariables false
namespace Mine
section
variable {W : Wd} {Z Z' Z₁ : AddrSet} {s s' s₁ : Shared} {env : Env} {sc : Scope} {ρ : Slots} {α : Str → Addr} {A : Around} {d : Nat}
def Gives (W : Wd) (A : Around) (Z : AddrSet) (s : Shared) (t : Sem Value) (av : AV) : Prop :=
  ∀ (Q : Value → Shared → Prop) (E' : Value → Shared → Prop), (∀ rv s' Z', Step W .none Z s Z' s' → RepV Z' s'.heap rv av → Q rv s') → wpAny W.M A t Q E' s
def GivesB (W : Wd) (A : Around) (Z : AddrSet) (s : Shared) (t : Sem Bool) (b : Bool) : Prop :=
  ∀ (Q : Bool → Shared → Prop) (E' : Value → Shared → Prop), (∀ s' Z', Step W .none Z s Z' s' → Q b s') → wpAny W.M A t Q E' s
def DenP (W : Wd) (d : Nat) (sc : Scope) (e : Expr) (f : Slots → Option AV) : Prop :=
  ∀ (A : Around) (env : Env) (Z : AddrSet) (s : Shared) (ρ : Slots) (α : Str → Addr) (av : AV), Room A d → EnvOk env sc → Inv W Z s → Loc W Z s.heap env ρ α → f ρ = some av → Gives W A Z s (eval e env) av
def DenT (W : Wd) (d : Nat) (sc : Scope) (e : Expr) (f : Slots → Option Bool) : Prop :=
  ∀ (A : Around) (env : Env) (Z : AddrSet) (s : Shared) (ρ : Slots) (α : Str → Addr) (b : Bool), Room A d → EnvOk env sc → Inv W Z s → Loc W Z s.heap env ρ α → f ρ = some b → GivesB W A Z s (isTrue e env (eval e env)) b
theorem bindO {β γ : Type} {x : Option β} {f : β → Option γ} {c : γ} (h : (x >>= f) = some c) : ∃ b, x = some b ∧ f b = some c := by
  cases x with
  | none => cases h
  | some b => exact ⟨b, rfl, h⟩
theorem Gives.val (I : Inv W Z s) {t : Sem Value} {av : AV} (h : ∀ (Q : Value → Shared → Prop) E', (∀ v tk, RepV Z s.heap v av → Q v { s with toks := tk }) → wpAny W.M A t Q E' s) : Gives W A Z s t av :=
  fun Q E' q => wpAny_with_toks (Nat.le_refl _) (h _ _ fun v tk r htk => q v _ Z (.toks I tk htk) r)
theorem Gives.bind {t : Sem Value} {k : Value → Sem Value} {a b : AV} (h : Gives W A Z s t a) (hk : ∀ v s₁ Z₁, Step W .none Z s Z₁ s₁ → RepV Z₁ s₁.heap v a → Gives W A Z₁ s₁ (k v) b) : Gives W A Z s (t >>= k) b :=
  fun Q E' q => wpAny_bind (h _ _ fun v s₁ Z₁ p r => hk v s₁ Z₁ p r _ _ fun w s₂ Z₂ p₂ r₂ => q w s₂ Z₂ (p.tr p₂) r₂)
theorem Gives.seq {t : Sem Value} {Q : Value → Shared → Prop} {E' : Value → Shared → Prop} {a : AV} (h : Gives W A Z s t a) (q : ∀ rv s' Z', Step W .none Z s Z' s' → RepV Z' s'.heap rv a → Q rv s') : wpAny W.M A t Q E' s := h Q E' q
-- constants
theorem den_int (i : Int) (k : Nat) (pos : Pos) : DenP W d sc (.Constant (.int i) k pos) fun _ => some (.int i) := by
  intro A env Z s ρ α av hr hE I L hf; cases hf
  exact .val I fun Q E' q => wpAny_Constant_int (q _ _ (.int _ _))
theorem den_str (x : Str) (k : Nat) (pos : Pos) : DenP W d sc (.Constant (.str x) k pos) fun _ => some (.str x) := by
  intro A env Z s ρ α av hr hE I L hf; cases hf
  exact .val I fun Q E' q => wpAny_Constant_str (q _ _ (.str _ _))
theorem den_bool (b : Bool) (k : Nat) (pos : Pos) : DenP W d sc (.Constant (.bool b) k pos) fun _ => some (.bool b) := by
  intro A env Z s ρ α av hr hE I L hf; cases hf
  exact .val I fun Q E' q => wpAny_Constant_bool (q _ s.toks (.bool b))
-- names
def getV (ρ : Slots) (x : Str) : Option AV := match ρ x with | some (.val v) => some v | _ => none
theorem getV_eq {x : Str} {av : AV} (h : getV ρ x = some av) : ρ x = some (.val av) := by
  unfold getV at h
  split at h
  · cases h; assumption
  · cases h
theorem den_name (x : Str) (pos : Pos) (h1 : (x == ("__debug__" : Str)) = false) (h2 : (x == ("__classdict__" : Str)) = false) : DenP W d sc (.Name x pos) fun ρ => getV ρ x := by
  intro A env Z s ρ α av hr hE I L hf
  exact .val I fun Q E' q => wpAny_Name (L.load hE (getV_eq hf) (fun v r => q v s.toks r) h2) h1
def Wd.Glob (W : Wd) (x : Str) (v : Value) : Prop := nsIn W.K mainGlobals x = some (some v) ∨ (nsIn W.K mainGlobals x = some none ∧ bootBuiltins x = some v ∧ x ≠ "__name__")
theorem load_glob {x : Str} {pos : Pos} {v : Value} {Q : Value → Shared → Prop} {E' : Value → Shared → Prop} (hE : EnvOk env sc) (I : Inv W Z s) (hg : W.Glob x v) (hk : sc.names.lookup x = some .globalImplicit) (h1 : (x == ("__debug__" : Str)) = false) (q : Q v s) :
    wpAny W.M A (eval (.Name x pos) env) Q E' s := by
  refine Calls.Name_function_global hE.kfn ((hE.kind x).trans hk) ?_ h1
  rcases hg with e | ⟨e, hb, hn⟩
  · exact Calls.loadGlobal_global (hE.globals ▸ I.g) (mg_of I.ok.kin I.ok.g e) q
  · exact Calls.loadGlobal_builtin (hE.globals ▸ I.g) (mg_none_of I.ok.kin I.ok.g e) (hE.builtins ▸ I.b) ((I.ok.builtins x hn).trans hb) q
def repStr (x : Str) (n : Int) : Str := ⟨(List.replicate n.toNat x.cps.toList).flatten.toArray⟩
def AV.int? : AV → Option Int
  | .int i => some i
  | _ => Option.none
def AV.str? : AV → Option Str
  | .str i => some i
  | _ => Option.none
def AV.lst? : AV → Option (List AV)
  | .lst i => some i
  | _ => Option.none
theorem int?_eq {a : AV} {i : Int} (e : a.int? = some i) : a = .int i := by cases a <;> cases e; rfl
theorem str?_eq {a : AV} {i : Str} (e : a.str? = some i) : a = .str i := by cases a <;> cases e; rfl
theorem lst?_eq {a : AV} {i : List AV} (e : a.lst? = some i) : a = .lst i := by cases a <;> cases e; rfl
theorem int?_rep {h : Heap} {v : Value} {a : AV} {i : Int} (e : a.int? = some i) (r : RepV Z h v a) : ∃ t, v = .int i t := (int?_eq e ▸ r).int'
theorem str?_rep {h : Heap} {v : Value} {a : AV} {i : Str} (e : a.str? = some i) (r : RepV Z h v a) : ∃ t, v = .str i t := (str?_eq e ▸ r).str'
theorem lst?_rep {h : Heap} {v : Value} {a : AV} {l : List AV} (e : a.lst? = some l) (r : RepV Z h v a) : ∃ a vs, v = .ref a ∧ Z a ∧ h.IsList a vs.toArray ∧ RepVs Z h vs l := (lst?_eq e ▸ r).lst'
theorem iteO {β : Type} {p : Prop} [Decidable p] {x : Option β} {c : β} (h : (if p then x else none) = some c) : p ∧ x = some c := by
  by_cases hp : p
  · rw [if_pos hp] at h; exact ⟨hp, h⟩
  · rw [if_neg hp] at h; cases h
def addA : AV → AV → Option AV
  | .int a, y => y.int? >>= fun b => some (.int (a + b))
  | .str x, y => y.str? >>= fun y => if x.length + y.length ≤ 16777216 then some (.str (x ++ y)) else none
  | .lst x, y => y.lst? >>= fun y => if x.length + y.length ≤ 16777216 then some (.lst (x ++ y)) else none
  | _, _ => none
def multA : AV → AV → Option AV
  | .int a, y => y.int? >>= fun b => if a.natAbs < 1073741824 ∧ b.natAbs < 1073741824 then some (.int (a * b)) else none
  | .str x, y => y.int? >>= fun n => if n < 16777216 ∧ -16777216 < n ∧ x.length * n.toNat ≤ 16777216 then some (.str (repStr x n)) else none
  | .lst x, y => y.int? >>= fun n => if n < 16777216 ∧ -16777216 < n ∧ x.length * n.toNat ≤ 16777216 then some (.lst (List.replicate n.toNat x).flatten) else none
  | _, _ => none
def binA : Operator → AV → AV → Option AV
  | .Add, x, y => addA x y
  | .Sub, x, y => x.int? >>= fun a => y.int? >>= fun b => some (.int (a - b))
  | .FloorDiv, x, y => x.int? >>= fun a => y.int? >>= fun b => if b ≠ 0 ∧ b.natAbs < 1073741824 then some (.int (a.fdiv b)) else none
  | .Mod, x, y => x.int? >>= fun a => y.int? >>= fun b => if b ≠ 0 then some (.int (a.fmod b)) else none
  | .Mult, x, y => multA x y
  | _, _, _ => none
end
end Mine
end
section
set_option linter.unusedVariables false
namespace Mine
section
variable {W : Wd} {Z Z' Z₁ : AddrSet} {s s' s₁ : Shared} {env : Env} {sc : Scope} {ρ : Slots} {α : Str → Addr} {A : Around} {d : Nat}
theorem push_keep (h : Heap) (o : Obj) : ∀ b o', h.get? b = some o' → (h.push o).get? b = some o' := fun _ _ e => Heap.get?_push_of_some o e
theorem push_none (h : Heap) : h.get? h.objs.size = none := by
  cases e : h.get? h.objs.size with
  | none => rfl
  | some o => exact absurd (Heap.lt_size e) (Nat.lt_irrefl _)
theorem Gives.newLst (I : Inv W Z s) {t : Sem Value} {vs : List Value} {l : List AV} {n : Nat} (r : RepVs Z s.heap vs l)
    (h : ∀ (Q : Value → Shared → Prop) E', (∀ tk, Q (.ref s.heap.objs.size) { s with heap := s.heap.push { cls := .type "list", data := .seq vs.toArray n }, toks := tk }) → wpAny W.M A t Q E' s) : Gives W A Z s t (.lst l) :=
  fun Q E' q => wpAny_with_toks (Nat.le_refl _) (h _ _ fun tk (htk : s.toks ≤ tk) => by
    have hg := Heap.get?_push_size s.heap (o := { cls := .type "list", data := .seq vs.toArray n }) rfl
    exact q _ _ _ (.grow1 I (push_keep _ _) (push_none _) hg) (.lst (.inr rfl) ⟨_, hg, rfl, n, rfl⟩ (r.mono (fun _ z => .inl z) fun a o _ e => push_keep _ _ _ _ e)))
theorem Gives.newTup (I : Inv W Z s) {t : Sem Value} {vs : List Value} {l : List AV} {n : Nat} (r : RepVs Z s.heap vs l)
    (h : ∀ (Q : Value → Shared → Prop) E', (∀ tk, Q (.ref s.heap.objs.size) { s with heap := s.heap.push { cls := .type "tuple", data := .seq vs.toArray n }, toks := tk }) → wpAny W.M A t Q E' s) : Gives W A Z s t (.tup l) :=
  fun Q E' q => wpAny_with_toks (Nat.le_refl _) (h _ _ fun tk (htk : s.toks ≤ tk) => by
    have hg := Heap.get?_push_size s.heap (o := { cls := .type "tuple", data := .seq vs.toArray n }) rfl
    exact q _ _ _ (.grow1 I (push_keep _ _) (push_none _) hg) (.tup (.inr rfl) ⟨_, hg, rfl, n, rfl⟩ (r.mono (fun _ z => .inl z) fun a o _ e => push_keep _ _ _ _ e)))
theorem intBits_small {a : Int} (h : a.natAbs < 1073741824) : Builtin.Int.intBits a ≤ 64 := by
  unfold Builtin.Int.intBits
  split
  · (first | lia | omega)
  · have : a.natAbs.log2 < 30 := by
      rw [Nat.log2_lt (by rename_i q; intro e; exact q (by simpa using e))]; (first | lia | omega)
    (first | lia | omega)
theorem repStr_one (x : Str) : repStr x 1 = x := by
  obtain ⟨c⟩ := x
  simp [repStr]
theorem foldl_app (l : List (Array Nat)) (acc : Array Nat) : l.foldl (· ++ ·) acc = acc ++ (l.map Array.toList).flatten.toArray := by
  induction l generalizing acc with
  | nil => simp
  | cons a r ih => rw [List.foldl_cons, ih]; apply Array.toList_inj.mp; simp
theorem repStr_eq (x : Str) (n : Int) : (⟨(List.replicate n.toNat x.cps).foldl (· ++ ·) #[]⟩ : Str) = repStr x n := by
  rw [foldl_app]; simp [repStr]
theorem repStr_length (x : Str) (n : Int) : (repStr x n).length = n.toNat * x.length := by
  simp [repStr, Str.length]
theorem repStr_neg (x : Str) {n : Int} (h : n < 1) : repStr x n = Str.empty := by
  have : n.toNat = 0 := by (first | lia | omega)
  simp [repStr, this, Str.empty]
theorem foldl_appV (l : List (Array Value)) (acc : Array Value) : l.foldl (· ++ ·) acc = acc ++ (l.map Array.toList).flatten.toArray := by
  induction l generalizing acc with
  | nil => simp
  | cons a r ih => rw [List.foldl_cons, ih]; apply Array.toList_inj.mp; simp
theorem RepVs.rep {h : Heap} {vs : List Value} {l : List AV} (r : RepVs Z h vs l) : ∀ n : Nat, RepVs Z h (List.replicate n vs).flatten (List.replicate n l).flatten
  | 0 => .nil
  | n + 1 => by simp only [List.replicate_succ, List.flatten_cons]; exact r.append (r.rep n)
theorem mul_list_gives (I : Inv W Z s) {a : Addr} {vs : List Value} {l : List AV} {n : Int} {u : Tok} (hl : s.heap.IsList a vs.toArray) (r : RepVs Z s.heap vs l) (h1 : n < 16777216) (h2 : -16777216 < n) (h3 : vs.length * n.toNat ≤ 16777216) :
    Gives W A Z s (binaryOp .Mult (.ref a) (.int n u)) (.lst (List.replicate n.toNat l).flatten) := by
  obtain ⟨⟨cls, dd, data, sl⟩, ho, hc, k, hd⟩ := hl
  simp only at hc hd
  subst hc hd
  refine .newLst (vs := (List.replicate n.toNat vs).flatten) (n := 0) I (r.rep _) fun Q E' q => ?_
  refine wpAny_binaryOp_repeat_ref (T := "list") (U := "int") (by decide) ⟨_, ho, rfl⟩ (fun s' => typeIs_int s' n u) noFill_list_mul F.fills_int_mul F.slot_int_rmul repeat_list F.slot_int_index.lookup
    (call_meets F.slot_int_rmul (typeIs_int s n u) F.entry_int_rmul (F.args_int_rmul_2 _ _) (lm_int_rmul_list_any n u a vs.toArray k dd sl)
      ⟨ho, rfl, ⟨_, ho, rfl⟩, call_meets F.slot_list_mul ⟨_, ho, rfl⟩ F.entry_list_mul (F.args_list_mul_2 _ _)
        (lm_list_mul_any a vs.toArray k dd sl n u (by simp [Builtin.List.listFitsIndex]; (first | lia | omega)) (by simp only [List.size_toArray]; (first | lia | omega)) (by simp only [Builtin.List.listTooLong, sizeLine, List.size_toArray]; simp; (first | lia | omega))) ⟨ho, ?_⟩⟩)
  have e : List.foldl (fun x1 x2 => x1 ++ x2) #[] (List.replicate (if vs.toArray.isEmpty = true then 0 else n.toNat) vs.toArray) = (List.replicate n.toNat vs).flatten.toArray := by
    rw [foldl_appV]
    cases vs with
    | nil => simp
    | cons v r => simp
  rw [e]
  exact q _
theorem add_list_gives (I : Inv W Z s) {a b : Addr} {vs ws : List Value} {l m : List AV} (hl : s.heap.IsList a vs.toArray) (hb : s.heap.IsList b ws.toArray) (r : RepVs Z s.heap vs l) (r' : RepVs Z s.heap ws m) (hz : vs.length + ws.length ≤ 16777216) :
    Gives W A Z s (binaryOp .Add (.ref a) (.ref b)) (.lst (l ++ m)) := by
  obtain ⟨⟨cls, dd, data, sl⟩, ho, hc, k, hd⟩ := hl
  obtain ⟨⟨cls2, dd2, data2, sl2⟩, ho2, hc2, k2, hd2⟩ := hb
  simp only at hc hd hc2 hd2
  subst hc hd hc2 hd2
  refine .newLst (vs := vs ++ ws) (n := 0) I (r.append r') fun Q E' q => ?_
  refine concat_meets ⟨_, ho, rfl⟩ ⟨_, ho2, rfl⟩ noFill_list_add seq_list_add F.slot_list_add F.entry_list_add (F.args_list_add_2 _ _) (list_addW a b vs.toArray ws.toArray k k2 dd dd2 sl sl2 (by simpa [sizeLine] using hz)) ⟨ho, ho2, ?_⟩
  have e : vs.toArray ++ ws.toArray = (vs ++ ws).toArray := by simp
  rw [e]
  exact q _
theorem mul_str_gives (I : Inv W Z s) {x : Str} {n : Int} {t t' : Tok} (h1 : n < 16777216) (h2 : -16777216 < n) (h3 : x.length * n.toNat ≤ 16777216) : Gives W A Z s (binaryOp .Mult (.str x t) (.int n t')) (.str (repStr x n)) := by
  refine .val I fun Q E' q => P.mul_str (by rw [decide_eq_false (by (first | lia | omega)), decide_eq_false (by (first | lia | omega))]; rfl) (fun p1 p2 => ?_) (fun p1 p2 => ?_) ?_
  · have hx : (x.length : Int) * n ≤ 16777216 := by
      have hn : (n.toNat : Int) = n := by (first | lia | omega)
      have := Int.ofNat_le.mpr h3
      rw [Int.natCast_mul, hn] at this
      exact this
    have : (x.length : Int) ≤ (2 ^ 63 - 1) / n := by
      rw [Int.le_ediv_iff_mul_le (by (first | lia | omega))]; (first | lia | omega)
    (first | lia | omega)
  · unfold Builtin.Str.tooLong; exact decide_eq_false (by unfold sizeLine; (first | lia | omega))
  · split
    · rename_i hn; rw [repStr_neg x hn] at q; exact ⟨by decide, q _ _ (.str _ _)⟩
    · split
      · rename_i hn ho
        have e : repStr x n = x := by
          rcases Bool.or_eq_true_iff.mp ho with ho | ho
          · rw [show n = 1 by simpa using ho]; exact repStr_one x
          · have hx : x.cps = #[] := by simpa [Str.length] using ho
            obtain ⟨c⟩ := x
            simp at hx
            subst hx
            simp [repStr]
        rw [e] at q; exact q _ s.toks (.str _ _)
      · rw [repStr_eq]
        exact ⟨by rw [repStr_length]; unfold sizeLine; rw [Nat.mul_comm]; exact h3, q _ _ (.str _ _)⟩
theorem addA_ok (I : Inv W Z s) {a b c : AV} {va vb : Value} (ra : RepV Z s.heap va a) (rb : RepV Z s.heap vb b) (h : addA a b = some c) : Gives W A Z s (binaryOp .Add va vb) c := by
  cases a with
  | int i =>
    obtain ⟨j, hj, h⟩ := bindO h; cases h
    obtain ⟨t, rfl⟩ := ra.int'; obtain ⟨t', rfl⟩ := int?_rep hj rb
    exact .val I fun Q E' q => add_int (q _ _ (.int _ _))
  | str x =>
    obtain ⟨y, hj, h⟩ := bindO h; obtain ⟨hc, h⟩ := iteO h; cases h
    obtain ⟨t, rfl⟩ := ra.str'; obtain ⟨t', rfl⟩ := str?_rep hj rb
    exact .val I fun Q E' q => add_str (fun t' tk => q _ _ (.str _ _)) hc
  | lst x =>
    obtain ⟨y, hj, h⟩ := bindO h; obtain ⟨hc, h⟩ := iteO h; cases h
    obtain ⟨a, vs, rfl, z1, hl, rl⟩ := ra.lst'; obtain ⟨a', vs', rfl, z2, hm, rm⟩ := lst?_rep hj rb
    exact add_list_gives I hl hm rl rm (by rw [rl.length, rm.length]; exact hc)
  | _ => cases h
theorem multA_ok (I : Inv W Z s) {a b c : AV} {va vb : Value} (ra : RepV Z s.heap va a) (rb : RepV Z s.heap vb b) (h : multA a b = some c) : Gives W A Z s (binaryOp .Mult va vb) c := by
  cases a with
  | int i =>
    obtain ⟨j, hj, h⟩ := bindO h; obtain ⟨hc, h⟩ := iteO h; cases h
    obtain ⟨t, rfl⟩ := ra.int'; obtain ⟨t', rfl⟩ := int?_rep hj rb
    exact .val I fun Q E' q => mul_int (q _ _ (.int _ _)) (.of_left (intBits_small hc.1))
  | str x =>
    obtain ⟨y, hj, h⟩ := bindO h; obtain ⟨hc, h⟩ := iteO h; cases h
    obtain ⟨t, rfl⟩ := ra.str'; obtain ⟨t', rfl⟩ := int?_rep hj rb
    exact mul_str_gives I hc.1 hc.2.1 hc.2.2
  | lst x =>
    obtain ⟨y, hj, h⟩ := bindO h; obtain ⟨hc, h⟩ := iteO h; cases h
    obtain ⟨a, vs, rfl, z1, hl, rl⟩ := ra.lst'; obtain ⟨t', rfl⟩ := int?_rep hj rb
    exact mul_list_gives I hl rl hc.1 hc.2.1 (by rw [rl.length]; exact hc.2.2)
  | _ => cases h
theorem binA_ok (I : Inv W Z s) {op : Operator} {a b c : AV} {va vb : Value} (ra : RepV Z s.heap va a) (rb : RepV Z s.heap vb b) (h : binA op a b = some c) : Gives W A Z s (binaryOp op va vb) c := by
  have two : ∀ {f : Int → Int → Option AV}, (a.int? >>= fun i => b.int? >>= fun j => f i j) = some c → ∃ i j t t', va = .int i t ∧ vb = .int j t' ∧ f i j = some c := fun h => by
    obtain ⟨i, hi, h⟩ := bindO h
    obtain ⟨j, hj, h⟩ := bindO h
    obtain ⟨t, e⟩ := int?_rep hi ra
    obtain ⟨t', e'⟩ := int?_rep hj rb
    exact ⟨i, j, t, t', e, e', h⟩
  cases op with
  | Add => exact addA_ok I ra rb h
  | Mult => exact multA_ok I ra rb h
  | Sub => obtain ⟨i, j, t, t', rfl, rfl, h⟩ := two h; cases h; exact .val I fun Q E' q => sub_int (q _ _ (.int _ _))
  | FloorDiv => obtain ⟨i, j, t, t', rfl, rfl, h⟩ := two h; obtain ⟨hc, h⟩ := iteO h; cases h; exact .val I fun Q E' q => floordiv_int hc.1 (q _ _ (.int _ _)) (.inl (PyProof.noPylong_small hc.2))
  | Mod => obtain ⟨i, j, t, t', rfl, rfl, h⟩ := two h; obtain ⟨hc, h⟩ := iteO h; cases h; exact .val I fun Q E' q => mod_int' hc (q _ _ (.int _ _))
  | _ => cases h
theorem den_bin {l r : Expr} {op : Operator} {pos : Pos} {f g : Slots → Option AV} (hl : DenP W d sc l f) (hr : DenP W d sc r g) :
    DenP W d sc (.BinOp l op r pos) fun ρ => f ρ >>= fun a => g ρ >>= fun b => binA op a b := by
  intro A env Z s ρ α av R hE I L hf Q E' q
  obtain ⟨a, ha, hf⟩ := bindO hf
  obtain ⟨b, hb, hf⟩ := bindO hf
  exact wpAny_BinOp (hl A env Z s ρ α a R hE I L ha _ _ fun va s₁ Z₁ p₁ r₁ => hr A env Z₁ s₁ ρ α b R hE p₁.inv (L.step0 p₁) hb _ _ fun vb s₂ Z₂ p₂ r₂ =>
    binA_ok p₂.inv (p₂.rep0 r₁) r₂ hf _ _ fun v s₃ Z₃ p₃ r₃ => q v s₃ Z₃ (p₁.tr (p₂.tr p₃)) r₃)
end
end Mine
end
section
open PySem PySem.W PyProof.Rows PySem.SeqAt
set_option linter.unusedVariables false
namespace Mine
section
variable {W : Wd} {Z Z' Z₁ : AddrSet} {s s' s₁ : Shared} {env : Env} {sc : Scope} {ρ : Slots} {α : Str → Addr} {A : Around} {d : Nat}
def baseA : AV → Bool
  | .none => true
  | .bool _ => true
  | .int _ => true
  | .str _ => true
  | _ => false
def dat : Nat → AV → Bool
  | 0, a => baseA a
  | n + 1, a => match a with
    | .tup l => l.all (dat n)
    | .lst l => l.all (dat n)
    | a => baseA a
theorem RepVs.get2 {h : Heap} {vs ws : List Value} {l : List AV} (r : RepVs Z h vs l) (q : RepVs Z h ws l) {j : Nat} (h1 : j < vs.length) (h2 : j < ws.length) : ∃ a ∈ l, RepV Z h vs[j] a ∧ RepV Z h ws[j] a := by
  have hj : j < l.length := by rw [← r.length]; exact h1
  obtain ⟨v, e1, r1⟩ := r.get (List.getElem?_eq_getElem hj)
  obtain ⟨w, e2, r2⟩ := q.get (List.getElem?_eq_getElem hj)
  rw [List.getElem?_eq_getElem h1] at e1
  rw [List.getElem?_eq_getElem h2] at e2
  cases e1; cases e2
  exact ⟨_, List.getElem_mem hj, r1, r2⟩
theorem all_true (n : Nat) : (List.range n).all (fun _ => true) = true := by rw [List.all_eq_true]; exact fun _ _ => rfl
structure Same3 (A : Around) (s : Shared) (v w : Value) : Prop where
  eq : EqAt A s v w true
  rc : RcAt A s v w true
  ne : RcNeAt A s v w false
theorem base3 {A : Around} {a : AV} {v w : Value} (hd : baseA a = true) (r : RepV Z s.heap v a) (q : RepV Z s.heap w a) : Same3 A s v w := by
  cases a with
  | none => rw [r.none', q.none']; exact ⟨EqAt.same _, RcAt.none_none, RcNeAt.none_none⟩
  | bool b =>
    rw [r.bool', q.bool']
    have h1 := RcAt.bool_bool (A := A) (s := s) b b; have h2 := RcNeAt.bool_bool (A := A) (s := s) b b
    rw [beq_self_eq_true] at h1 h2
    exact ⟨EqAt.same _, h1, h2⟩
  | int i =>
    obtain ⟨t, rfl⟩ := r.int'; obtain ⟨u, rfl⟩ := q.int'
    have h0 := EqAt.int_int (A := A) (s := s) i t i u; have h1 := RcAt.int_int (A := A) (s := s) i t i u; have h2 := RcNeAt.int_int (A := A) (s := s) i t i u
    rw [beq_self_eq_true] at h0 h1 h2
    exact ⟨h0, h1, h2⟩
  | str i =>
    obtain ⟨t, rfl⟩ := r.str'; obtain ⟨u, rfl⟩ := q.str'
    have h0 := EqAt.str_str (A := A) (s := s) i t i u; have h1 := RcAt.str_str (A := A) (s := s) i t i u; have h2 := RcNeAt.str_str (A := A) (s := s) i t i u
    rw [beq_self_eq_true] at h0 h1 h2
    exact ⟨h0, h1, h2⟩
  | _ => cases hd
theorem tup3 {a1 a2 : Addr} {vs ws : List Value} (h1 : IsTup s.heap a1 vs.toArray) (h2 : IsTup s.heap a2 ws.toArray) (hl : vs.length = ws.length) (hu : A.units < cLine)
    (he : ∀ j, (g1 : j < vs.toArray.size) → (g2 : j < ws.toArray.size) → EqAt A.in1 s vs.toArray[j] ws.toArray[j] true) : Same3 A s (.ref a1) (.ref a2) := by
  have q1 := RcAt.tuples (A := A) (e := fun _ => true) h1 h2 hu he
  have q2 := RcNeAt.tuples (A := A) (e := fun _ => true) h1 h2 hu he
  simp only [List.size_toArray, hl, all_true, beq_self_eq_true, Bool.and_self, Bool.and_true, Nat.min_self, Bool.not_true] at q1 q2
  refine ⟨?_, q1, q2⟩
  by_cases e : a1 = a2
  · subst e; exact EqAt.same _
  · exact EqAt.of_refs e q1
theorem lst3 {a1 a2 : Addr} {vs ws : List Value} (h1 : s.heap.IsList a1 vs.toArray) (h2 : s.heap.IsList a2 ws.toArray) (hl : vs.toArray.size = ws.toArray.size) (hu : A.units < cLine)
    (he : ∀ j, (g1 : j < vs.toArray.size) → (g2 : j < ws.toArray.size) → EqAt A.in1 s vs.toArray[j] ws.toArray[j] true) : Same3 A s (.ref a1) (.ref a2) := by
  have q1 := RcAt.lists (A := A) (e := fun _ => true) h1 h2 hl hu he
  have q2 := RcNeAt.lists (A := A) (e := fun _ => true) h1 h2 hl hu he
  simp only [all_true, Bool.not_true] at q1 q2
  refine ⟨?_, q1, q2⟩
  by_cases e : a1 = a2
  · subst e; exact EqAt.same _
  · exact EqAt.of_refs e q1
theorem same3 (n : Nat) {A : Around} {a : AV} {v w : Value} (hd : dat n a = true) (r : RepV Z s.heap v a) (q : RepV Z s.heap w a) (hu : A.units + n + 1 < cLine) : Same3 A s v w := by
  induction n generalizing A a v w with
  | zero => exact base3 hd r q
  | succ n ih =>
    have el : ∀ {l : List AV} {vs ws : List Value}, l.all (dat n) = true → RepVs Z s.heap vs l → RepVs Z s.heap ws l → ∀ j, (g1 : j < vs.toArray.size) → (g2 : j < ws.toArray.size) → EqAt A.in1 s vs.toArray[j] ws.toArray[j] true := fun hd r1 r2 j g1 g2 => by
      obtain ⟨a, ha, ra, qa⟩ := r1.get2 r2 g1 g2
      exact (ih (List.all_eq_true.mp hd a ha) ra qa (by show A.units + 1 + n + 1 < cLine; (first | lia | omega))).eq
    cases a with
    | tup l =>
      obtain ⟨a1, vs, rfl, _, h1, r1⟩ := r.tup'
      obtain ⟨a2, ws, rfl, _, h2, r2⟩ := q.tup'
      exact tup3 h1 h2 (r1.length.trans r2.length.symm) (by (first | lia | omega)) (el hd r1 r2)
    | lst l =>
      obtain ⟨a1, vs, rfl, _, h1, r1⟩ := r.lst'
      obtain ⟨a2, ws, rfl, _, h2, r2⟩ := q.lst'
      exact lst3 h1 h2 (r1.length.trans r2.length.symm) (by (first | lia | omega)) (el hd r1 r2)
    | _ => refine base3 ?_ r q; exact hd
end
end Mine
end
section
open PySem PySem.W PyProof.Rows PySem.SeqAt
set_option linter.unusedVariables false
namespace Mine
section
variable {W : Wd} {Z Z' Z₁ : AddrSet} {s s' s₁ : Shared} {env : Env} {sc : Scope} {ρ : Slots} {α : Str → Addr} {A : Around} {d : Nat}
def inStr (y x : Str) : Bool := !(Builtin.Str.occurrences x y 0 x.length 1).isEmpty
def intsOf : List AV → Option (List Int)
  | [] => some []
  | .int i :: r => (intsOf r).map (i :: ·)
  | _ :: _ => none
def isNoneA : AV → Option Bool
  | .none => some true
  | .bool _ => some false
  | .int _ => some false
  | .str _ => some false
  | _ => none
def eqI (i : Int) : AV → Option Bool
  | .int j => some (i == j)
  | .str _ => some false
  | .none => some false
  | _ => none
def eqS (x : Str) : AV → Option Bool
  | .int _ => some false
  | .str y => some (x == y)
  | .none => some false
  | _ => none
def eqN : AV → Option Bool
  | .int _ => some false
  | .str _ => some false
  | .none => some true
  | _ => none
def eqB (p : Bool) : AV → Option Bool
  | .bool q => some (p == q)
  | _ => none
open Classical in
noncomputable def eqL (a : List AV) (y : AV) : Option Bool := y.lst? >>= fun b => if a = b ∧ dat 8 (.lst a) = true then some true else if a.length ≠ b.length then some false else none
open Classical in
noncomputable def sameA (a b : AV) : Option Bool := if a = b ∧ dat 8 a = true then some true else none
noncomputable def eqA : AV → AV → Option Bool
  | .int a, y => eqI a y
  | .str a, y => eqS a y
  | .bool a, y => eqB a y
  | .none, y => eqN y
  | .lst a, y => eqL a y
  | a, b => sameA a b
def inA : AV → AV → Option Bool
  | .str y, b => b.str? >>= fun x => some (inStr y x)
  | .int i, b => b.lst? >>= fun l => (intsOf l).map fun ns => decide (i ∈ ns)
  | _, _ => none
def ofNone (r : Option Bool) : AV → Option Bool
  | .none => r
  | _ => none
def int2 (a b : AV) (f : Int → Int → Bool) : Option Bool := a.int? >>= fun i => b.int? >>= fun j => some (f i j)
noncomputable def cmpA : CmpOp → AV → AV → Option Bool
  | .Eq, a, b => eqA a b
  | .NotEq, a, b => (eqA a b).map (!·)
  | .Lt, a, b => int2 a b fun a b => decide (a < b)
  | .LtE, a, b => int2 a b fun a b => decide (a ≤ b)
  | .Gt, a, b => int2 a b fun a b => decide (b < a)
  | .GtE, a, b => int2 a b fun a b => decide (b ≤ a)
  | .Is, a, b => ofNone (isNoneA a) b
  | .IsNot, a, b => ofNone ((isNoneA a).map (!·)) b
  | .In, a, b => inA a b
  | .NotIn, a, b => a.str? >>= fun y => b.str? >>= fun x => some (!inStr y x)
theorem eq_rc {Q : Value → Shared → Prop} {E' : Value → Shared → Prop} {v w : Value} {b : Bool} (h : RcAt A s v w b) (q : Q (.bool b) s) : wpAny W.M A (compareOp .Eq v w) Q E' s := h _ _ _ _ q
theorem ne_rc {Q : Value → Shared → Prop} {E' : Value → Shared → Prop} {v w : Value} {b : Bool} (h : RcNeAt A s v w b) (q : Q (.bool b) s) : wpAny W.M A (compareOp .NotEq v w) Q E' s := h _ _ _ _ q
def Rc2 (A : Around) (s : Shared) (v w : Value) (c : Bool) : Prop := RcAt A s v w c ∧ RcNeAt A s v w (!c)
theorem eqI_rc {i : Int} {t : Tok} {b : AV} {vb : Value} {c : Bool} (rb : RepV Z s.heap vb b) (h : eqI i b = some c) : Rc2 A s (.int i t) vb c := by
  cases b with
  | int j => cases h; obtain ⟨t', rfl⟩ := rb.int'; exact ⟨RcAt.int_int _ _ _ _, RcNeAt.int_int _ _ _ _⟩
  | str y => cases h; obtain ⟨t', rfl⟩ := rb.str'; exact ⟨RcAt.int_str _ _ _ _, RcNeAt.int_str _ _ _ _⟩
  | none => cases h; rw [rb.none']; exact ⟨RcAt.int_none _ _, RcNeAt.int_none _ _⟩
  | _ => cases h
theorem eqS_rc {i : Str} {t : Tok} {b : AV} {vb : Value} {c : Bool} (rb : RepV Z s.heap vb b) (h : eqS i b = some c) : Rc2 A s (.str i t) vb c := by
  cases b with
  | int j => cases h; obtain ⟨t', rfl⟩ := rb.int'; exact ⟨RcAt.str_int _ _ _ _, RcNeAt.str_int _ _ _ _⟩
  | str y => cases h; obtain ⟨t', rfl⟩ := rb.str'; exact ⟨RcAt.str_str _ _ _ _, RcNeAt.str_str _ _ _ _⟩
  | none => cases h; rw [rb.none']; exact ⟨RcAt.str_none _ _, RcNeAt.str_none _ _⟩
  | _ => cases h
theorem eqN_rc {b : AV} {vb : Value} {c : Bool} (rb : RepV Z s.heap vb b) (h : eqN b = some c) : Rc2 A s .none vb c := by
  cases b with
  | int j => cases h; obtain ⟨t', rfl⟩ := rb.int'; exact ⟨RcAt.none_int _ _, RcNeAt.none_int _ _⟩
  | str y => cases h; obtain ⟨t', rfl⟩ := rb.str'; exact ⟨RcAt.none_str _ _, RcNeAt.none_str _ _⟩
  | none => cases h; rw [rb.none']; exact ⟨RcAt.none_none, RcNeAt.none_none⟩
  | _ => cases h
theorem eqB_rc {p : Bool} {b : AV} {vb : Value} {c : Bool} (rb : RepV Z s.heap vb b) (h : eqB p b = some c) : Rc2 A s (.bool p) vb c := by
  cases b with
  | bool q => cases h; rw [rb.bool']; exact ⟨RcAt.bool_bool _ _, RcNeAt.bool_bool _ _⟩
  | _ => cases h
theorem same_rc {a : AV} {va vb : Value} (hu : A.units + 50 < cLine) (hd : dat 8 a = true) (ra : RepV Z s.heap va a) (rb : RepV Z s.heap vb a) : Rc2 A s va vb true :=
  have h := same3 8 hd ra rb (A := A) (by (first | lia | omega))
  ⟨h.rc, h.ne⟩
theorem eqL_rc {l : List AV} {b : AV} {va vb : Value} {c : Bool} (hu : A.units + 50 < cLine) (ra : RepV Z s.heap va (.lst l)) (rb : RepV Z s.heap vb b) (h : eqL l b = some c) : Rc2 A s va vb c := by
  obtain ⟨m, hm, h⟩ := bindO h
  by_cases hc : l = m ∧ dat 8 (.lst l) = true
  · rw [if_pos hc] at h; cases h
    have := lst?_eq hm
    subst this
    exact same_rc hu hc.2 ra (hc.1 ▸ rb)
  · rw [if_neg hc] at h
    obtain ⟨hl, h⟩ := iteO h; cases h
    obtain ⟨a1, vs, rfl, _, h1, r1⟩ := ra.lst'
    obtain ⟨a2, ws, rfl, _, h2, r2⟩ := lst?_rep hm rb
    have hn : (vs.toArray.size != ws.toArray.size) = true := by rw [List.size_toArray, List.size_toArray, r1.length, r2.length]; exact bne_iff_ne.mpr hl
    exact ⟨RcAt.lists_lengths h1 h2 hn (by (first | lia | omega)), RcNeAt.lists_lengths h1 h2 hn (by (first | lia | omega))⟩
theorem sameA_rc {a b : AV} {va vb : Value} {c : Bool} (hu : A.units + 50 < cLine) (ra : RepV Z s.heap va a) (rb : RepV Z s.heap vb b) (h : sameA a b = some c) : Rc2 A s va vb c := by
  by_cases hc : a = b ∧ dat 8 a = true
  · rw [sameA, if_pos hc] at h; cases h
    exact same_rc hu hc.2 ra (hc.1 ▸ rb)
  · rw [sameA, if_neg hc] at h; cases h
theorem eqA_rc {a b : AV} {va vb : Value} {c : Bool} (hu : A.units + 50 < cLine) (ra : RepV Z s.heap va a) (rb : RepV Z s.heap vb b) (h : eqA a b = some c) : RcAt A s va vb c ∧ RcNeAt A s va vb (!c) := by
  cases a with
  | int i => obtain ⟨t, rfl⟩ := ra.int'; exact eqI_rc rb h
  | str i => obtain ⟨t, rfl⟩ := ra.str'; exact eqS_rc rb h
  | none => rw [ra.none']; exact eqN_rc rb h
  | bool i => rw [ra.bool']; exact eqB_rc rb h
  | lst l => exact eqL_rc hu ra rb h
  | _ => exact sameA_rc hu ra rb h
theorem isNone_rep {a : AV} {v : Value} {b : Bool} {h : Heap} (r : RepV Z h v a) (e : isNoneA a = some b) : (v == .none) = b := by
  cases a with
  | none => cases e; rw [r.none']; rfl
  | bool => cases e; rw [r.bool']; rfl
  | int => cases e; obtain ⟨t, rfl⟩ := r.int'; rfl
  | str => cases e; obtain ⟨t, rfl⟩ := r.str'; rfl
  | _ => cases e
theorem ints_rep {h : Heap} {vs : List Value} {l : List AV} {ns : List Int} (r : RepVs Z h vs l) (e : intsOf l = some ns) : IntsAre vs ns := by
  induction l generalizing vs ns with
  | nil => cases e; rw [r.nil']; exact .nil
  | cons a l ih =>
    obtain ⟨v, ws, rfl, r, rs⟩ := r.cons'
    cases a with
    | int i =>
      obtain ⟨ns, hn, rfl⟩ := Option.map_eq_some_iff.mp e
      obtain ⟨t, rfl⟩ := r.int'
      exact .cons _ _ (ih rs hn)
    | _ => cases e
theorem in_ints {a : Addr} {vs : List Value} {ns : List Int} {i : Int} {t : Tok} {Q : Value → Shared → Prop} {E' : Value → Shared → Prop} (hl : s.heap.IsList a vs.toArray) (hi : IntsAre vs ns) (q : Q (.bool (decide (i ∈ ns))) s) :
    wpAny W.M A (compareOp .In (.int i t) (.ref a)) Q E' s := by
  have key : ∀ {vs : List Value} {ns : List Int}, IntsAre vs ns → vs.any (fun v => match v with | .int k _ => k == i | _ => false) = decide (i ∈ ns) := by
    intro vs ns h
    induction h with
    | nil => rfl
    | cons n t _ ih =>
      rw [List.any_cons, ih]
      by_cases e : n = i
      · subst e; simp
      · have e' : ¬ i = n := fun c => e c.symm
        simp [e, e']
  refine in_listAt (fun v => match v with | .int k _ => k == i | _ => false) hl (fun y hy => ?_) ?_
  · have hy' : y ∈ vs := by simpa using hy
    have : ∃ k u, y = .int k u := by
      clear hl q hy
      induction hi with
      | nil => cases hy'
      | cons n t _ ih =>
        rcases List.mem_cons.mp hy' with e | e
        · exact ⟨n, t, e⟩
        · exact ih e
    obtain ⟨k, u, rfl⟩ := this
    exact EqAt.int_int _ _ _ _
  · have := key hi
    simp only [List.any_toArray]
    rw [this]; exact q
theorem cmp_ints {op : CmpOp} {f : Int → Int → Bool} (hop : ∀ (i j : Int) (t t' : Tok) (Q : Value → Shared → Prop) (E' : Value → Shared → Prop), Q (.bool (f i j)) s → wpAny W.M A (compareOp op (.int i t) (.int j t')) Q E' s) {a b : AV} {c : Bool} {va vb : Value} (ra : RepV Z s.heap va a) (rb : RepV Z s.heap vb b) (h : int2 a b f = some c) {Q : Value → Shared → Prop} {E' : Value → Shared → Prop} (q : Q (.bool c) s) : wpAny W.M A (compareOp op va vb) Q E' s := by
  obtain ⟨i, hi, h⟩ := bindO h
  obtain ⟨j, hj, h⟩ := bindO h
  obtain ⟨t, e⟩ := int?_rep hi ra
  obtain ⟨t', e'⟩ := int?_rep hj rb
  rw [e, e']
  exact hop i j t t' Q E' (Option.some.inj h ▸ q)
theorem ofNone_rep {r : Option Bool} {b : AV} {c : Bool} {vb : Value} {h : Heap} (rb : RepV Z h vb b) (e : ofNone r b = some c) : vb = .none ∧ r = some c := by
  cases b with
  | none => exact ⟨rb.none', e⟩
  | _ => cases e
theorem inA_ok {a b : AV} {c : Bool} {va vb : Value} (ra : RepV Z s.heap va a) (rb : RepV Z s.heap vb b) (h : inA a b = some c) {Q : Value → Shared → Prop} {E' : Value → Shared → Prop} (q : Q (.bool c) s) : wpAny W.M A (compareOp .In va vb) Q E' s := by
  cases a with
  | str y =>
    obtain ⟨x, hx, h⟩ := bindO h
    obtain ⟨t, e⟩ := ra.str'; obtain ⟨t', e'⟩ := str?_rep hx rb
    rw [e, e']
    cases h
    exact in_str q
  | int i =>
    obtain ⟨l, hl, h⟩ := bindO h
    obtain ⟨ns, hn, hc⟩ := Option.map_eq_some_iff.mp h
    obtain ⟨t, e⟩ := ra.int'; obtain ⟨a, vs, e', _, hl, rl⟩ := lst?_rep hl rb
    rw [e, e']
    exact in_ints hl (ints_rep rl hn) (hc ▸ q)
  | _ => cases h
theorem cmpA_ok (hr : Room A d) (I : Inv W Z s) {op : CmpOp} {a b : AV} {c : Bool} {va vb : Value} (ra : RepV Z s.heap va a) (rb : RepV Z s.heap vb b) (h : cmpA op a b = some c) {Q : Value → Shared → Prop} {E' : Value → Shared → Prop} (q : Q (.bool c) s) :
    wpAny W.M A (compareOp op va vb) Q E' s := by
  have hu := hr.ult
  cases op with
  | Eq => exact eq_rc (eqA_rc hu ra rb h).1 q
  | NotEq =>
    obtain ⟨c', hc, e⟩ := Option.map_eq_some_iff.mp h
    exact ne_rc (eqA_rc hu ra rb hc).2 (e ▸ q)
  | Lt => exact cmp_ints (fun _ _ _ _ _ _ q => lt_int q) ra rb h q
  | LtE => exact cmp_ints (fun _ _ _ _ _ _ q => le_int q) ra rb h q
  | Gt => exact cmp_ints (fun _ _ _ _ _ _ q => gt_int q) ra rb h q
  | GtE => exact cmp_ints (fun _ _ _ _ _ _ q => ge_int q) ra rb h q
  | Is => obtain ⟨e, h⟩ := ofNone_rep rb h; rw [e]; exact is_none (by rw [isNone_rep ra h]; exact q)
  | IsNot =>
    obtain ⟨e, h⟩ := ofNone_rep rb h
    obtain ⟨c', hc, e'⟩ := Option.map_eq_some_iff.mp h
    rw [e]
    subst e'
    exact isNot_none (by rw [isNone_rep ra hc]; exact q)
  | NotIn =>
    obtain ⟨y, hy, h⟩ := bindO h
    obtain ⟨x, hx, h⟩ := bindO h
    obtain ⟨t, e⟩ := str?_rep hy ra; obtain ⟨t', e'⟩ := str?_rep hx rb
    rw [e, e']
    cases h
    exact notIn_str q
  | In => exact inA_ok ra rb h q
theorem den_cmp {l r : Expr} {op : CmpOp} {pos : Pos} {f g : Slots → Option AV} (hl : DenP W d sc l f) (hr : DenP W d sc r g) (hm : behindInMarks op r = false) :
    DenP W d sc (.Compare l [op] [r] pos) fun ρ => f ρ >>= fun a => g ρ >>= fun b => (cmpA op a b).map .bool := by
  intro A env Z s ρ α av R hE I L hf Q E' q
  obtain ⟨a, ha, hf⟩ := bindO hf
  obtain ⟨b, hb, hf⟩ := bindO hf
  obtain ⟨c, hc, rfl⟩ := Option.map_eq_some_iff.mp hf
  exact wpAny_Compare1 (hl A env Z s ρ α a R hE I L ha _ _ fun va s₁ Z₁ p₁ r₁ => hr A env Z₁ s₁ ρ α b R hE p₁.inv (L.step0 p₁) hb _ _ fun vb s₂ Z₂ p₂ r₂ =>
    cmpA_ok R p₂.inv (p₂.rep0 r₁) r₂ hc (q _ s₂ Z₂ (p₁.tr p₂) (.bool c))) hm
theorem denT_cmp {l r : Expr} {op : CmpOp} {pos : Pos} {f g : Slots → Option AV} (hl : DenP W d sc l f) (hr : DenP W d sc r g) (hm : behindInMarks op r = false) :
    DenT W d sc (.Compare l [op] [r] pos) fun ρ => f ρ >>= fun a => g ρ >>= fun b => cmpA op a b := by
  intro A env Z s ρ α av R hE I L hf Q E' q
  obtain ⟨a, ha, hf⟩ := bindO hf
  obtain ⟨b, hb, hf⟩ := bindO hf
  exact wpAny_isTrue_Compare1 (hl A env Z s ρ α a R hE I L ha _ _ fun va s₁ Z₁ p₁ r₁ => hr A env Z₁ s₁ ρ α b R hE p₁.inv (L.step0 p₁) hb _ _ fun vb s₂ Z₂ p₂ r₂ =>
    cmpA_ok R p₂.inv (p₂.rep0 r₁) r₂ hf (wpAny_truthy_bool (q s₂ Z₂ (p₁.tr p₂)))) hm
def truthA : AV → Option Bool
  | .none => some false
  | .bool b => some b
  | .int i => some (i != 0)
  | .str x => if x.length ≤ 16777216 then some (x.length != 0) else none
  | .lst l => if l.length ≤ 16777216 then some (!l.isEmpty) else none
  | _ => none
theorem truthA_ok (I : Inv W Z s) {a : AV} {v : Value} {b : Bool} (r : RepV Z s.heap v a) (h : truthA a = some b) : GivesB W A Z s (truthy v) b := by
  intro Q E' q
  cases a with
  | none => cases h; rw [r.none']; exact fun _ _ _ => q s Z (.id I)
  | bool b => cases h; rw [r.bool']; exact wpAny_truthy_bool (q s Z (.id I))
  | int i => cases h; obtain ⟨t, rfl⟩ := r.int'; exact truthy_int (q s Z (.id I))
  | str x =>
    obtain ⟨hx, h⟩ := iteO h; cases h
    obtain ⟨t, rfl⟩ := r.str'
    refine P.truthy_str (by (first | lia | omega)) ?_
    have : ((x.length : Int) != 0) = (x.length != 0) := by
      rw [Bool.eq_iff_iff]; simp
    rw [this]; exact q _ Z (.toks I _)
  | lst l =>
    obtain ⟨hl, h⟩ := iteO h; cases h
    obtain ⟨a, vs, rfl, z, hl', rl⟩ := r.lst'
    refine wpAny_truthy_list hl' (by rw [List.size_toArray, rl.length]; (first | lia | omega)) ?_
    have e : vs.toArray.isEmpty = l.isEmpty := by
      cases l with
      | nil => rw [rl.nil']; rfl
      | cons a l => obtain ⟨v, ws, rfl, _⟩ := rl.cons'; rfl
    rw [e]; exact q _ Z (.toks I _)
  | _ => cases h
theorem denT_val {e : Expr} {f : Slots → Option AV} (hl : DenP W d sc e f) (he : ∀ env whole, isTrue e env whole = (do let v ← whole; standAt e.pos; holding [v] (truthy v))) :
    DenT W d sc e fun ρ => f ρ >>= truthA := by
  intro A env Z s ρ α av R hE I L hf Q E' q
  obtain ⟨a, ha, hf⟩ := bindO hf
  exact wpAny_isTrue_value (hl A env Z s ρ α a R hE I L ha _ _ fun va s₁ Z₁ p₁ r₁ => truthA_ok p₁.inv r₁ hf _ _ fun s₂ Z₂ p₂ => q s₂ Z₂ (p₁.tr p₂)) (he _ _)
theorem denT_not {x : Expr} {pos : Pos} {f : Slots → Option Bool} (hx : DenT W d sc x f) : DenT W d sc (.UnaryOp .Not x pos) fun ρ => (f ρ).map (!·) := by
  intro A env Z s ρ α av R hE I L hf Q E' q
  obtain ⟨b, hb, rfl⟩ := Option.map_eq_some_iff.mp hf
  exact wpAny_isTrue_Not (hx A env Z s ρ α b R hE I L hb _ _ fun s₁ Z₁ p₁ => q s₁ Z₁ p₁)
def DenTs (W : Wd) (d : Nat) (sc : Scope) (op : BoolOp) (es : List Expr) (f : Slots → Option Bool) : Prop :=
  ∀ (A : Around) (env : Env) (Z : AddrSet) (s : Shared) (ρ : Slots) (α : Str → Addr) (b : Bool), Room A d → EnvOk env sc → Inv W Z s → Loc W Z s.heap env ρ α → f ρ = some b → GivesB W A Z s (allTrue op es env) b
theorem denTs_and0 : DenTs W d sc .And [] fun _ => some true := by
  intro A env Z s ρ α av R hE I L hf Q E' q; cases hf; exact wpAny_allTrue_And_nil (q s Z (.id I))
theorem denTs_or0 : DenTs W d sc .Or [] fun _ => some false := by
  intro A env Z s ρ α av R hE I L hf Q E' q; cases hf; exact wpAny_allTrue_Or_nil (q s Z (.id I))
theorem denTs_and {x : Expr} {rest : List Expr} {f g : Slots → Option Bool} (hx : DenT W d sc x f) (hr : DenTs W d sc .And rest g) : DenTs W d sc .And (x :: rest) fun ρ => f ρ >>= fun b => if b = true then g ρ else some false := by
  intro A env Z s ρ α av R hE I L hf Q E' q
  obtain ⟨b, hb, hf⟩ := bindO hf
  refine wpAny_allTrue_And_cons (hx A env Z s ρ α b R hE I L hb _ _ fun s₁ Z₁ p₁ => ?_)
  cases b with
  | true => exact hr A env Z₁ s₁ ρ α av R hE p₁.inv (L.step0 p₁) hf _ _ fun s₂ Z₂ p₂ => q s₂ Z₂ (p₁.tr p₂)
  | false => cases hf; exact q s₁ Z₁ p₁
theorem denTs_or {x : Expr} {rest : List Expr} {f g : Slots → Option Bool} (hx : DenT W d sc x f) (hr : DenTs W d sc .Or rest g) : DenTs W d sc .Or (x :: rest) fun ρ => f ρ >>= fun b => if b = true then some true else g ρ := by
  intro A env Z s ρ α av R hE I L hf Q E' q
  obtain ⟨b, hb, hf⟩ := bindO hf
  refine wpAny_allTrue_Or_cons (hx A env Z s ρ α b R hE I L hb _ _ fun s₁ Z₁ p₁ => ?_)
  cases b with
  | true => cases hf; exact q s₁ Z₁ p₁
  | false => exact hr A env Z₁ s₁ ρ α av R hE p₁.inv (L.step0 p₁) hf _ _ fun s₂ Z₂ p₂ => q s₂ Z₂ (p₁.tr p₂)
theorem denT_bool {op : BoolOp} {es : List Expr} {pos : Pos} {f : Slots → Option Bool} (h : DenTs W d sc op es f) : DenT W d sc (.BoolOp op es pos) f := by
  intro A env Z s ρ α av R hE I L hf Q E' q
  exact wpAny_isTrue_BoolOp (h A env Z s ρ α av R hE I L hf _ _ q)
def DenB (W : Wd) (d : Nat) (sc : Scope) (op : BoolOp) (es : List Expr) (f : Slots → Option AV) : Prop :=
  ∀ (A : Around) (env : Env) (Z : AddrSet) (s : Shared) (ρ : Slots) (α : Str → Addr) (av : AV) (pos : Pos), Room A d → EnvOk env sc → Inv W Z s → Loc W Z s.heap env ρ α → f ρ = some av → Gives W A Z s (boolOp pos op (evalEach es env)) av
theorem denB_one {op : BoolOp} {x : Expr} {f : Slots → Option AV} (hx : DenP W d sc x f) : DenB W d sc op [x] f := by
  intro A env Z s ρ α av pos R hE I L hf
  exact hx A env Z s ρ α av R hE I L hf
theorem denB_and {x y : Expr} {rest : List Expr} {f g : Slots → Option AV} (hx : DenP W d sc x f) (hr : DenB W d sc .And (y :: rest) g) : DenB W d sc .And (x :: y :: rest) fun ρ => f ρ >>= fun a => truthA a >>= fun b => if b = true then g ρ else some a := by
  intro A env Z s ρ α av pos R hE I L hf Q E' q
  obtain ⟨a, ha, hf⟩ := bindO hf
  obtain ⟨b, hb, hf⟩ := bindO hf
  show wpAny _ _ (do let v ← eval x env; standAt pos; let t ← holding [v] (truthy v); match BoolOp.And, t with | .And, false | .Or, true => pure v | _, _ => boolOp pos .And (evalEach (y :: rest) env)) _ _ _
  refine wpAny_bind (hx A env Z s ρ α a R hE I L ha _ _ fun va s₁ Z₁ p₁ r₁ => wpAny_bind (wpAny_standAt (wpAny_bind (wpAny_holding (truthA_ok p₁.inv r₁ hb _ _ fun s₂ Z₂ p₂ => ?_)))))
  cases b with
  | true => exact hr A env Z₂ s₂ ρ α av pos R hE p₂.inv ((L.step0 p₁).step0 p₂) hf _ _ fun v s₃ Z₃ p₃ r₃ => q v s₃ Z₃ (p₁.tr (p₂.tr p₃)) r₃
  | false => cases hf; exact wpAny_pure (q va s₂ Z₂ (p₁.tr p₂) (p₂.rep0 r₁))
theorem den_bool' {op : BoolOp} {es : List Expr} {pos : Pos} {f : Slots → Option AV} (h : DenB W d sc op es f) : DenP W d sc (.BoolOp op es pos) f := by
  intro A env Z s ρ α av R hE I L hf
  show Gives W A Z s (boolOp pos op (evalEach es env)) av
  exact h A env Z s ρ α av pos R hE I L hf
theorem den_ite {t b o : Expr} {pos : Pos} {c : Slots → Option Bool} {f g : Slots → Option AV} (ht : DenT W d sc t c) (hb : DenP W d sc b f) (ho : DenP W d sc o g) :
    DenP W d sc (.IfExp t b o pos) fun ρ => c ρ >>= fun x => if x = true then f ρ else g ρ := by
  intro A env Z s ρ α av R hE I L hf Q E' q
  obtain ⟨x, hx, hf⟩ := bindO hf
  refine wpAny_IfExp (ht A env Z s ρ α x R hE I L hx _ _ fun s₁ Z₁ p₁ => ?_)
  cases x with
  | true => exact hb A env Z₁ s₁ ρ α av R hE p₁.inv (L.step0 p₁) hf _ _ fun v s₂ Z₂ p₂ r₂ => q v s₂ Z₂ (p₁.tr p₂) r₂
  | false => exact ho A env Z₁ s₁ ρ α av R hE p₁.inv (L.step0 p₁) hf _ _ fun v s₂ Z₂ p₂ r₂ => q v s₂ Z₂ (p₁.tr p₂) r₂
def negA (a : AV) : Option AV := a.int? >>= fun i => some (.int (-i))
theorem den_neg {x : Expr} {pos : Pos} {f : Slots → Option AV} (hx : DenP W d sc x f) : DenP W d sc (.UnaryOp .USub x pos) fun ρ => f ρ >>= negA := by
  intro A env Z s ρ α av R hE I L hf Q E' q
  obtain ⟨a, ha, hf⟩ := bindO hf
  refine wpAny_UnaryOp (hx A env Z s ρ α a R hE I L ha _ _ fun va s₁ Z₁ p₁ r₁ => ?_)
  obtain ⟨i, hi, hf⟩ := bindO hf
  cases hf; obtain ⟨t, rfl⟩ := int?_rep hi r₁; exact neg_int (q _ _ Z₁ (p₁.tr (.toks p₁.inv _)) (.int _ _))
end
end Mine
end
section
set_option linter.unusedVariables false
namespace Mine
section
variable {W : Wd} {Z Z' Z₁ : AddrSet} {s s' s₁ : Shared} {env : Env} {sc : Scope} {ρ : Slots} {α : Str → Addr} {A : Around} {d : Nat}
def itemL {β : Type} (l : List β) (k : Int) : Option β := if 0 ≤ k then l[k.toNat]? else if -(l.length : Int) ≤ k then l[(k + l.length).toNat]? else none
def sign1 (c : Nat) : Str := ⟨#[c]⟩
def idxA : AV → AV → Option AV
  | .lst l, i => i.int? >>= fun k => if -1000000000 < k ∧ k < 1000000000 then itemL l k else none
  | .tup l, i => i.int? >>= fun k => if -1000000000 < k ∧ k < 1000000000 then itemL l k else none
  | .str x, i => i.int? >>= fun k => if -1000000000 < k ∧ k < 1000000000 then (itemL x.cps.toList k).map fun c => .str (sign1 c) else none
  | _, _ => none
theorem idxA_lst (l : List AV) (k : Int) : idxA (.lst l) (.int k) = if -1000000000 < k ∧ k < 1000000000 then itemL l k else none := rfl
theorem itemL_seq {β : Type} {l : List β} {k : Int} {b : β} (h : itemL l k = some b) : ∃ j, seqIndex? k l.length = some j ∧ l[j]? = some b := by
  unfold itemL at h
  unfold seqIndex?
  split at h
  · rename_i h0
    have hlt : k.toNat < l.length := by
      rcases Nat.lt_or_ge k.toNat l.length with e | e
      · exact e
      · rw [List.getElem?_eq_none e] at h; cases h
    refine ⟨k.toNat, ?_, h⟩
    have n0 : ¬ k < 0 := by (first | lia | omega)
    simp only [n0, if_false]
    have : (decide (0 ≤ k) && decide (k < (l.length : Int))) = true := by simp; (first | lia | omega)
    rw [if_pos this]
  · split at h
    · rename_i h0 h1
      have n0 : k < 0 := by (first | lia | omega)
      have hlt : (k + l.length).toNat < l.length := by (first | lia | omega)
      refine ⟨(k + l.length).toNat, ?_, h⟩
      simp only [n0, if_true]
      have : (decide (0 ≤ k + (l.length : Int)) && decide (k + (l.length : Int) < (l.length : Int))) = true := by simp; (first | lia | omega)
      rw [if_pos this]
    · cases h
theorem list_item_gives (I : Inv W Z s) {a : Addr} {vs : List Value} {l : List AV} {k : Int} {t : Tok} {av : AV} (hl : s.heap.IsList a vs.toArray) (rl : RepVs Z s.heap vs l) (hk : -1000000000 < k ∧ k < 1000000000) (h : itemL l k = some av) :
    ∃ v, RepV Z s.heap v av ∧ ∀ (Q : Value → Shared → Prop) E', Q v s → wpAny W.M A (getItem (.ref a) (.int k t)) Q E' s := by
  unfold itemL at h
  split at h
  · rename_i h0
    obtain ⟨v, hv, r⟩ := rl.get h
    exact ⟨v, r, fun Q E' q => wpAny_getItem_list hl h0 (by (first | lia | omega)) (by simpa using hv) q⟩
  · split at h
    · rename_i h0 h1
      obtain ⟨v, hv, r⟩ := rl.get h
      refine ⟨v, r, fun Q E' q => wpAny_getItem_list_neg hl (by (first | lia | omega)) (by simp only [List.size_toArray, rl.length]; exact h1) (by (first | lia | omega)) ?_ q⟩
      simp only [List.size_toArray, rl.length]
      simpa using hv
    · cases h
theorem idxA_ok (I : Inv W Z s) {value slice : Expr} {o i r : AV} {vo vi : Value} (ro : RepV Z s.heap vo o) (ri : RepV Z s.heap vi i) (h : idxA o i = some r)
    (hs : ∀ o i, subscripted slice false o i = operate [o, i] (getItem o i)) : Gives W A Z s (subscriptTail value slice vo vi) r := by
  intro Q E' q
  cases o with
  | lst l =>
    obtain ⟨k, hk', h⟩ := bindO h; obtain ⟨hk, h⟩ := iteO h
    obtain ⟨a, vs, rfl, z, hl, rl⟩ := ro.lst'; obtain ⟨t, rfl⟩ := int?_rep hk' ri
    obtain ⟨v, rv, g⟩ := list_item_gives (W := W) (A := A) I hl rl hk h
    exact tail_any hl.typeIs slot_list_getitem.lookup (g _ _ (q v s Z (.id I) rv)) (hs _ _)
  | tup l =>
    obtain ⟨k, hk', h⟩ := bindO h; obtain ⟨hk, h⟩ := iteO h
    obtain ⟨a, vs, rfl, z, ht, rl⟩ := ro.tup'; obtain ⟨t, rfl⟩ := int?_rep hk' ri
    obtain ⟨j, hj, hx⟩ := itemL_seq h
    obtain ⟨v, hv, rv⟩ := rl.get hx
    exact tail_any (T := "tuple") (let ⟨o, e, c, _⟩ := ht; ⟨o, e, c⟩) slot_tuple_getitem.lookup (PyProof.Rows.getItem_tuple ht (by (first | lia | omega)) (by (first | lia | omega)) (by rw [List.size_toArray, rl.length]; exact hj) (by rw [List.getElem?_toArray]; exact hv) (q v s Z (.id I) rv)) (hs _ _)
  | str x =>
    obtain ⟨k, hk', h⟩ := bindO h; obtain ⟨hk, h⟩ := iteO h
    obtain ⟨t, rfl⟩ := ro.str'; obtain ⟨u, rfl⟩ := int?_rep hk' ri
    obtain ⟨c, hc, rfl⟩ := Option.map_eq_some_iff.mp h
    obtain ⟨j, hj, hx⟩ := itemL_seq hc
    have e : Txt.charAt x k = some c := by
      unfold Txt.charAt
      rw [Array.length_toList] at hj
      show Option.bind (seqIndex? k x.cps.size) _ = _
      rw [hj]; rw [Array.getElem?_toList] at hx; exact hx
    have hf : fitsSsize k = true := by unfold fitsSsize; simp; (first | lia | omega)
    obtain ⟨T, id, hl, hT, hg⟩ := SB.item (prog := W.prog) (w := W.w) (A := A) (E := E') (s := s) (t := t) (u := u) hf (by rw [e]; rfl) (q _ _ Z (.toks I _) (by unfold Txt.item; rw [e]; exact .str _ _))
    exact tail_any hT hl hg (hs _ _)
  | _ => cases h
theorem den_idx {value slice : Expr} {pos : Pos} {f g : Slots → Option AV} (hv : DenP W d sc value f) (hi : DenP W d sc slice g) (hs : ∀ o i, subscripted slice false o i = operate [o, i] (getItem o i)) :
    DenP W d sc (.Subscript value slice pos) fun ρ => f ρ >>= fun o => g ρ >>= fun i => idxA o i := by
  intro A env Z s ρ α av R hE I L hf Q E' q
  obtain ⟨a, ha, hf⟩ := bindO hf
  obtain ⟨b, hb, hf⟩ := bindO hf
  exact Subscript_ (hv A env Z s ρ α a R hE I L ha _ _ fun va s₁ Z₁ p₁ r₁ => hi A env Z₁ s₁ ρ α b R hE p₁.inv (L.step0 p₁) hb _ _ fun vb s₂ Z₂ p₂ r₂ =>
    idxA_ok p₂.inv (p₂.rep0 r₁) r₂ hf hs _ _ fun v s₃ Z₃ p₃ r₃ => q v s₃ Z₃ (p₁.tr (p₂.tr p₃)) r₃)
-- slices
def cutL {β : Type} (l : List β) (lo hi : Option Int) : List β := (l.drop (lo.elim 0 (clipAt l.length))).take (hi.elim l.length (clipAt l.length) - lo.elim 0 (clipAt l.length))
def cutS (x : Str) (lo hi : Option Int) : Str := ⟨(cutL x.cps.toList lo hi).toArray⟩
def asInt : AV → Option Int
  | .int i => some i
  | _ => none
def cutA : AV → Option Int → Option Int → Option AV
  | .lst l, lo, hi => if l.length ≤ 16777216 then some (.lst (cutL l lo hi)) else none
  | .str x, lo, hi => if x.length ≤ 16777216 then some (.str (cutS x lo hi)) else none
  | _, _, _ => none
def revA : AV → Option AV
  | .lst l => if l.length ≤ 16777216 then some (.lst l.reverse) else none
  | _ => none
def DenPart (W : Wd) (d : Nat) (sc : Scope) (x : Option Expr) (g : Slots → Option (Option Int)) : Prop :=
  ∀ (A : Around) (env : Env) (Z : AddrSet) (s : Shared) (ρ : Slots) (α : Str → Addr) (oi : Option Int), Room A d → EnvOk env sc → Inv W Z s → Loc W Z s.heap env ρ α → g ρ = some oi →
    ∀ (Q : Value → Shared → Prop) E', (∀ v s' Z', Step W .none Z s Z' s' → IsPart v oi → Q v s') → wpAny W.M A (evalPart x env) Q E' s
theorem part_none : DenPart W d sc none fun _ => some none := by
  intro A env Z s ρ α oi R hE I L hf Q E' q; cases hf; exact wpAny_pure (q _ s Z (.id I) .none)
theorem part_some {e : Expr} {f : Slots → Option AV} (h : DenP W d sc e f) : DenPart W d sc (some e) fun ρ => f ρ >>= fun a => (asInt a).map some := by
  intro A env Z s ρ α oi R hE I L hf Q E' q
  obtain ⟨a, ha, hf⟩ := bindO hf
  obtain ⟨i, hi, rfl⟩ := Option.map_eq_some_iff.mp hf
  refine h A env Z s ρ α a R hE I L ha _ _ fun v s₁ Z₁ p r => q v s₁ Z₁ p ?_
  unfold asInt at hi
  split at hi
  · cases hi; cases r; exact .int _ _
  · cases hi
theorem part_of {v : Value} {oi : Option Int} (p : IsPart v oi) : ∃ l : Option (Int × Tok), v = partValue l ∧ l.map (·.1) = oi := by
  cases p with
  | none => exact ⟨none, rfl, rfl⟩
  | int i t => exact ⟨some (i, t), rfl, rfl⟩
theorem strSlice_plain (x : Str) (lo hi : Option Int) : ((Builtin.Str.strSliceIndices lo hi 1 x.length).filterMap (x.cps[·]?)) = cutL x.cps.toList lo hi := by
  have h : Builtin.Str.strSliceIndices lo hi 1 x.length = sliceRange (sliceBounds lo hi none x.length).1 (sliceBounds lo hi none x.length).2.1 (sliceBounds lo hi none x.length).2.2 := by
    unfold Builtin.Str.strSliceIndices sliceBounds
    rfl
  rw [h, sliceBounds_plain]
  simp only [sliceRange_one, pick_run]
  unfold cutL
  simp [Str.length]
theorem cutL_length_le {β : Type} (l : List β) (lo hi : Option Int) : (cutL l lo hi).length ≤ l.length := by
  unfold cutL; exact Nat.le_trans (List.length_take_le' _ _) (by rw [List.length_drop]; exact Nat.sub_le _ _)
theorem RepVs.cut {h : Heap} {vs : List Value} {l : List AV} (r : RepVs Z h vs l) (lo hi : Option Int) : RepVs Z h (cutL vs lo hi) (cutL l lo hi) := by
  unfold cutL; rw [r.length]; exact (r.drop _).take _
theorem cut_all {x : Str} {lo hi : Option Int} (hlen : (Builtin.Str.strSliceIndices lo hi 1 x.length).length = x.length) : cutS x lo hi = x := by
  have hb : Builtin.Str.strSliceIndices lo hi 1 x.length = (List.range (hi.elim x.length (clipAt x.length) - lo.elim 0 (clipAt x.length))).map (lo.elim 0 (clipAt x.length) + ·) := by
    have h : Builtin.Str.strSliceIndices lo hi 1 x.length = sliceRange (sliceBounds lo hi none x.length).1 (sliceBounds lo hi none x.length).2.1 (sliceBounds lo hi none x.length).2.2 := by
      unfold Builtin.Str.strSliceIndices sliceBounds; rfl
    rw [h, sliceBounds_plain]
    simp only [sliceRange_one]
  rw [hb, List.length_map, List.length_range] at hlen
  have hcl : ∀ i, clipAt x.length i ≤ x.length := fun i => Int.toNat_le.mpr (Int.max_le.mpr ⟨Int.natCast_nonneg _, Int.min_le_right _ _⟩)
  have hhi : hi.elim x.length (clipAt x.length) ≤ x.length := by
    cases hi with
    | none => exact Nat.le_refl _
    | some i => exact hcl i
  have hL : x.cps.toList.length = x.length := rfl
  unfold cutS cutL
  rw [hL]
  generalize hi.elim x.length (clipAt x.length) = u at *
  generalize lo.elim 0 (clipAt x.length) = l at *
  have h0 : l = 0 ∨ x.length = 0 := by
    rcases Nat.eq_zero_or_pos l with h | h
    · exact .inl h
    · rcases Nat.eq_zero_or_pos u with hu | hu
      · exact .inr (by rw [← hlen, hu, Nat.zero_sub])
      · exact absurd hlen (Nat.ne_of_lt (Nat.lt_of_lt_of_le (Nat.sub_lt hu h) hhi))
  rcases h0 with h0 | h0
  · rw [h0, List.drop_zero, List.take_of_length_le (by rw [hL]; (first | lia | omega))]
  · have : x.cps.toList = [] := List.length_eq_zero_iff.mp (hL.trans h0)
    rw [this, List.drop_nil, List.take_nil, ← this]
theorem cut_gives (I : Inv W Z s) {o r : AV} {vo : Value} {lo hi : Option Int} {sl : Addr} {vl vu : Value} {value slice : Expr} (ro : RepV Z s.heap vo o) (h : cutA o lo hi = some r) (pl : IsPart vl lo) (pu : IsPart vu hi) (hsl : s.heap.IsSliceOf sl vl vu .none)
    (hs : ∀ o i, subscripted slice false o i = operate [i, o] (getItem o i)) : Gives W A Z s (subscriptTail value slice vo (.ref sl)) r := by
  cases o with
  | lst l =>
    obtain ⟨hz, h⟩ := iteO h; cases h
    obtain ⟨a, vs, rfl, z, hl, rl⟩ := ro.lst'
    have e : slicePick vs.toArray lo hi none = (cutL vs lo hi).toArray := by
      rw [slicePick_plain]; unfold cutL; simp
    refine .newLst (n := 0) I (rl.cut lo hi) fun Q E' q => tail_any hl.typeIs slot_list_getitem.lookup (wpAny_getItem_list_slice hl hsl pl pu .none (by intro c; cases c) ?_ (by rw [List.size_toArray, rl.length, sizeLine]; exact hz)) (hs _ _)
    rw [e]; exact q s.toks
  | str x =>
    obtain ⟨hz, h⟩ := iteO h; cases h
    obtain ⟨t, rfl⟩ := ro.str'
    obtain ⟨l, rfl, e1⟩ := part_of pl
    obtain ⟨u, rfl, e2⟩ := part_of pu
    refine .val I fun Q E' q => tail_any (T := "str") (typeIs_str s x t) F.slot_str_getitem.lookup (wpAny_getItem_str_slice (st := none) hsl rfl ?_) (hs _ _)
    unfold sliceMade slicePicked
    rw [e1, e2]
    simp only [Option.map_none, Option.getD_none]
    rw [strSlice_plain x lo hi]
    split
    · rename_i hc
      rw [cut_all (by simpa using hc)] at q
      exact q _ s.toks (.str _ _)
    · refine ⟨?_, q _ _ (.str _ _)⟩
      have : (cutL x.cps.toList lo hi).length ≤ x.length := cutL_length_le x.cps.toList lo hi
      exact Nat.le_trans this hz
  | _ => cases h
theorem den_cut {value : Expr} {lo hi : Option Expr} {p pos : Pos} {f : Slots → Option AV} {g h : Slots → Option (Option Int)} (hv : DenP W d sc value f) (hl : DenPart W d sc lo g) (hh : DenPart W d sc hi h) :
    DenP W d sc (.Subscript value (.Slice lo hi none p) pos) fun ρ => f ρ >>= fun o => g ρ >>= fun i => h ρ >>= fun j => cutA o i j := by
  intro A env Z s ρ α av R hE I L hf Q E' q
  obtain ⟨a, ha, hf⟩ := bindO hf
  obtain ⟨i, hi, hf⟩ := bindO hf
  obtain ⟨j, hj, hf⟩ := bindO hf
  refine Subscript_ (hv A env Z s ρ α a R hE I L ha _ _ fun va s₁ Z₁ p₁ r₁ => wpAny_Slice (hl A env Z₁ s₁ ρ α i R hE p₁.inv (L.step0 p₁) hi _ _ fun vl s₂ Z₂ p₂ q₂ =>
    hh A env Z₂ s₂ ρ α j R hE p₂.inv ((L.step0 p₁).step0 p₂) hj _ _ fun vu s₃ Z₃ p₃ q₃ => ?_))
  have p₄ : Step W .none Z₃ s₃ Z₃ { s₃ with heap := s₃.heap.push { cls := .type "slice", data := .fields #[vl, vu, .none] } } := .grow p₃.inv (tk := s₃.toks) (push_keep _ _)
  refine wpAny_pure ?_
  exact cut_gives p₄.inv (p₄.rep0 (p₃.rep0 (p₂.rep0 r₁))) hf q₂ q₃ (Heap.IsSliceOf.new _ _ _ _) (fun _ _ => rfl) _ _ fun v s₅ Z₅ p₅ r₅ => q v s₅ Z₅ (p₁.tr (p₂.tr (p₃.tr (p₄.tr p₅)))) r₅
theorem slicePick_rev (items : Array Value) : slicePick items none none (some (-1)) = items.toList.reverse.toArray := by
  unfold slicePick sliceBounds sliceRange
  congr 1
  simp only [Option.getD_some, show ¬ ((-1 : Int) > 0) by decide, if_false]
  have hc : (if (items.size : Int) - 1 > -1 then ((items.size : Int) - 1 - -1 - -1 - 1) / -(-1) else 0).toNat = items.size := by
    split
    · rw [show -(-1 : Int) = 1 by decide, Int.ediv_one]; (first | lia | omega)
    · (first | lia | omega)
  rw [hc]
  apply List.ext_getElem?
  intro i
  rw [List.filterMap_map]
  have hf : (List.range items.size).filterMap ((fun x => items[x]?) ∘ fun k : Nat => ((items.size : Int) - 1 + -1 * (k : Int)).toNat) = (List.range items.size).filterMap fun k => items[items.size - 1 - k]? := by
    congr 1
    funext k
    simp only [Function.comp]
    congr 1
    (first | lia | omega)
  rw [hf]
  have key : ∀ n, n ≤ items.size → (List.range n).filterMap (fun k => items[items.size - 1 - k]?) = (items.toList.reverse).take n := by
    intro n
    induction n with
    | zero => intro _; simp
    | succ n ih =>
      intro hn
      rw [List.range_succ, List.filterMap_append, ih (by (first | lia | omega)), List.take_add_one]
      congr 1
      have h1 : items.size - 1 - n < items.size := by (first | lia | omega)
      simp only [List.filterMap_cons, List.filterMap_nil]
      rw [Array.getElem?_eq_getElem h1, List.getElem?_reverse (by simp only [Array.length_toList]; (first | lia | omega))]
      simp [h1]
  rw [key _ (Nat.le_refl _), List.take_of_length_le (by simp)]
theorem den_rev {value : Expr} {p p1 p2 pos : Pos} {k : Nat} {f : Slots → Option AV} (hv : DenP W d sc value f) :
    DenP W d sc (.Subscript value (.Slice none none (some (.UnaryOp .USub (.Constant (.int 1) k p1) p2)) p) pos) fun ρ => f ρ >>= revA := by
  intro A env Z s ρ α av R hE I L hf Q E' q
  obtain ⟨a, ha, hf⟩ := bindO hf
  refine Subscript_ (hv A env Z s ρ α a R hE I L ha _ _ fun va s₁ Z₁ p₁ r₁ => wpAny_Slice (wpAny_pure (wpAny_pure (wpAny_UnaryOp (wpAny_Constant_int (neg_int ?_))))))
  unfold revA at hf
  split at hf
  · split at hf
    · rename_i l hz
      cases hf
      have p₂ : ∀ tk, s₁.toks ≤ tk → Step W .none Z₁ s₁ Z₁ { s₁ with heap := s₁.heap.push { cls := .type "slice", data := .fields #[.none, .none, .int (-1) (s₁.toks + 1)] }, toks := tk } := fun tk htk => .grow p₁.inv (push_keep _ _) htk
      have hle : s₁.toks ≤ s₁.toks + 2 := Nat.le_add_right _ _
      have r₂ := (p₂ (s₁.toks + 2) hle).rep0 r₁
      cases r₂ with | lst z hl rl =>
      rename_i a vs
      refine (Gives.newLst (A := A) (t := subscriptTail value (.Slice none none (some (.UnaryOp .USub (.Constant (.int 1) k p1) p2)) p) (.ref a) (.ref s₁.heap.objs.size)) (n := 0) (p₂ (s₁.toks + 2) hle).inv rl.reverse fun Q E' q => tail_any hl.typeIs slot_list_getitem.lookup
        (wpAny_getItem_list_slice hl (Heap.IsSliceOf.new _ _ _ _) .none .none (.int _ _) (by intro c; cases c) ?_ (by simp only [List.size_toArray, rl.length, sizeLine]; exact hz)) (rfl)) _ _ fun v s₅ Z₅ p₅ r₅ => q v s₅ Z₅ (p₁.tr ((p₂ _ hle).tr p₅)) r₅
      rw [slicePick_rev]; exact q _
    · cases hf
  · cases hf
-- displays
def DenPs (W : Wd) (d : Nat) (sc : Scope) (es : List Expr) (f : Slots → Option (List AV)) : Prop :=
  ∀ (A : Around) (env : Env) (Z : AddrSet) (s : Shared) (ρ : Slots) (α : Str → Addr) (l : List AV), Room A d → EnvOk env sc → Inv W Z s → Loc W Z s.heap env ρ α → f ρ = some l →
    ∀ (pos : Pos) (Q : List Value → Shared → Prop) E', (∀ vs s' Z', Step W .none Z s Z' s' → RepVs Z' s'.heap vs l → Q vs s') → wpAny W.M A (spliced (backTo pos (starEach es env))) Q E' s
theorem denPs_nil : DenPs W d sc [] fun _ => some [] := by
  intro A env Z s ρ α l R hE I L hf pos Q E' q; cases hf; exact wpAny_items_nil (q [] s Z (.id I) .nil)
theorem denPs_cons {e : Expr} {rest : List Expr} {f : Slots → Option AV} {g : Slots → Option (List AV)} (he : DenP W d sc e f) (hr : DenPs W d sc rest g) (hs : ∀ env, starEach (e :: rest) env = (false, eval e env) :: starEach rest env) :
    DenPs W d sc (e :: rest) fun ρ => f ρ >>= fun a => g ρ >>= fun l => some (a :: l) := by
  intro A env Z s ρ α l R hE I L hf pos Q E' q
  obtain ⟨a, ha, hf⟩ := bindO hf
  obtain ⟨m, hm, hf⟩ := bindO hf
  cases hf
  exact wpAny_items_cons (he A env Z s ρ α a R hE I L ha _ _ fun v s₁ Z₁ p₁ r₁ => hr A env Z₁ s₁ ρ α m R hE p₁.inv (L.step0 p₁) hm pos _ _ fun vs s₂ Z₂ p₂ r₂ => q _ s₂ Z₂ (p₁.tr p₂) (.cons (p₂.rep0 r₁) r₂)) (hs env)
theorem den_list {es : List Expr} {pos : Pos} {f : Slots → Option (List AV)} (h : DenPs W d sc es f) : DenP W d sc (.List es pos) fun ρ => f ρ >>= fun l => if l.length ≤ 1000000 then some (.lst l) else none := by
  intro A env Z s ρ α av R hE I L hf Q E' q
  obtain ⟨l, hl, hf⟩ := bindO hf
  split at hf
  · cases hf
    refine List_ (h A env Z s ρ α l R hE I L hl pos _ _ fun vs s₁ Z₁ p₁ r₁ => ?_)
    refine (Gives.newLst (n := 0) p₁.inv r₁ fun Q E' q => wpAny_newObj_type (q _) ?_) _ _ fun v s₂ Z₂ p₂ r₂ => q v s₂ Z₂ (p₁.tr p₂) r₂
    show vs.toArray.size ≤ sizeLine
    rw [List.size_toArray, r₁.length]; unfold sizeLine; (first | lia | omega)
  · cases hf
theorem den_tuple {es : List Expr} {k : Nat} {pos : Pos} {f : Slots → Option (List AV)} (h : DenPs W d sc es f) : DenP W d sc (.Tuple es k pos) fun ρ => f ρ >>= fun l => if l.length ≤ 1000000 then some (.tup l) else none := by
  intro A env Z s ρ α av R hE I L hf Q E' q
  obtain ⟨l, hl, hf⟩ := bindO hf
  split at hf
  · cases hf
    refine Tuple_ (h A env Z s ρ α l R hE I L hl pos _ _ fun vs s₁ Z₁ p₁ r₁ => ?_)
    refine (Gives.newTup (n := 0) p₁.inv r₁ fun Q E' q => wpAny_newObj_type (q _) ?_) _ _ fun v s₂ Z₂ p₂ r₂ => q v s₂ Z₂ (p₁.tr p₂) r₂
    show vs.toArray.size ≤ sizeLine
    rw [List.size_toArray, r₁.length]; unfold sizeLine; (first | lia | omega)
  · cases hf
end
end Mine
end
section
set_option linter.unusedVariables false
namespace Mine
section
variable {W : Wd} {Z Z' Z₁ : AddrSet} {s s' s₁ : Shared} {env : Env} {sc : Scope} {ρ : Slots} {α : Str → Addr} {A : Around} {d : Nat}
def FSpec (W : Wd) (d : Nat) (f : Value) (F : List AV → Option AV) : Prop :=
  ∀ (A : Around) (Z : AddrSet) (s : Shared) (vals : List Value) (args : List AV) (av : AV), Room A d → Inv W Z s → RepVs Z s.heap vals args → F args = some av → Gives W A Z s (call f vals) av
theorem RepVs.one {h : Heap} {vals : List Value} {a : AV} (r : RepVs Z h vals [a]) : ∃ v, vals = [v] ∧ RepV Z h v a := by
  cases r with | cons r1 r2 => cases r2; exact ⟨_, rfl, r1⟩
theorem RepVs.two {h : Heap} {vals : List Value} {a b : AV} (r : RepVs Z h vals [a, b]) : ∃ v w, vals = [v, w] ∧ RepV Z h v a ∧ RepV Z h w b := by
  cases r with | cons r1 r2 => obtain ⟨w, rfl, r⟩ := r2.one; exact ⟨_, w, rfl, r1, r⟩
def KeepOk (W : Wd) (f : Value) : Prop := ∀ h, W.K.In h → ∃ k, (k = Keeper.frame ∨ k = Keeper.machine ∨ k = Keeper.boundFrame) ∧ Looks W.M h (keeperOf f) k
theorem keep_builtin (id : String) : KeepOk W (.builtin id) := fun _ _ => ⟨.machine, .inr (.inl rfl), .of_pure rfl⟩
theorem keep_type (T : String) : KeepOk W (.type T) := fun _ _ => ⟨.machine, .inr (.inl rfl), .of_pure rfl⟩
theorem keep_K {f : Value} (h : keepIn W.K f = true) : KeepOk W f := fun g X => keeps_K h g X
theorem evalArgs_ns {M : Model} {E' : Value → Shared → Prop} {f : Value} {args : List (Bool × Sem Value)} {Q : Args → Shared → Prop} (hn : args.any (·.1) = false)
    (h : wpAny M A (spliced args) (fun vs s' => Q ⟨vs, []⟩ s') E' s) : wpAny M A (evalArgs f true args []) Q E' s := by
  cases args with
  | nil =>
    unfold evalArgs
    show wpAny M A (spliced [] >>= _) Q E' s
    refine wpAny_bind (wpAny_mono h (fun vs s' h' => wpAny_bind (wpAny_pure ?_)) fun _ _ x => x)
    refine wpAny_holding ?_
    exact wpAny_bind (wpAny_pure (wpAny_bind (wpAny_pure (wpAny_pure h'))))
  | cons x r =>
    obtain ⟨b, x⟩ := x
    have hb : b = false := by
      cases b with
      | false => rfl
      | true => simp at hn
    subst hb
    exact Calls.evalArgs_plain h
theorem callWith_den {f : Value} {first : List Value} {pos : Pos} {es : List Expr} {fs : Slots → Option (List AV)} {l : List AV} (hk : KeepOk W f) (ha : DenPs W d sc es fs) (hn : ∀ env pos, (backTo pos (starEach es env)).any (·.1) = false)
    (R : Room A d) (hE : EnvOk env sc) (I : Inv W Z s) (L : Loc W Z s.heap env ρ α) (hl : fs ρ = some l) {Q : Value → Shared → Prop} {E' : Value → Shared → Prop}
    (q : ∀ vs s₁ Z₁, Step W .none Z s Z₁ s₁ → RepVs Z₁ s₁.heap vs l → wpAny W.M A (call f (first ++ vs)) Q E' s₁) :
    wpAny W.M A (callWith pos f first (backTo pos (starEach es env)) []) Q E' s := by
  refine callWith_of (P := W.K.In) (by rw [hn]; rfl) hk (evalArgs_ns (hn _ _) (ha A env Z s ρ α l R hE I L hl pos _ _ fun vs s₁ Z₁ p r => ⟨p.inv.kin, q vs s₁ Z₁ p r⟩))
theorem den_call {x : Str} {np pos : Pos} {es : List Expr} {v : Value} {fs : Slots → Option (List AV)} {F : List AV → Option AV} (hg : W.Glob x v) (hk : sc.names.lookup x = some .globalImplicit) (h1 : (x == ("__debug__" : Str)) = false)
    (hko : KeepOk W v) (ha : DenPs W d sc es fs) (hn : ∀ env pos, (backTo pos (starEach es env)).any (·.1) = false) (hF : FSpec W d v F) : DenP W d sc (.Call (.Name x np) es [] pos) fun ρ => fs ρ >>= F := by
  intro A env Z s ρ α av R hE I L hf Q E' q
  obtain ⟨l, hl, hf⟩ := bindO hf
  show wpAny _ _ (do callWith pos (← eval (.Name x np) env) [] (backTo pos (starEach es env)) (backToKw pos (keywordEach [] env))) _ _ _
  refine wpAny_bind (load_glob hE I hg hk h1 (callWith_den hko ha hn R hE I L hl fun vs s₁ Z₁ p r => hF A Z₁ s₁ vs l av R p.inv r hf _ _ fun v s₂ Z₂ p₂ r₂ => q v s₂ Z₂ (p.tr p₂) r₂))
-- built-in functions
def arg1 (l : List AV) (f : AV → Option AV) : Option AV := match l with | [a] => f a | _ => none
def arg2 (l : List AV) (f : AV → AV → Option AV) : Option AV := match l with | [a, b] => f a b | _ => none
theorem arg1_rep {h : Heap} {vals : List Value} {l : List AV} {f : AV → Option AV} {c : AV} (e : arg1 l f = some c) (r : RepVs Z h vals l) : ∃ a v, vals = [v] ∧ RepV Z h v a ∧ f a = some c := by
  cases l with
  | nil => cases e
  | cons a l =>
    cases l with
    | nil => obtain ⟨v, ws, rfl, r1, rs⟩ := r.cons'; rw [rs.nil']; exact ⟨a, v, rfl, r1, e⟩
    | cons => cases e
theorem arg2_rep {h : Heap} {vals : List Value} {l : List AV} {f : AV → AV → Option AV} {c : AV} (e : arg2 l f = some c) (r : RepVs Z h vals l) : ∃ a b v w, vals = [v, w] ∧ RepV Z h v a ∧ RepV Z h w b ∧ f a b = some c := by
  cases l with
  | nil => cases e
  | cons a l =>
    cases l with
    | nil => cases e
    | cons b l =>
      cases l with
      | nil => obtain ⟨v, ws, rfl, r1, rs⟩ := r.cons'; obtain ⟨w, ws, rfl, r2, rs⟩ := rs.cons'; rw [rs.nil']; exact ⟨a, b, v, w, rfl, r1, r2, e⟩
      | cons => cases e
def len1 : AV → Option AV
  | .str x => if x.length ≤ 16777216 then some (.int x.length) else none
  | .lst l => if l.length ≤ 16777216 then some (.int l.length) else none
  | _ => none
def lenF (l : List AV) : Option AV := arg1 l len1
theorem spec_len : FSpec W d (.builtin "len") lenF := by
  intro A Z s vals args av R I r h
  obtain ⟨a, v, rfl, r1, h⟩ := arg1_rep h r
  cases a with
  | str x =>
    obtain ⟨hx, h⟩ := iteO h; cases h
    obtain ⟨t, rfl⟩ := r1.str'
    exact .val I fun Q E' q => len_str (by (first | lia | omega)) (q _ _ (.int _ _))
  | lst l =>
    obtain ⟨hx, h⟩ := iteO h; cases h
    obtain ⟨a, vs, rfl, z, hl, rl⟩ := r1.lst'
    have e : vs.toArray.size = l.length := rl.length
    refine .val I fun Q E' q => len_list hl (by (first | lia | omega)) ?_
    rw [e]
    exact q _ _ (.int _ _)
  | _ => cases h
def absF (l : List AV) : Option AV := arg1 l fun a => a.int? >>= fun i => some (.int (if i < 0 then -i else i))
theorem spec_abs : FSpec W d (.builtin "abs") absF := by
  intro A Z s vals args av R I r h
  obtain ⟨a, v, rfl, r1, h⟩ := arg1_rep h r
  obtain ⟨i, hi, h⟩ := bindO h
  cases h
  obtain ⟨t, rfl⟩ := int?_rep hi r1
  exact .val I fun Q E' q => call_abs_int fun u tk => q _ _ (.int _ _)
def strArg : AV → Option Str
  | .str x => some x
  | _ => none
theorem den_meth_str {o : Expr} {name : Str} {apos pos : Pos} {es : List Expr} {f : Slots → Option AV} {fs : Slots → Option (List AV)} {id : String} {F : List AV → Option AV} (ho : DenP W d sc o f)
    (hbase : ∀ env, attributeBase o name env (eval o env) = eval o env)
    (hfew : ∀ env, ((backTo pos (starEach es env)).all (fun x => !x.1) && (backToKw pos (keywordEach [] env)).all (fun x => x.1.isSome) && decide (es.length + ([] : List Keyword).length + (if ([] : List Keyword).isEmpty then 0 else 1) < 30)) = true)
    (hline : (apos.endLine == pos.line) = true) (slot : Slot "str" name id) (hty : typeOf (.builtin id) = pure (.type "method_descriptor")) (ha : DenPs W d sc es fs) (hn : ∀ env pos, (backTo pos (starEach es env)).any (·.1) = false)
    (hF : FSpec W d (.builtin id) F) : DenP W d sc (.Call (.Attribute o name apos) es [] pos) fun ρ => f ρ >>= fun a => strArg a >>= fun x => fs ρ >>= fun l => F (.str x :: l) := by
  intro A env Z s ρ α av R hE I L hf Q E' q
  obtain ⟨a, ha', hf⟩ := bindO hf
  obtain ⟨x, hx, hf'⟩ := bindO hf
  obtain ⟨l, hl, hf''⟩ := bindO hf'
  have : a = .str x := by unfold strArg at hx; split at hx <;> cases hx; rfl
  subst this
  refine wpAny_Call_method (hbase env) (hfew env) hline PySem.F.plainAttrs_str slot hty (ho A env Z s ρ α _ R hE I L ha' _ _ fun ov s₁ Z₁ p₁ r₁ => ?_)
  cases r₁
  rename_i t
  refine ⟨typeIs_str _ _ _, fun a e => (by cases e), ?_⟩
  exact callWith_den (first := [.str x t]) (keep_builtin id) ha hn R hE p₁.inv (L.step0 p₁) hl fun vs s₂ Z₂ p₂ r₂ => hF A Z₂ s₂ (.str x t :: vs) (.str x :: l) av R p₂.inv (.cons (.str x t) r₂) hf'' _ _ fun v s₃ Z₃ p₃ r₃ => q v s₃ Z₃ (p₁.tr (p₂.tr p₃)) r₃
theorem strs2_rep {h : Heap} {vals : List Value} {l : List AV} {f : Str → Str → Option AV} {c : AV} (e : (arg2 l fun a b => a.str? >>= fun x => b.str? >>= fun y => f x y) = some c) (r : RepVs Z h vals l) : ∃ x y t u, vals = [.str x t, .str y u] ∧ f x y = some c := by
  obtain ⟨a, b, v, w, rfl, r1, r2, h⟩ := arg2_rep e r
  obtain ⟨i, hi, h⟩ := bindO h
  obtain ⟨j, hj, h⟩ := bindO h
  obtain ⟨t, rfl⟩ := str?_rep hi r1
  obtain ⟨u, rfl⟩ := str?_rep hj r2
  exact ⟨i, j, t, u, rfl, h⟩
end
end Mine
end
section
set_option linter.unusedVariables false
namespace Mine
section
variable {W : Wd} {Z Z' Z₁ : AddrSet} {s s' s₁ : Shared} {env : Env} {sc : Scope} {ρ ρ' : Slots} {α α' : Str → Addr} {A : Around} {d : Nat}
theorem Loc.swap {y : Str} {l : OL} {l' : List AV} {vs' : List Value} (L : Loc W Z s.heap env ρ α) (hx : ρ y = some (.own l)) (p : Step W (.addrs (· = α y)) Z s Z' s') (hz : ¬ Z' (α y)) (hp : s'.heap.PlainList (α y) vs'.toArray) (r : RepVs Z' s'.heap vs' l') :
    FStep W env Z s ρ α Z' s' (ρ.set y (.own ⟨l.place, l'⟩)) α := by
  have fb : FOwn env ρ α (α y) := .inr (.inr ⟨y, l, hx, rfl⟩)
  have kz : ∀ c o, Z c → s.heap.get? c = some o → s'.heap.get? c = some o := fun c o z e => p.keep c o (fun q => L.nz _ fb (by rw [← show c = α y from q]; exact z)) e
  obtain ⟨m, ns, hv⟩ := L.ns
  obtain ⟨n₀, vs₀, hn₀⟩ : ∃ n vs, s.heap.get? (α y) = some { cls := .type "list", data := .seq vs n } := by
    obtain ⟨v, _, _, vs, ⟨n, hn⟩, _⟩ := hv y _ hx
    exact ⟨n, _, hn⟩
  have hloc : env.locals ≠ α y := fun q => by
    obtain ⟨o, es, ep, e, dd, _⟩ := ns
    rw [q, hn₀] at e; cases e; cases dd
  have hcell : ∀ c w, s.heap.IsCell c w → c ≠ α y := fun c w hc q => by
    obtain ⟨o, e, dd⟩ := hc
    rw [q, hn₀] at e; cases e; cases dd
  have hfo : ∀ b, FOwn env (ρ.set y (.own ⟨l.place, l'⟩)) α b → FOwn env ρ α b := by
    rintro b (rfl | ⟨z, hn, hz⟩ | ⟨z, m, hz, rfl⟩)
    · exact .inl rfl
    · exact .inr (.inl ⟨z, hn, hz⟩)
    · unfold Slots.set at hz
      by_cases e : z = y
      · rw [e]; exact fb
      · rw [if_neg e] at hz; exact .inr (.inr ⟨z, m, hz, rfl⟩)
  have sub : ∀ z m, (ρ.set y (.own ⟨l.place, l'⟩)) z = some (.own m) → ∃ m', ρ z = some (.own m') ∧ m.place = m'.place := fun z m hz => by
    unfold Slots.set at hz
    by_cases e : z = y
    · rw [if_pos e] at hz; cases hz; rw [e]; exact ⟨l, hx, rfl⟩
    · rw [if_neg e] at hz; exact ⟨m, hz, rfl⟩
  refine ⟨p.mono (fun a h => .inl (by rw [show a = α y from h]; exact fb)) fun _ h => h.elim, fun b f => .inl (hfo b f), ⟨⟨m, ?_, fun z sv hz => ?_⟩, fun b f z => ?_, fun b f => L.nb b (hfo b f), fun z m b hz hb => ?_, fun x z a b hx hz e => ?_, fun z c hc => ?_, L.cinj, fun c hc => p.zsub c (L.slf c hc)⟩⟩
  · obtain ⟨o, es, ep, e, rest⟩ := ns
    exact ⟨o, es, ep, p.keep _ _ (fun q => hloc q) e, rest⟩
  · unfold Slots.set at hz
    have am : ∀ v, At s.heap env m z v → At s'.heap env m z v := fun v a => a.mono fun w c o hc e => by
      obtain ⟨w, o', e', dd⟩ := L.cell w c hc
      exact p.keep c o (fun q => hcell c w ⟨o', e', dd⟩ q) e
    by_cases e : z = y
    · rw [if_pos e] at hz
      cases hz
      obtain ⟨v, a, hv', _⟩ := hv y _ hx
      subst e
      exact ⟨v, am v a, hv', vs', hp, r⟩
    · rw [if_neg e] at hz
      obtain ⟨v, a, rv⟩ := hv z sv hz
      refine ⟨v, am v a, ?_⟩
      cases sv with
      | val av => exact rv.mono p.zsub kz
      | own l'' =>
        obtain ⟨e1, vs, ⟨n, hn⟩, rs⟩ := rv
        exact ⟨e1, vs, ⟨n, p.keep _ _ (fun q => e (L.inj z y l'' l hz hx q)) hn⟩, rs.mono p.zsub kz⟩
  · by_cases hb : b = α y
    · exact hz (hb ▸ z)
    · rcases p.znew b z with h | h | h
      · exact L.nz b (hfo b f) h
      · exact hb h
      · obtain ⟨o, e⟩ := L.alive (hfo b f); rw [h] at e; cases e
  · obtain ⟨m1, h1, h2⟩ := sub z m hz
    exact L.fix z m1 b h1 (h2 ▸ hb)
  · obtain ⟨m1, h1, _⟩ := sub x a hx
    obtain ⟨m2, h2, _⟩ := sub z b hz
    exact L.inj x z m1 m2 h1 h2 e
  · obtain ⟨w, o, e, dd⟩ := L.cell z c hc; exact ⟨w, o, p.keep c o (fun q => hcell c w ⟨o, e, dd⟩ q) e, dd⟩
theorem Loc.upd {x : Str} {l : OL} {l' : List AV} {vs' : List Value} {h' : Heap} {tk : Nat} (I : Inv W Z s) (L : Loc W Z s.heap env ρ α) (hx : ρ x = some (.own l)) (hs : Heap.SameBut (α x) s.heap h') (hp : h'.PlainList (α x) vs'.toArray) (r : RepVs Z s.heap vs' l') (htk : s.toks ≤ tk := by first | exact Nat.le_refl _ | exact Nat.le_add_right _ _ | assumption | (first | lia | omega)) :
    FStep W env Z s ρ α Z { s with heap := h', toks := tk } (ρ.set x (.own ⟨l.place, l'⟩)) α :=
  have fb : FOwn env ρ α (α x) := .inr (.inr ⟨x, l, hx, rfl⟩)
  have p : Step W (.addrs (· = α x)) Z s Z { s with heap := h', toks := tk } := store_step I L fb hs htk
  L.swap hx p (L.nz _ fb) hp (p.reps (fun b z q => L.nz _ fb (by rw [← show b = α x from q]; exact z)) r)
def freeze (x : Str) (ρ : Slots) : Slots := match ρ x with
  | some (.own l) => ρ.set x (.val (.lst l.items))
  | _ => ρ
theorem Loc.freeze (x : Str) (I : Inv W Z s) (L : Loc W Z s.heap env ρ α) : ∃ Z', FStep W env Z s ρ α Z' s (freeze x ρ) α := by
  unfold Mine.freeze
  split
  · rename_i l hx
    have fb : FOwn env ρ α (α x) := .inr (.inr ⟨x, l, hx, rfl⟩)
    obtain ⟨m, ns, hv⟩ := L.ns
    obtain ⟨v, a, hv', vs, ⟨n, hn⟩, rs⟩ := hv x _ hx
    have hloc : env.locals ≠ α x := fun q => by
      obtain ⟨o, es, ep, e, dd, _⟩ := ns
      rw [q, hn] at e; cases e; cases dd
    have hcell : ∀ c w, s.heap.IsCell c w → c ≠ α x := fun c w hc q => by
      obtain ⟨o, e, dd⟩ := hc
      rw [q, hn] at e; cases e; cases dd
    have hfo : ∀ b, FOwn env (ρ.set x (.val (.lst l.items))) α b → FOwn env ρ α b ∧ b ≠ α x := by
      rintro b (rfl | ⟨y, hn', hy⟩ | ⟨y, m, hy, rfl⟩)
      · exact ⟨.inl rfl, hloc⟩
      · obtain ⟨w, hw⟩ := L.cell y _ hy; exact ⟨.inr (.inl ⟨y, hn', hy⟩), hcell _ w hw⟩
      · unfold Slots.set at hy
        by_cases e : y = x
        · rw [if_pos e] at hy; cases hy
        · rw [if_neg e] at hy; exact ⟨.inr (.inr ⟨y, m, hy, rfl⟩), fun q => e (L.inj y x m l hy hx q)⟩
    have sub : ∀ y m, (ρ.set x (.val (.lst l.items))) y = some (.own m) → ρ y = some (.own m) := fun y m hy => by
      unfold Slots.set at hy
      by_cases e : y = x
      · rw [if_pos e] at hy; cases hy
      · rwa [if_neg e] at hy
    refine ⟨fun b => Z b ∨ b = α x, ⟨⟨I.ok, I.base, I.xs, fun b z => z.elim (I.zin b) fun e => ⟨_, e ▸ hn⟩, I.os, I.bare, fun b z => z.elim (I.zx b) fun e => e ▸ (L.nb _ fb).2, fun b h => .inl (I.z0 b h), I.tk⟩, fun _ _ _ e => e, fun _ z => .inl z, fun b z => z.elim .inl fun e => .inr (.inl (e ▸ fb)), fun _ _ _ e => e⟩, fun b f => .inl (hfo b f).1,
      ⟨⟨m, ns, fun y sv hy => ?_⟩, fun b f z => z.elim (L.nz b (hfo b f).1) (hfo b f).2, fun b f => L.nb b (hfo b f).1, fun y m b hy hb => L.fix y m b (sub y m hy) hb, fun y z a b hy hz e => L.inj y z a b (sub y a hy) (sub z b hz) e, L.cell, L.cinj, fun c hc => .inl (L.slf c hc)⟩⟩
    unfold Slots.set at hy
    by_cases e : y = x
    · rw [if_pos e] at hy
      cases hy
      subst e
      exact ⟨v, a, by rw [hv']; exact .lst (.inr rfl) ⟨_, hn, rfl, n, rfl⟩ (rs.mono (fun _ z => .inl z) fun _ _ _ e => e)⟩
    · rw [if_neg e] at hy
      obtain ⟨v, a, rv⟩ := hv y sv hy
      refine ⟨v, a, ?_⟩
      cases sv with
      | val av => exact rv.mono (fun _ z => .inl z) fun _ _ _ e => e
      | own l'' => obtain ⟨e1, vs, hn, rs⟩ := rv; exact ⟨e1, vs, hn, rs.mono (fun _ z => .inl z) fun _ _ _ e => e⟩
  · exact ⟨Z, .id I L⟩
inductive AFlow where
  | next | brk | cont
  | ret (v : AV)
def FlowRep (Z : AddrSet) (h : Heap) : Flow → AFlow → Prop
  | .next, .next => True
  | .brk, .brk => True
  | .cont, .cont => True
  | .ret v, .ret a => RepV Z h v a
  | _, _ => False
theorem flow_cases {Z : AddrSet} {h : Heap} {P : Flow → AFlow → Prop} {f : Flow} {fl : AFlow} (r : FlowRep Z h f fl) (h1 : P .next .next) (h2 : P .brk .brk) (h3 : P .cont .cont) (h4 : ∀ v a, RepV Z h v a → P (.ret v) (.ret a)) : P f fl := by
  cases fl <;> cases f <;> first | exact r.elim | assumption | exact h4 _ _ r
def Run (W : Wd) (A : Around) (env : Env) (Z : AddrSet) (s : Shared) (ρ : Slots) (α : Str → Addr) (t : Sem Flow) (fl : AFlow) (ρ' : Slots) : Prop :=
  ∀ (Q : Flow → Shared → Prop) (E' : Value → Shared → Prop), (∀ f s' Z' α', FStep W env Z s ρ α Z' s' ρ' α' → FlowRep Z' s'.heap f fl → Q f s') → wpAny W.M A t Q E' s
def DenS (W : Wd) (d : Nat) (sc : Scope) (st : Stmt) (F : Slots → Option (AFlow × Slots)) : Prop :=
  ∀ (A : Around) (env : Env) (Z : AddrSet) (s : Shared) (ρ : Slots) (α : Str → Addr) (fl : AFlow) (ρ' : Slots), Room A d → EnvOk env sc → Inv W Z s → Loc W Z s.heap env ρ α → F ρ = some (fl, ρ') → Run W A env Z s ρ α (exec st env) fl ρ'
def DenSs (W : Wd) (d : Nat) (sc : Scope) (sts : List Stmt) (F : Slots → Option (AFlow × Slots)) : Prop :=
  ∀ (A : Around) (env : Env) (Z : AddrSet) (s : Shared) (ρ : Slots) (α : Str → Addr) (fl : AFlow) (ρ' : Slots), Room A d → EnvOk env sc → Inv W Z s → Loc W Z s.heap env ρ α → F ρ = some (fl, ρ') → Run W A env Z s ρ α (execs sts env) fl ρ'
theorem dens_nil : DenSs W d sc [] fun ρ => some (.next, ρ) := by
  intro A env Z s ρ α fl ρ' R hE I L hf Q E' q
  cases hf
  exact wpAny_execs_nil (q .next s Z α (.id I L) trivial)
def thenA (G : Slots → Option (AFlow × Slots)) : AFlow × Slots → Option (AFlow × Slots)
  | (.next, ρ) => G ρ
  | r => some r
theorem dens_cons {st : Stmt} {rest : List Stmt} {F G : Slots → Option (AFlow × Slots)} (h : DenS W d sc st F) (hr : DenSs W d sc rest G) : DenSs W d sc (st :: rest) fun ρ => F ρ >>= thenA G := by
  intro A env Z s ρ α fl ρ' R hE I L hf Q E' q
  obtain ⟨⟨fl₁, ρ₁⟩, h₁, hf⟩ := bindO hf
  refine wpAny_execs_cons (h A env Z s ρ α fl₁ ρ₁ R hE I L h₁ _ _ fun f s₁ Z₁ α₁ p₁ r₁ => ?_)
  clear h₁
  revert hf
  apply flow_cases r₁
  · exact fun hf => hr A env Z₁ s₁ ρ₁ α₁ fl ρ' R hE p₁.step.inv p₁.loc hf _ _ fun f s₂ Z₂ α₂ p₂ r₂ => q f s₂ Z₂ α₂ (p₁.trans p₂) r₂
  · intro hf; cases hf; exact q _ s₁ Z₁ α₁ p₁ trivial
  · intro hf; cases hf; exact q _ s₁ Z₁ α₁ p₁ trivial
  · intro v a r hf; cases hf; exact q _ s₁ Z₁ α₁ p₁ r
theorem dens_freeze (x : Str) {sts : List Stmt} {F : Slots → Option (AFlow × Slots)} (h : DenSs W d sc sts F) : DenSs W d sc sts fun ρ => F (freeze x ρ) := by
  intro A env Z s ρ α fl ρ' R hE I L hf Q E' q
  obtain ⟨Z₁, p⟩ := L.freeze x I
  exact h A env Z₁ s (freeze x ρ) α fl ρ' R hE p.step.inv p.loc hf _ _ fun f s₂ Z₂ α₂ p₂ r₂ => q f s₂ Z₂ α₂ (p.trans p₂) r₂
theorem den_return {e : Expr} {pos : Pos} {f : Slots → Option AV} (h : DenP W d sc e f) : DenS W d sc (.Return (some e) pos) fun ρ => f ρ >>= fun a => some (.ret a, ρ) := by
  intro A env Z s ρ α fl ρ' R hE I L hf Q E' q
  obtain ⟨a, ha, hf⟩ := bindO hf
  cases hf
  exact wpAny_Return_some (h A env Z s ρ α a R hE I L ha _ _ fun v s₁ Z₁ p r => q (.ret v) s₁ Z₁ α (.pure L p) r)
theorem den_if {test : Expr} {body orelse : List Stmt} {pos : Pos} {c : Slots → Option Bool} {F G : Slots → Option (AFlow × Slots)} (ht : DenT W d sc test c) (hb : DenSs W d sc body F) (ho : DenSs W d sc orelse G) :
    DenS W d sc (.If test body orelse pos) fun ρ => c ρ >>= fun b => if b = true then F ρ else G ρ := by
  intro A env Z s ρ α fl ρ' R hE I L hf Q E' q
  obtain ⟨b, hb', hf⟩ := bindO hf
  refine wpAny_If (ht A env Z s ρ α b R hE I L hb' _ _ fun s₁ Z₁ p₁ => ?_)
  cases b with
  | true => exact hb A env Z₁ s₁ ρ α fl ρ' R hE p₁.inv (L.step0 p₁) hf _ _ fun f s₂ Z₂ α₂ p₂ r₂ => q f s₂ Z₂ α₂ ((FStep.pure L p₁).trans p₂) r₂
  | false => exact ho A env Z₁ s₁ ρ α fl ρ' R hE p₁.inv (L.step0 p₁) hf _ _ fun f s₂ Z₂ α₂ p₂ r₂ => q f s₂ Z₂ α₂ ((FStep.pure L p₁).trans p₂) r₂
theorem Loc.storeV {x : Str} {v : Value} {av : AV} (I : Inv W Z s) (L : Loc W Z s.heap env ρ α) (hE : EnvOk env sc) (hk : Kd sc x) (r : RepV Z s.heap v av)
    {Q : Unit → Shared → Prop} {E' : Value → Shared → Prop} (h : ∀ s' α', FStep W env Z s ρ α Z s' (ρ.set x (.val av)) α' → Q () s') : wpAny W.M A (storeName env x v) Q E' s :=
  L.store (sv := .val av) (a := α x) I hE hk r (fun l e => by cases e) fun s' p fo l => h s' _ ⟨p, fun b f => (fo b f).elim .inl (fun ⟨⟨l, e⟩, _⟩ => by cases e), l⟩
theorem den_assign {x : Str} {p pos : Pos} {e : Expr} {f : Slots → Option AV} (h : DenP W d sc e f) (hk : Kd sc x) (hs : ∀ env, swapsWith e (some (.Name x p)) pos.line env = pure false) :
    DenS W d sc (.Assign [.Name x p] e pos) fun ρ => f ρ >>= fun a => some (.next, ρ.set x (.val a)) := by
  intro A env Z s ρ α fl ρ' R hE I L hf Q E' q
  obtain ⟨a, ha, hf⟩ := bindO hf
  cases hf
  exact wpAny_Assign_Name (h A env Z s ρ α a R hE I L ha _ _ fun v s₁ Z₁ p₁ r₁ => (L.step0 p₁).storeV p₁.inv hE hk r₁ fun s₂ α₂ p₂ => q .next s₂ Z₁ α₂ ((FStep.pure L p₁).trans p₂) trivial) (hs env)
def augA (op : Operator) (a b : AV) : Option AV := match op with
  | .Add => (match a with
    | .int a => b.int? >>= fun b => some (.int (a + b))
    | .str x => b.str? >>= fun y => if x.length + y.length ≤ 16777216 then some (.str (x ++ y)) else none
    | _ => none)
  | _ => none
theorem augA_ok (I : Inv W Z s) {op : Operator} {a b c : AV} {va vb : Value} (ra : RepV Z s.heap va a) (rb : RepV Z s.heap vb b) (h : augA op a b = some c) : Gives W A Z s (inplaceOp op va vb) c := by
  cases op with
  | Add =>
    cases a with
    | int i =>
      obtain ⟨j, hj, h⟩ := bindO h; cases h
      obtain ⟨t, rfl⟩ := ra.int'; obtain ⟨t', rfl⟩ := int?_rep hj rb
      exact .val I fun Q E' q => iadd_int (q _ _ (.int _ _))
    | str x =>
      obtain ⟨y, hj, h⟩ := bindO h; obtain ⟨hc, h⟩ := iteO h; cases h
      obtain ⟨t, rfl⟩ := ra.str'; obtain ⟨t', rfl⟩ := str?_rep hj rb
      exact .val I fun Q E' q => iadd_str (fun t' tk => q _ _ (.str _ _)) hc
    | _ => cases h
  | _ => cases h
theorem den_aug {x : Str} {p pos : Pos} {op : Operator} {e : Expr} {f : Slots → Option AV} (h : DenP W d sc e f) (hk : Kd sc x) (hn : (x == ("__classdict__" : Str)) = false) :
    DenS W d sc (.AugAssign (.Name x p) op e pos) fun ρ => getV ρ x >>= fun a => f ρ >>= fun b => augA op a b >>= fun c => some (.next, ρ.set x (.val c)) := by
  intro A env Z s ρ α fl ρ' R hE I L hf Q E' q
  obtain ⟨a, ha, hf⟩ := bindO hf
  obtain ⟨b, hb, hf⟩ := bindO hf
  obtain ⟨c, hc, hf⟩ := bindO hf
  cases hf
  refine wpAny_AugAssign_Name (L.load hE (getV_eq ha) (fun va ra => h A env Z s ρ α b R hE I L hb _ _ fun vb s₁ Z₁ p₁ r₁ => augA_ok p₁.inv (p₁.rep0 ra) r₁ hc _ _ fun v s₂ Z₂ p₂ r₂ =>
    ((L.step0 p₁).step0 p₂).storeV p₂.inv hE hk r₂ fun s₃ α₃ p₃ => q .next s₃ Z₂ α₃ ((FStep.pure L (p₁.tr p₂)).trans p₃) trivial) hn)
end
end Mine
end
section
set_option linter.unusedVariables false
namespace Mine
section
variable {W : Wd} {Z Z' Z₁ : AddrSet} {s s' s₁ : Shared} {env : Env} {sc : Scope} {ρ ρ' : Slots} {α α' : Str → Addr} {A : Around} {d : Nat}
-- lists of the frame's own
def GivesO (W : Wd) (A : Around) (Z : AddrSet) (s : Shared) (t : Sem Value) (l : List AV) : Prop :=
  ∀ (Q : Value → Shared → Prop) (E' : Value → Shared → Prop), (∀ a vs s' Z', Step W .none Z s Z' s' → s.heap.get? a = none → ¬ Z' a → s'.heap.PlainList a vs.toArray → RepVs Z' s'.heap vs l → Q (.ref a) s') → wpAny W.M A t Q E' s
def DenO (W : Wd) (d : Nat) (sc : Scope) (e : Expr) (f : Slots → Option (List AV)) : Prop :=
  ∀ (A : Around) (env : Env) (Z : AddrSet) (s : Shared) (ρ : Slots) (α : Str → Addr) (l : List AV), Room A d → EnvOk env sc → Inv W Z s → Loc W Z s.heap env ρ α → f ρ = some l → GivesO W A Z s (eval e env) l
theorem GivesO.newLst (I : Inv W Z s) {t : Sem Value} {vs : List Value} {l : List AV} {n : Nat} (r : RepVs Z s.heap vs l)
    (h : ∀ (Q : Value → Shared → Prop) E', (∀ tk, Q (.ref s.heap.objs.size) { s with heap := s.heap.push { cls := .type "list", data := .seq vs.toArray n }, toks := tk }) → wpAny W.M A t Q E' s) : GivesO W A Z s t l :=
  fun Q E' q => wpAny_with_toks (Nat.le_refl _) (h _ _ fun tk (htk : s.toks ≤ tk) => by
    have hg := Heap.get?_push_size s.heap (o := { cls := .type "list", data := .seq vs.toArray n }) rfl
    exact q _ _ _ _ (.grow I (push_keep _ _)) (push_none _) (I.fresh_z (push_none _)) ⟨n, hg⟩ (r.mono (fun _ z => z) fun a o _ e => push_keep _ _ _ _ e))
theorem deno_list {es : List Expr} {pos : Pos} {f : Slots → Option (List AV)} (h : DenPs W d sc es f) : DenO W d sc (.List es pos) fun ρ => f ρ >>= fun l => if l.length ≤ 1000000 then some l else none := by
  intro A env Z s ρ α l' R hE I L hf Q E' q
  obtain ⟨l, hl, hf⟩ := bindO hf
  split at hf
  · cases hf
    refine List_ (h A env Z s ρ α _ R hE I L hl pos _ _ fun vs s₁ Z₁ p₁ r₁ => ?_)
    refine (GivesO.newLst (n := 0) p₁.inv r₁ fun Q E' q => wpAny_newObj_type (q _) ?_) _ _ fun a vs s₂ Z₂ p₂ hn hz hp r₂ => q a vs s₂ Z₂ (p₁.tr p₂) ((p₁.none_back hn).resolve_left id) hz hp r₂
    show vs.toArray.size ≤ sizeLine
    rw [List.size_toArray, r₁.length]; unfold sizeLine; (first | lia | omega)
  · cases hf
theorem den_ofO {e : Expr} {f : Slots → Option (List AV)} (h : DenO W d sc e f) : DenP W d sc e fun ρ => (f ρ).map .lst := by
  intro A env Z s ρ α av R hE I L hf Q E' q
  obtain ⟨l, hl, rfl⟩ := Option.map_eq_some_iff.mp hf
  refine h A env Z s ρ α l R hE I L hl _ _ fun a vs s' Z' p hn hz hp r => ?_
  obtain ⟨n, hp⟩ := hp
  refine q _ s' (fun b => Z' b ∨ b = a) ⟨⟨p.inv.ok, p.inv.base, p.inv.xs, fun b z => z.elim (p.inv.zin b) fun e => ⟨_, e ▸ hp⟩, p.inv.os, p.inv.bare, fun b z => z.elim (p.inv.zx b) fun e => e ▸ I.fresh_x hn, fun b h => .inl (p.inv.z0 b h), p.inv.tk⟩, p.keep, fun b z => .inl (p.zsub b z), fun b z => z.elim (p.znew b) fun e => .inr (.inr (e ▸ hn)), p.gens⟩
    (.lst (.inr rfl) ⟨_, hp, rfl, n, rfl⟩ (r.mono (fun _ z => .inl z) fun _ _ _ e => e))
theorem den_assignO {x : Str} {p pos : Pos} {e : Expr} {f : Slots → Option (List AV)} (h : DenO W d sc e f) (hk : Kd sc x) (hs : ∀ env, swapsWith e (some (.Name x p)) pos.line env = pure false) :
    DenS W d sc (.Assign [.Name x p] e pos) fun ρ => f ρ >>= fun l => some (.next, ρ.set x (.own ⟨none, l⟩)) := by
  intro A env Z s ρ α fl ρ' R hE I L hf Q E' q
  obtain ⟨l, hl, hf⟩ := bindO hf
  cases hf
  refine wpAny_Assign_Name (h A env Z s ρ α l R hE I L hl _ _ fun a vs s₁ Z₁ p₁ hn hz hp r => ?_) (hs env)
  have L₁ := L.step0 p₁
  refine L₁.store (sv := .own ⟨none, l⟩) (a := a) p₁.inv hE hk ⟨rfl, vs, hp, r⟩ (fun l₀ e₀ => ⟨hz, I.fresh_b hn, I.fresh_x hn, (fun b h => by cases e₀; cases h), fun y l' _ hy e => ?_⟩) fun s₂ p₂ fo L₂ => q .next s₂ Z₁ _ ⟨p₁.weak.trans p₂ (fun _ h => .inl h) (fun _ h => h.elim), fun b f => (fo b f).imp id fun ⟨_, e⟩ => e ▸ hn, L₂⟩ trivial
  obtain ⟨o, ho⟩ := L.alive (.inr (.inr ⟨y, l', hy, rfl⟩))
  rw [e, hn] at ho; cases ho
def getO (ρ : Slots) (x : Str) : Option OL := match ρ x with | some (.own l) => some l | _ => none
theorem getO_eq {x : Str} {l : OL} (h : getO ρ x = some l) : ρ x = some (.own l) := by
  unfold getO at h
  split at h
  · cases h; assumption
  · cases h
def getL (ρ : Slots) (x : Str) : Option (List AV) := match ρ x with | some (.own l) => some l.items | some (.val (.lst l)) => some l | _ => none
theorem getL_load {x : Str} {l : List AV} (L : Loc W Z s.heap env ρ α) (hE : EnvOk env sc) (h : getL ρ x = some l) (hn : (x == ("__classdict__" : Str)) = false) {Q : Value → Shared → Prop} {E' : Value → Shared → Prop}
    (q : ∀ a vs, s.heap.IsList a vs.toArray → RepVs Z s.heap vs l → Q (.ref a) s) : wpAny W.M A (loadName env x) Q E' s := by
  unfold getL at h
  split at h
  · rename_i e; cases h
    refine L.load hE e (fun v r => ?_) hn
    obtain ⟨rfl, vs, hp, rs⟩ := r
    exact q _ vs hp.isList rs
  · rename_i e; cases h
    refine L.load hE e (fun v r => ?_) hn
    cases r with | lst z hl rl => exact q _ _ hl rl
  · cases h
theorem den_len_name {x : Str} {np p pos : Pos} (hg : W.Glob "len" (.builtin "len")) (hk : sc.names.lookup ("len" : Str) = some .globalImplicit) (h1 : (x == ("__debug__" : Str)) = false) (hn : (x == ("__classdict__" : Str)) = false) :
    DenP W d sc (.Call (.Name "len" np) [.Name x p] [] pos) fun ρ => getL ρ x >>= fun l => if l.length ≤ 16777216 then some (.int l.length) else none := by
  intro A env Z s ρ α av R hE I L hf Q E' q
  obtain ⟨l, hl, hf⟩ := bindO hf
  obtain ⟨hz, hf⟩ := iteO hf
  · skip
    cases hf
    show wpAny _ _ (do callWith pos (← eval (.Name "len" np) env) [] (backTo pos (starEach [.Name x p] env)) (backToKw pos (keywordEach [] env))) _ _ _
    refine wpAny_bind (load_glob hE I hg hk (by decide) (callWith_of (P := W.K.In) rfl (keep_builtin "len") (evalArgs_ns rfl (wpAny_items_cons (wpAny_Name (getL_load L hE hl hn fun a vs hl' rl => wpAny_items_nil ⟨I.kin, ?_⟩) h1)))))
    refine len_list hl' (by simp only [List.size_toArray, rl.length]; (first | lia | omega)) ?_
    simp only [List.size_toArray, rl.length]
    exact q _ _ Z (.toks I _) (.int _ _)
def truthN (ρ : Slots) (x : Str) : Option Bool := match ρ x with | some (.own l) => truthA (.lst l.items) | some (.val v) => truthA v | none => none
theorem upd_plain {h : Heap} {a : Addr} {its : Array Value} {n : Nat} (e : h.get? a = some { cls := .type "list", data := .seq its n }) (f : Array Value → Array Value) : (h.update a (Obj.mapSeq f)).PlainList a (f its) :=
  ⟨_, Heap.get?_update_self (Obj.mapSeq f) e rfl⟩
end
end Mine
end
section
set_option linter.unusedVariables false
namespace Mine
section
variable {W : Wd} {Z Z' Z₁ : AddrSet} {s s' s₁ : Shared} {env : Env} {sc : Scope} {ρ ρ' : Slots} {α α' : Str → Addr} {A : Around} {d : Nat}
theorem own_meth {x : Str} {name : Str} {p1 apos pos : Pos} {es : List Expr} {fs : Slots → Option (List AV)} {id : String} {l : OL} {args : List AV}
    (h1 : (x == ("__debug__" : Str)) = false) (hn : (x == ("__classdict__" : Str)) = false)
    (hbase : ∀ env, attributeBase (.Name x p1) name env (eval (.Name x p1) env) = eval (.Name x p1) env)
    (hfew : ∀ env, ((backTo pos (starEach es env)).all (fun x => !x.1) && (backToKw pos (keywordEach [] env)).all (fun x => x.1.isSome) && decide (es.length + ([] : List Keyword).length + (if ([] : List Keyword).isEmpty then 0 else 1) < 30)) = true)
    (hline : (apos.endLine == pos.line) = true) (slot : Slot "list" name id) (hty : typeOf (.builtin id) = pure (.type "method_descriptor")) (ha : DenPs W d sc es fs) (hns : ∀ env pos, (backTo pos (starEach es env)).any (·.1) = false)
    (R : Room A d) (hE : EnvOk env sc) (I : Inv W Z s) (L : Loc W Z s.heap env ρ α) (hx : ρ x = some (.own l)) (hargs : fs ρ = some args) {Q : Value → Shared → Prop} {E' : Value → Shared → Prop}
    (q : ∀ its n ws s₁ Z₁, Step W .none Z s Z₁ s₁ → s₁.heap.get? (α x) = some { cls := .type "list", data := .seq (its : List Value).toArray n } → RepVs Z₁ s₁.heap its l.items → RepVs Z₁ s₁.heap ws args → wpAny W.M A (call (.builtin id) (.ref (α x) :: ws)) Q E' s₁) :
    wpAny W.M A (eval (.Call (.Attribute (.Name x p1) name apos) es [] pos) env) Q E' s := by
  refine wpAny_Call_method (hbase env) (hfew env) hline F.plainAttrs_list slot hty (wpAny_Name (L.load hE hx (fun v r => ?_) hn) h1)
  obtain ⟨rfl, its, ⟨n, hp⟩, rs⟩ := r
  refine ⟨⟨_, hp, rfl⟩, fun a e => (by cases e; exact ⟨_, hp, rfl⟩), ?_⟩
  exact callWith_den (first := [.ref (α x)]) (keep_builtin id) ha hns R hE I L hargs fun vs s₁ Z₁ p₁ r₁ => q its n vs s₁ Z₁ p₁ (p₁.keep _ _ (fun h => h) hp) (p₁.reps0 rs) r₁
theorem den_append {x : Str} {p1 apos cpos pos : Pos} {e : Expr} {f : Slots → Option AV} (h : DenP W d sc e f) (h1 : (x == ("__debug__" : Str)) = false) (hn : (x == ("__classdict__" : Str)) = false)
    (hs : ∀ env, starEach [e] env = [(false, eval e env)]) (hline : (apos.endLine == cpos.line) = true) :
    DenS W d sc (.Expr (.Call (.Attribute (.Name x p1) "append" apos) [e] [] cpos) pos) fun ρ => getO ρ x >>= fun l => f ρ >>= fun a => if l.items.length ≤ 1000000 then some (.next, ρ.set x (.own ⟨l.place, l.items ++ [a]⟩)) else none := by
  intro A env Z s ρ α fl ρ' R hE I L hf Q E' q
  obtain ⟨l, hl, hf⟩ := bindO hf
  obtain ⟨a, ha, hf⟩ := bindO hf
  obtain ⟨hz, hf⟩ := iteO hf
  · cases hf
    have hx := getO_eq hl
    have hns : ∀ env pos, (backTo pos (starEach [e] env)).any (·.1) = false := fun env pos => by rw [hs]; rfl
    refine wpAny_Expr (own_meth (es := [e]) h1 hn (fun _ => rfl) (fun env => by rw [hs]; rfl) hline F.slot_list_append F.type_list_append (denPs_cons h denPs_nil (fun env => by rw [hs]; rfl)) hns R hE I L hx (args := [a]) (by simp [ha]) fun its n ws s₁ Z₁ p₁ hp rs rw' => ?_) (by
      show (env.scope.kind == .module && _) = false
      rw [hE.kfn]; rfl)
    obtain ⟨w, rfl, rq⟩ := rw'.one
    refine append_at (n := n) hp (fun h' hsb ho' => ?_) (by rw [List.size_toArray, rs.length]; unfold sizeLine; (first | lia | omega))
    have fs := (L.step0 p₁).upd (tk := s₁.toks) (vs' := its ++ [w]) p₁.inv hx hsb ⟨n + 1, by simpa using ho'⟩ (rs.snoc rq)
    exact q .next _ Z₁ α ((FStep.pure L p₁).trans fs) trivial
def DenTg (W : Wd) (d : Nat) (sc : Scope) (t : Expr) (G : AV → Slots → Option Slots) : Prop :=
  ∀ (A : Around) (env : Env) (Z : AddrSet) (s : Shared) (ρ : Slots) (α : Str → Addr) (v : Value) (av : AV) (ρ' : Slots), Room A d → EnvOk env sc → Inv W Z s → Loc W Z s.heap env ρ α → RepV Z s.heap v av → G av ρ = some ρ' →
    ∀ (Q : Unit → Shared → Prop) (E' : Value → Shared → Prop), (∀ s' Z' α', FStep W env Z s ρ α Z' s' ρ' α' → Q () s') → wpAny W.M A (assign t env v) Q E' s
def DenTgs (W : Wd) (d : Nat) (sc : Scope) (ts : List Expr) (G : List AV → Slots → Option Slots) : Prop :=
  ∀ (A : Around) (env : Env) (Z : AddrSet) (s : Shared) (ρ : Slots) (α : Str → Addr) (vs : List Value) (l : List AV) (ρ' : Slots), Room A d → EnvOk env sc → Inv W Z s → Loc W Z s.heap env ρ α → RepVs Z s.heap vs l → l.length = ts.length → G l ρ = some ρ' →
    ∀ (Q : Unit → Shared → Prop) (E' : Value → Shared → Prop), (∀ s' Z' α', FStep W env Z s ρ α Z' s' ρ' α' → Q () s') → wpAny W.M A (assignInOrder ((assignEach ts env).map (·.2)) vs) Q E' s
theorem tg_name {x : Str} {p : Pos} (hk : Kd sc x) : DenTg W d sc (.Name x p) fun a ρ => some (ρ.set x (.val a)) := by
  intro A env Z s ρ α v av ρ' R hE I L r hf Q E' q
  cases hf
  show wpAny _ _ (do standAt p; bindName env x v) _ _ _
  exact wpAny_bind (wpAny_standAt (wpAny_bindName (L.storeV I hE hk r fun s' α' p => q s' Z α' p)))
theorem tgs_nil : DenTgs W d sc [] fun _ ρ => some ρ := by
  intro A env Z s ρ α vs l ρ' R hE I L r hl hf Q E' q
  cases hf
  cases l with
  | nil => rw [r.nil']; exact wpAny_pure (q s Z α (.id I L))
  | cons a l => cases hl
def headTg (G : AV → Slots → Option Slots) (H : List AV → Slots → Option Slots) : List AV → Slots → Option Slots
  | a :: l, ρ => G a ρ >>= H l
  | [], _ => none
theorem tgs_cons {t : Expr} {ts : List Expr} {G : AV → Slots → Option Slots} {H : List AV → Slots → Option Slots} (h : DenTg W d sc t G) (hs : DenTgs W d sc ts H) (he : ∀ env, assignEach (t :: ts) env = (false, assign t env) :: assignEach ts env) : DenTgs W d sc (t :: ts) (headTg G H) := by
  intro A env Z s ρ α vs l ρ' R hE I L r hl hf Q E' q
  cases l with
  | nil => cases hl
  | cons a l =>
    obtain ⟨v, vs, rfl, r1, r2⟩ := r.cons'
    obtain ⟨ρ₁, h₁, h₂⟩ := bindO hf
    rw [he]
    show wpAny _ _ (do holding _ (assign t env _); assignInOrder ((assignEach ts env).map (·.2)) _) _ _ _
    refine wpAny_bind (wpAny_holding (h A env Z s ρ α _ a ρ₁ R hE I L r1 h₁ _ _ fun s₁ Z₁ α₁ p₁ => ?_))
    have hz : ∀ b, Z b → ¬ (Own.addrs (FOwn env ρ α)).a b := fun b z f => L.nz b f z
    exact hs A env Z₁ s₁ ρ₁ α₁ _ l ρ' R hE p₁.step.inv p₁.loc (p₁.step.reps hz r2) (by simpa using hl) h₂ _ _ fun s₂ Z₂ α₂ p₂ => q s₂ Z₂ α₂ (p₁.trans p₂)
theorem draw_list {I l : Addr} {items : Array Value} {E' : Value → Shared → Prop} (hh : A.handled = none) (hne : l ≠ I) (k i : Nat) (s : Shared) (Q : List Value → Shared → Prop) (h1 : s.heap.IsListIter I l i) (h2 : s.heap.IsList l items) (hi : i + k ≤ items.size)
    (q : ∀ h' tk, h'.IsListIter I l (i + k) → h'.IsList l items → (∀ b o, b ≠ I → s.heap.get? b = some o → h'.get? b = some o) → Q ((items.toList.drop i).take k) { s with heap := h', toks := tk }) : wpAny W.M A (draw (.ref I) k) Q E' s := by
  induction k generalizing i s Q with
  | zero =>
    show wpAny _ _ (pure []) _ _ _
    exact wpAny_pure (q s.heap s.toks h1 h2 fun _ _ _ e => e)
  | succ k ih =>
    have hlt : i < items.size := by (first | lia | omega)
    refine wpAny_bind ((Walks.list (prog := W.prog) (w := W.w) hh I l hne items).item i s _ _ hlt ⟨h1, h2⟩ fun v h' tk hv st hk => ?_)
    refine wpAny_bind (wpAny_holding (ih (i + 1) _ _ st.1 st.2 (by (first | lia | omega)) fun h'' tk' i1 i2 hk' => wpAny_pure ?_))
    have e : (items.toList.drop i).take (k + 1) = v :: (items.toList.drop (i + 1)).take k := by
      rw [← Array.getElem?_toList] at hv
      obtain ⟨hl, he⟩ := List.getElem?_eq_some_iff.mp hv
      rw [List.drop_eq_getElem_cons hl, List.take_succ_cons, he]
    have := q h'' tk' (by rw [show i + (k + 1) = i + 1 + k by (first | lia | omega)]; exact i1) i2 fun b o hb e => hk' b o hb (hk b o (fun h => hb (List.mem_singleton.mp h)) e)
    rw [e] at this
    exact this
theorem unpackItems_list {l : Addr} {vs : List Value} {Q : List Value → Shared → Prop} {E' : Value → Shared → Prop} (hh : A.handled = none) (hl : s.heap.IsList l vs.toArray)
    (hQ : ∀ h' tk, (∀ b o, s.heap.get? b = some o → h'.get? b = some o) → Q vs { s with heap := h', toks := tk }) : wpAny W.M A (unpackItems (.ref l) vs.length none) Q E' s := by
  have hne : l ≠ s.heap.objs.size := by obtain ⟨o, ho, _⟩ := hl; exact Nat.ne_of_lt (Heap.lt_size ho)
  unfold unpackItems
  refine wpAny_bind ?_
  unfold notIterableAtAll
  refine wpAny_bind (wpAny_specialOf hl.typeIs slot_list_iter.lookup ?_)
  refine wpAny_pure ?_
  simp only [Bool.false_eq_true, if_false]
  refine wpAny_bind (wpAny_holding (wpAny_pyIter_list hl ?_))
  refine wpAny_bind (wpAny_holding (draw_list (I := s.heap.objs.size) (l := l) (items := vs.toArray) hh hne vs.length 0 _ _ ⟨_, Heap.get?_push_size _ rfl, rfl, rfl⟩ (let ⟨o, ho, r⟩ := hl; ⟨o, Heap.get?_push_of_some _ ho, r⟩) (by rw [List.size_toArray]; (first | lia | omega)) fun h₁ tk₁ i1 i2 hk₁ => ?_))
  have e : List.take vs.length (List.drop 0 vs.toArray.toList) = vs := by rw [List.drop_zero, List.take_length]
  rw [Nat.zero_add] at i1
  rw [e, if_neg (Nat.lt_irrefl _)]
  refine wpAny_bind (wpAny_holding ((Walks.list (prog := W.prog) (w := W.w) hh s.heap.objs.size l hne vs.toArray).done _ _ _ ⟨i1, i2⟩ fun h₂ tk₂ hk₂ => ?_))
  simp only [Option.isSome_none, Bool.false_eq_true, if_false]
  exact wpAny_pure (hQ h₂ tk₂ fun b o e => by
    have hb : b ≠ s.heap.objs.size := Nat.ne_of_lt (Heap.lt_size e)
    exact hk₂ b o (fun h => hb (List.mem_singleton.mp h)) (hk₁ b o hb (Heap.get?_push_of_some _ e)))
def seqA : AV → Option (List AV)
  | .tup l => some l
  | .lst l => some l
  | _ => none
theorem unpack_items {v : Value} {av : AV} {l : List AV} {Q : List Value → Shared → Prop} {E' : Value → Shared → Prop} (R : Room A d) (I : Inv W Z s) (r : RepV Z s.heap v av) (h : seqA av = some l)
    (q : ∀ vs s', Step W .none Z s Z s' → RepVs Z s'.heap vs l → Q vs s') : wpAny W.M A (unpackItems v l.length none) Q E' s := by
  cases av with
  | tup l' =>
    cases h
    obtain ⟨a, vs, rfl, z, ht, rl⟩ := r.tup'
    rw [show l.length = vs.toArray.size from rl.length.symm]
    refine unpackItems_tuple R.handled ht fun h' hx => ?_
    have p : Step W .none Z s Z { s with heap := h' } := .grow I (tk := s.toks) fun b o e => hx b o (Nat.ne_of_lt (Heap.lt_size e)) e
    exact q vs _ p (p.reps0 rl)
  | lst l' =>
    cases h
    obtain ⟨a, vs, rfl, z, ht, rl⟩ := r.lst'
    rw [← rl.length]
    refine wpAny_with_toks (Nat.le_refl _) (unpackItems_list R.handled ht fun h' tk hx => fun (htk : s.toks ≤ tk) => ?_)
    have p : Step W .none Z s Z { s with heap := h', toks := tk } := .grow I hx htk
    exact q vs _ p (p.reps0 rl)
  | _ => cases h
theorem tg_tuple {ts : List Expr} {k : Nat} {pos : Pos} {G : List AV → Slots → Option Slots} (h : DenTgs W d sc ts G) (hst : ∀ env, (assignEach ts env).findIdx? (·.1) = none) (hlen : ∀ env, (assignEach ts env).length = ts.length) :
    DenTg W d sc (.Tuple ts k pos) fun a ρ => seqA a >>= fun l => if l.length = ts.length then G l ρ else none := by
  intro A env Z s ρ α v av ρ' R hE I L r hf Q E' q
  obtain ⟨l, hl, hf⟩ := bindO hf
  obtain ⟨hn, hf⟩ := iteO hf
  · skip
    show wpAny _ _ (do standAt pos; unpack v (assignEach ts env)) _ _ _
    refine wpAny_bind (wpAny_standAt ?_)
    unfold unpack
    rw [hst, hlen, ← hn]
    refine wpAny_bind (wpAny_holding (unpack_items R I r hl fun vs s₁ p₁ r₁ => ?_))
    exact h A env Z s₁ ρ α vs l ρ' R hE p₁.inv (L.step0 p₁) r₁ hn hf _ _ fun s₂ Z₂ α₂ p₂ => q s₂ Z₂ α₂ ((FStep.pure L p₁).trans p₂)
end
end Mine
end
section
set_option linter.unusedVariables false
namespace Mine
section
variable {W : Wd} {Z Z' Z₁ Z₀ : AddrSet} {s s' s₁ s₀ : Shared} {env : Env} {sc : Scope} {ρ ρ' ρ₀ : Slots} {α α' α₀ : Str → Addr} {A : Around} {d : Nat}
theorem FStep.zo (L : Loc W Z s.heap env ρ α) : ∀ b, Z b → ¬ (Own.addrs (FOwn env ρ α)).a b := fun b z f => L.nz b f z
theorem exec_Assign {targets : List Expr} {value : Expr} {pos : Pos} {Q : Flow → Shared → Prop} {E' : Value → Shared → Prop} {sw : Option (List Str)} (h1 : swapsWithSole targets value pos.line env = pure false) (h2 : swappedStores targets value env = pure sw)
    (h : wpAny W.M A (eval value env) (fun v s₁ => wpAny W.M A (assignStores env v sw ((assignEach targets env).map (·.2))) Q E' s₁) E' s) : wpAny W.M A (exec (.Assign targets value pos) env) Q E' s := by
  show wpAny _ _ (do
    standAt pos
    if ← swapsWithSole targets value pos.line env then do
      evalThenUse value env fun v => assignAll v ((assignEach targets env).map (·.2))
      pure .next
    else do
      let v ← eval value env
      assignStores env v (← swappedStores targets value env) ((assignEach targets env).map (·.2))) _ _ _
  rw [h1, h2]
  exact wpAny_bind (wpAny_standAt (wpAny_bind (wpAny_pure (wpAny_bind (wpAny_mono h (fun v s₁ h' => wpAny_bind (wpAny_pure h')) fun _ _ x => x)))))
inductive SReps (Z : AddrSet) (h : Heap) (s₀ : Shared) : List Value → List SV → List Addr → Prop where
  | nil : SReps Z h s₀ [] [] []
  | val {v : Value} {a : AV} {vs : List Value} {svs : List SV} {as : List Addr} : RepV Z h v a → SReps Z h s₀ vs svs as → SReps Z h s₀ (v :: vs) (.val a :: svs) as
  | own {a : Addr} {ws : List Value} {l : List AV} {vs : List Value} {svs : List SV} {as : List Addr} : s₀.heap.get? a = none → ¬ Z a → h.PlainList a ws.toArray → RepVs Z h ws l → a ∉ as → SReps Z h s₀ vs svs as → SReps Z h s₀ (.ref a :: vs) (.own ⟨none, l⟩ :: svs) (a :: as)
theorem SReps.length {h : Heap} {vs : List Value} {svs : List SV} {as : List Addr} (r : SReps Z h s₀ vs svs as) : vs.length = svs.length := by
  induction r with
  | nil => rfl
  | val _ _ ih => simp [ih]
  | own _ _ _ _ _ _ ih => simp [ih]
theorem SReps.fresh {h : Heap} {vs : List Value} {svs : List SV} {as : List Addr} (r : SReps Z h s₀ vs svs as) : ∀ a ∈ as, s₀.heap.get? a = none ∧ ∃ o, h.get? a = some o := by
  induction r with
  | nil => intro a h; cases h
  | val _ _ ih => exact ih
  | own h1 _ hp _ _ _ ih =>
    intro a ha
    rcases List.mem_cons.mp ha with rfl | ha
    · obtain ⟨n, hp⟩ := hp; exact ⟨h1, _, hp⟩
    · exact ih a ha
theorem SReps.step {O : Own} {vs : List Value} {svs : List SV} {as : List Addr} (r : SReps Z s.heap s₀ vs svs as) (p : Step W O Z s Z' s') (hz : ∀ a, Z a → ¬ O.a a) (ha : ∀ a ∈ as, ¬ O.a a) : SReps Z' s'.heap s₀ vs svs as := by
  induction r with
  | nil => exact .nil
  | val r _ ih => exact .val (p.rep hz r) (ih ha)
  | own h1 h2 hp rs hn _ ih =>
    rename_i a _ _ _ _ _ _
    have hO := ha a (List.mem_cons_self)
    obtain ⟨n, hp⟩ := hp
    refine .own h1 (fun z => ?_) ⟨n, p.keep _ _ hO hp⟩ (p.reps hz rs) hn (ih fun b hb => ha b (List.mem_cons_of_mem _ hb))
    rcases p.znew a z with z | z | z
    · exact h2 z
    · exact hO z
    · rw [hp] at z; cases z
theorem SReps.rebase {h : Heap} {vs : List Value} {svs : List SV} {as : List Addr} (r : SReps Z h s₁ vs svs as) (hb : ∀ a, s₁.heap.get? a = none → s₀.heap.get? a = none) : SReps Z h s₀ vs svs as := by
  induction r with
  | nil => exact .nil
  | val r _ ih => exact .val r ih
  | own h1 h2 hp rs hn _ ih => exact .own (hb _ h1) h2 hp rs hn ih
def DenEs (W : Wd) (d : Nat) (sc : Scope) (es : List Expr) (f : Slots → Option (List SV)) : Prop :=
  ∀ (A : Around) (env : Env) (Z : AddrSet) (s : Shared) (ρ : Slots) (α : Str → Addr) (l : List SV), Room A d → EnvOk env sc → Inv W Z s → Loc W Z s.heap env ρ α → f ρ = some l →
    ∀ (pos : Pos) (Q : List Value → Shared → Prop) E', (∀ vs s' Z' as, Step W .none Z s Z' s' → SReps Z' s'.heap s vs l as → Q vs s') → wpAny W.M A (spliced (backTo pos (starEach es env))) Q E' s
theorem es_nil : DenEs W d sc [] fun _ => some [] := by
  intro A env Z s ρ α l R hE I L hf pos Q E' q; cases hf; exact wpAny_items_nil (q [] s Z [] (.id I) .nil)
theorem es_val {e : Expr} {rest : List Expr} {f : Slots → Option AV} {g : Slots → Option (List SV)} (he : DenP W d sc e f) (hr : DenEs W d sc rest g) (hs : ∀ env, starEach (e :: rest) env = (false, eval e env) :: starEach rest env) :
    DenEs W d sc (e :: rest) fun ρ => f ρ >>= fun a => g ρ >>= fun l => some (.val a :: l) := by
  intro A env Z s ρ α l R hE I L hf pos Q E' q
  obtain ⟨a, ha, hf⟩ := bindO hf
  obtain ⟨m, hm, hf⟩ := bindO hf
  cases hf
  exact wpAny_items_cons (he A env Z s ρ α a R hE I L ha _ _ fun v s₁ Z₁ p₁ r₁ => hr A env Z₁ s₁ ρ α m R hE p₁.inv (L.step0 p₁) hm pos _ _ fun vs s₂ Z₂ as p₂ r₂ =>
    q _ s₂ Z₂ as (p₁.tr p₂) (.val (p₂.rep0 r₁) (r₂.rebase fun a h => (p₁.none_back h).resolve_left id))) (hs env)
def setMany : Slots → List Str → List SV → Slots
  | ρ, x :: xs, v :: vs => setMany (ρ.set x v) xs vs
  | ρ, _, _ => ρ
def StoresName (W : Wd) (A : Around) (env : Env) (x : Str) (f : Value → Sem Unit) : Prop := ∀ (v : Value) (Q : Unit → Shared → Prop) (E' : Value → Shared → Prop) (s : Shared), wpAny W.M A (storeName env x v) Q E' s → wpAny W.M A (f v) Q E' s
inductive StoresAll (W : Wd) (A : Around) (env : Env) : List Str → List (Value → Sem Unit) → Prop where
  | nil : StoresAll W A env [] []
  | cons {x : Str} {xs : List Str} {f : Value → Sem Unit} {fs : List (Value → Sem Unit)} : StoresName W A env x f → StoresAll W A env xs fs → StoresAll W A env (x :: xs) (f :: fs)
theorem storeMany (I₀ : Inv W Z₀ s₀) (L₀ : Loc W Z₀ s₀.heap env ρ₀ α₀) (hE : EnvOk env sc) : ∀ {xs : List Str} {fs : List (Value → Sem Unit)} {vs : List Value} {svs : List SV} {as : List Addr} {s : Shared} {ρ : Slots} {α : Str → Addr},
    StoresAll W A env xs fs → SReps Z s.heap s₀ vs svs as → xs.length = svs.length → (∀ x ∈ xs, Kd sc x) → (∀ a ∈ as, ¬ FOwn env ρ α a) → FStep W env Z₀ s₀ ρ₀ α₀ Z s ρ α →
    ∀ {Q : Unit → Shared → Prop} {E' : Value → Shared → Prop}, (∀ s' α', FStep W env Z₀ s₀ ρ₀ α₀ Z s' (setMany ρ xs svs) α' → Q () s') → wpAny W.M A (assignInOrder fs vs) Q E' s := by
  intro xs
  induction xs with
  | nil =>
    intro fs vs svs as s ρ α hF r hl hk hn p Q E' q
    cases hF
    cases r with
    | nil => exact wpAny_pure (q s α p)
    | val => cases hl
    | own => cases hl
  | cons x xs ih =>
    intro fs vs svs as s ρ α hF r hl hk hn p Q E' q
    cases hF with | cons f1 fr =>
    have kx := hk x List.mem_cons_self
    have kr : ∀ y ∈ xs, Kd sc y := fun y hy => hk y (List.mem_cons_of_mem _ hy)
    cases r with
    | nil => cases hl
    | val r1 rr =>
      rename_i v a vs svs
      refine wpAny_bind (wpAny_holding (f1 _ _ _ _ (p.loc.store (sv := .val a) (a := α x) p.step.inv hE kx r1 (fun l e => by cases e) fun s₁ p₁ fo L₁ => ?_)))
      have fs₁ : FStep W env Z s ρ α Z s₁ (ρ.set x (.val a)) (setA α x (α x)) := ⟨p₁, fun b f => (fo b f).elim .inl (fun ⟨⟨l, e⟩, _⟩ => by cases e), L₁⟩
      refine ih fr (rr.step p₁ (FStep.zo p.loc) hn) (by simpa using hl) kr (fun b hb f => ?_) (p.trans fs₁) fun s' α' p' => q s' α' p'
      rcases fo b f with f | ⟨⟨l, e⟩, _⟩
      · exact hn b hb f
      · cases e
    | own h1 h2 hp rs hna rr =>
      rename_i b ws l vs svs as
      refine wpAny_bind (wpAny_holding (f1 _ _ _ _ (p.loc.store (sv := .own ⟨none, l⟩) (a := b) p.step.inv hE kx ⟨rfl, ws, hp, rs⟩ (fun l₀ e₀ => ⟨h2, I₀.fresh_b h1, I₀.fresh_x h1, (fun b h => by cases e₀; cases h), fun y l' _ hy e => ?_⟩) fun s₁ p₁ fo L₁ => ?_)))
      · exact hn b List.mem_cons_self (.inr (.inr ⟨y, l', hy, e⟩))
      · have fs₁ : FStep W env Z₀ s₀ ρ₀ α₀ Z s₁ (ρ.set x (.own ⟨none, l⟩)) (setA α x b) :=
          ⟨p.step.trans p₁ (fun a f => p.fo a f) (fun _ h => h.elim), fun c f => (fo c f).elim (p.fo c) fun ⟨_, e⟩ => .inr (e ▸ h1), L₁⟩
        refine ih fr (rr.step p₁ (FStep.zo p.loc) fun c hc => hn c (List.mem_cons_of_mem _ hc)) (by simpa using hl) kr (fun c hc f => ?_) fs₁ fun s' α' p' => q s' α' p'
        rcases fo c f with f | ⟨_, e⟩
        · exact hn c (List.mem_cons_of_mem _ hc) f
        · exact hna (e ▸ hc)
theorem SReps.reverse {h : Heap} {vs : List Value} {svs : List SV} {as : List Addr} (r : SReps Z h s₀ vs svs as) : ∃ as', SReps Z h s₀ vs.reverse svs.reverse as' ∧ ∀ a ∈ as', a ∈ as := by
  have app : ∀ {vs ws : List Value} {svs tvs : List SV} {as bs : List Addr}, SReps Z h s₀ vs svs as → SReps Z h s₀ ws tvs bs → (∀ a ∈ as, a ∉ bs) → SReps Z h s₀ (vs ++ ws) (svs ++ tvs) (as ++ bs) := by
    intro vs ws svs tvs as bs r q hd
    induction r with
    | nil => exact q
    | val r _ ih => exact .val r (ih hd)
    | own h1 h2 hp rs hn _ ih =>
      exact .own h1 h2 hp rs (fun hm => (List.mem_append.mp hm).elim hn (hd _ List.mem_cons_self)) (ih fun a ha => hd a (List.mem_cons_of_mem _ ha))
  induction r with
  | nil => exact ⟨[], .nil, fun _ h => h⟩
  | val r _ ih =>
    obtain ⟨as', r', hs⟩ := ih
    simp only [List.reverse_cons]
    exact ⟨as' ++ [], app r' (.val r .nil) (fun _ _ h => by cases h), fun a ha => hs a (by simpa using ha)⟩
  | own h1 h2 hp rs hn _ ih =>
    rename_i a _ _ _ _ _ _
    obtain ⟨as', r', hs⟩ := ih
    simp only [List.reverse_cons]
    refine ⟨as' ++ [a], app r' (.own h1 h2 hp rs (fun h => by cases h) .nil) (fun b hb h => ?_), fun b hb => ?_⟩
    · cases List.mem_singleton.mp h; exact hn (hs _ hb)
    · rcases List.mem_append.mp hb with h | h
      · exact List.mem_cons_of_mem _ (hs b h)
      · cases List.mem_singleton.mp h; exact List.mem_cons_self
theorem tuple_made {es : List Expr} {k : Nat} {pos : Pos} {f : Slots → Option (List SV)} {l : List SV} (h : DenEs W d sc es f) (R : Room A d) (hE : EnvOk env sc) (I : Inv W Z s) (L : Loc W Z s.heap env ρ α) (hf : f ρ = some l) (hz : l.length ≤ 1000000) {Q : Value → Shared → Prop} {E' : Value → Shared → Prop}
    (q : ∀ a vs s' Z' as, Step W .none Z s Z' s' → IsTup s'.heap a vs.toArray → SReps Z' s'.heap s vs l as → Q (.ref a) s') : wpAny W.M A (eval (.Tuple es k pos) env) Q E' s := by
  refine Tuple_ (h A env Z s ρ α l R hE I L hf pos _ _ fun vs s₁ Z₁ as p₁ r₁ => wpAny_newObj_type ?_ ?_)
  · have p₂ : Step W .none Z₁ s₁ Z₁ { s₁ with heap := s₁.heap.push { cls := .type "tuple", data := .seq vs.toArray } } := .grow p₁.inv (tk := s₁.toks) (push_keep _ _)
    exact q _ vs _ Z₁ as (p₁.tr p₂) ⟨_, Heap.get?_push_size _ rfl, rfl, 0, rfl⟩ (r₁.step p₂ (fun _ _ h => h) fun _ _ h => h)
  · show vs.toArray.size ≤ sizeLine
    rw [List.size_toArray, r₁.length]; unfold sizeLine; (first | lia | omega)
theorem stores_bind (x : Str) : StoresName W A env x (bindName env x) := fun v Q E' s h => wpAny_bindName h
theorem stores_name (x : Str) (p : Pos) : StoresName W A env x (assign (.Name x p) env) := fun v Q E' s h => by
  show wpAny _ _ (do standAt p; bindName env x v) _ _ _
  exact wpAny_bind (wpAny_standAt (wpAny_bindName h))
theorem stores_binds : ∀ xs : List Str, StoresAll W A env xs (xs.map fun n => bindName env n)
  | [] => .nil
  | x :: xs => .cons (stores_bind x) (stores_binds xs)
theorem stores_names : ∀ xs : List (Str × Pos), StoresAll W A env (xs.map (·.1)) ((assignEach (xs.map fun x => Expr.Name x.1 x.2) env).map (·.2))
  | [] => .nil
  | (x, p) :: xs => .cons (stores_name x p) (stores_names xs)
theorem den_assign_swap {t : Expr} {es : List Expr} {k : Nat} {tp pos : Pos} {names : List Str} {f : Slots → Option (List SV)} (h : DenEs W d sc es f) (hk : ∀ x ∈ names, Kd sc x)
    (h1 : ∀ env : Env, env.scope = sc → swapsWithSole [t] (.Tuple es k tp) pos.line env = pure false) (h2 : ∀ env : Env, env.scope = sc → swappedStores [t] (.Tuple es k tp) env = pure (some names)) :
    DenS W d sc (.Assign [t] (.Tuple es k tp) pos) fun ρ => f ρ >>= fun l => if l.length = names.length ∧ l.length ≤ 1000000 then some (.next, setMany ρ names.reverse l.reverse) else none := by
  intro A env Z s ρ α fl ρ' R hE I L hf Q E' q
  obtain ⟨l, hl, hf⟩ := bindO hf
  obtain ⟨hz, hf⟩ := iteO hf
  · skip
    cases hf
    refine exec_Assign (h1 env hE.scope) (h2 env hE.scope) (tuple_made h R hE I L hl hz.2 fun a vs s₁ Z₁ as p₁ ht rs => ?_)
    show wpAny _ _ (do rule "assign.swapped-stores"; let items ← unpackItems (.ref a) names.length none; assignInOrder (names.reverse.map fun n => bindName env n) items.reverse; pure Flow.next) _ _ _
    rw [show names.length = vs.toArray.size by rw [List.size_toArray, rs.length]; exact hz.1.symm]
    refine wpAny_bind (wpAny_rule (wpAny_bind (unpackItems_tuple R.handled ht fun h' hx => ?_)))
    have p₂ : Step W .none Z₁ s₁ Z₁ { s₁ with heap := h' } := .grow p₁.inv (tk := s₁.toks) fun b o e => hx b o (Nat.ne_of_lt (Heap.lt_size e)) e
    have rs₂ := rs.step p₂ (fun _ _ h => h) fun _ _ h => h
    obtain ⟨as', rr, hsub⟩ := rs₂.reverse
    have pp := (FStep.pure L p₁).trans (FStep.pure (L.step0 p₁) p₂)
    have fr : ∀ b ∈ as', ¬ FOwn env ρ α b := fun b hb fo => by
      obtain ⟨o, e⟩ := L.alive fo
      rw [(rs.fresh b (hsub b hb)).1] at e; cases e
    exact wpAny_bind (storeMany I L hE (stores_binds names.reverse) rr (by simp [hz.1]) (fun x hx => hk x (List.mem_reverse.mp hx)) fr pp fun s' α' p' => wpAny_pure (q .next s' Z₁ α' p' trivial))
theorem assignStores_one (env : Env) (v : Value) (f : Value → Sem Unit) : assignStores env v none [f] = (do f v; pure Flow.next) := rfl
theorem findIdx_names (env : Env) : ∀ xs : List (Str × Pos), (assignEach (xs.map fun x => Expr.Name x.1 x.2) env).findIdx? (·.1) = none
  | [] => rfl
  | (x, p) :: xs => by
    show ((false, assign (.Name x p) env) :: assignEach (xs.map fun x => Expr.Name x.1 x.2) env).findIdx? (·.1) = none
    rw [List.findIdx?_cons, findIdx_names env xs]; rfl
theorem names_length (env : Env) (xs : List (Str × Pos)) : (assignEach (xs.map fun x => Expr.Name x.1 x.2) env).length = xs.length := by
  induction xs with
  | nil => rfl
  | cons x r ih => exact congrArg (· + 1) ih
theorem den_assign_names {es : List Expr} {k k' : Nat} {tp tp' pos : Pos} {xs : List (Str × Pos)} {f : Slots → Option (List SV)} (h : DenEs W d sc es f) (hk : ∀ x ∈ xs.map (·.1), Kd sc x)
    (h1 : ∀ env : Env, env.scope = sc → swapsWithSole [.Tuple (xs.map fun x => Expr.Name x.1 x.2) k' tp'] (.Tuple es k tp) pos.line env = pure false) (h2 : ∀ env : Env, env.scope = sc → swappedStores [.Tuple (xs.map fun x => Expr.Name x.1 x.2) k' tp'] (.Tuple es k tp) env = pure none) :
    DenS W d sc (.Assign [.Tuple (xs.map fun x => Expr.Name x.1 x.2) k' tp'] (.Tuple es k tp) pos) fun ρ => f ρ >>= fun l => if l.length = xs.length ∧ l.length ≤ 1000000 then some (.next, setMany ρ (xs.map (·.1)) l) else none := by
  intro A env Z s ρ α fl ρ' R hE I L hf Q E' q
  obtain ⟨l, hl, hf⟩ := bindO hf
  obtain ⟨hz, hf⟩ := iteO hf
  · skip
    cases hf
    refine exec_Assign (h1 env hE.scope) (h2 env hE.scope) (tuple_made h R hE I L hl hz.2 fun a vs s₁ Z₁ as p₁ ht rs => ?_)
    have he : assignEach [Expr.Tuple (xs.map fun x => Expr.Name x.1 x.2) k' tp'] env = [(false, assign (Expr.Tuple (xs.map fun x => Expr.Name x.1 x.2) k' tp') env)] := rfl
    rw [he, List.map_cons, List.map_nil, assignStores_one]
    dsimp only
    rw [assign_Tuple]
    refine wpAny_bind ?_
    have hfi := findIdx_names env xs
    refine wpAny_bind (wpAny_standAt (unpack_tuple R.handled ht (by rw [names_length, List.size_toArray, rs.length]; exact hz.1.symm) hfi fun h' hx => ?_))
    have p₂ : Step W .none Z₁ s₁ Z₁ { s₁ with heap := h' } := .grow p₁.inv (tk := s₁.toks) fun b o e => hx b o (Nat.ne_of_lt (Heap.lt_size e)) e
    have rs₂ := rs.step p₂ (fun _ _ h => h) fun _ _ h => h
    have pp := (FStep.pure L p₁).trans (FStep.pure (L.step0 p₁) p₂)
    have fr : ∀ b ∈ as, ¬ FOwn env ρ α b := fun b hb fo => by
      obtain ⟨o, e⟩ := L.alive fo
      rw [(rs.fresh b hb).1] at e; cases e
    exact storeMany I L hE (stores_names xs) rs₂ (by simp [hz.1]) hk fr pp fun s' α' p' => wpAny_pure (q .next s' Z₁ α' p' trivial)
-- while
def whileA (c : Slots → Option Bool) (B : Slots → Option (AFlow × Slots)) : Nat → Slots → Option (AFlow × Slots)
  | 0, _ => none
  | n + 1, ρ => c ρ >>= fun b => if b = true then (B ρ >>= fun r => match r with
      | (.next, ρ') => whileA c B n ρ'
      | (.cont, ρ') => whileA c B n ρ'
      | (.brk, ρ') => some (.next, ρ')
      | (.ret v, ρ') => some (.ret v, ρ')) else some (.next, ρ)
theorem den_while (n : Nat) {test : Expr} {body : List Stmt} {pos : Pos} {c : Slots → Option Bool} {B : Slots → Option (AFlow × Slots)} (ht : DenT W d sc test c) (hb : DenSs W d sc body B) : DenS W d sc (.While test body [] pos) fun ρ => whileA c B n ρ := by
  intro A env Z s ρ α fl ρ' R hE I L hf Q E' q
  refine wpAny_While (codeAny_whileLoop (fun k s' => ∃ Z' ρ₁ α', FStep W env Z s ρ α Z' s' ρ₁ α' ∧ whileA c B k ρ₁ = some (fl, ρ')) ?_ n ⟨Z, ρ, α, .id I L, hf⟩)
  rintro k s₁ ⟨Z₁, ρ₁, α₁, p₁, hw⟩
  cases k with
  | zero => cases hw
  | succ k =>
    unfold whileA at hw
    obtain ⟨b, hb', hw⟩ := bindO hw
    refine ht A env Z₁ s₁ ρ₁ α₁ b R hE p₁.step.inv p₁.loc hb' _ _ fun s₂ Z₂ p₂ => ?_
    have pp := p₁.trans (FStep.pure p₁.loc p₂)
    cases b with
    | false =>
      cases hw
      exact wpAny_execs_nil (q .next s₂ Z₂ α₁ pp trivial)
    | true =>
      obtain ⟨⟨fl₂, ρ₂⟩, h₂, hw⟩ := bindO hw
      refine hb A env Z₂ s₂ ρ₁ α₁ fl₂ ρ₂ R hE p₂.inv pp.loc h₂ _ _ fun f s₃ Z₃ α₃ p₃ r₃ => ?_
      have ppp := pp.trans p₃
      clear h₂ p₃ pp
      revert hw
      apply flow_cases r₃
      · exact fun hw => ⟨k, Nat.lt_succ_self k, Z₃, ρ₂, α₃, ppp, hw⟩
      · intro hw; cases hw; exact q .next s₃ Z₃ α₃ ppp trivial
      · exact fun hw => ⟨k, Nat.lt_succ_self k, Z₃, ρ₂, α₃, ppp, hw⟩
      · intro v a r hw; cases hw; exact q _ s₃ Z₃ α₃ ppp r
end
end Mine
end
section
set_option linter.unusedVariables false
namespace Mine
section
variable {W : Wd} {Z Z' Z₁ Z₀ : AddrSet} {s s' s₁ s₀ : Shared} {env : Env} {sc : Scope} {ρ ρ' ρ₀ : Slots} {α α' α₀ : Str → Addr} {A : Around} {d : Nat}
def IterAt (W : Wd) (A : Around) (Z : AddrSet) (s₀ s : Shared) (target : Expr) (it : Value) (items : List AV) : Prop :=
  ∃ (I : Addr) (fp wr : List Addr) (P : Nat → Value → Prop) (St : Nat → Heap → Prop), it = .ref I ∧ Walks W.prog W.w A I fp wr items.length P St ∧ St 0 s.heap ∧
    (∀ i v, P i v → ∃ a, items[i]? = some a ∧ RepV Z s.heap v a) ∧ (∀ b ∈ wr, s₀.heap.get? b = none ∧ ¬ Z b) ∧ (∀ b ∈ fp, b ∈ wr ∨ Z b) ∧ (∀ i h, St i h → ∀ b ∈ wr, ∃ o, h.get? b = some o) ∧
    (∀ i v (s' : Shared) (Q : Unit → Shared → Prop) (E' : Value → Shared → Prop), St i s'.heap → Q () s' → wpAny W.M A (letOwnedTupleGo target it v) Q E' s')
def DenIt (W : Wd) (d : Nat) (sc : Scope) (target e : Expr) (g : Slots → Option (List AV)) : Prop :=
  ∀ (A : Around) (env : Env) (Z : AddrSet) (s : Shared) (ρ : Slots) (α : Str → Addr) (items : List AV), Room A d → EnvOk env sc → Inv W Z s → Loc W Z s.heap env ρ α → g ρ = some items →
    ∀ (Q : Value → Shared → Prop) (E' : Value → Shared → Prop), (∀ x s₁ Z₁, Step W .none Z s Z₁ s₁ → (∀ (Q' : Value → Shared → Prop) (E'' : Value → Shared → Prop), (∀ it s₂ Z₂, Step W .none Z₁ s₁ Z₂ s₂ → IterAt W A Z₂ s s₂ target it items → Q' it s₂) → wpAny W.M A (pyIter x) Q' E'' s₁) → Q x s₁) →
      wpAny W.M A (eval e env) Q E' s
inductive PlainTg : Expr → Prop
  | name (x : Str) (p : Pos) : PlainTg (.Name x p)
  | tup (es : List Expr) (k : Nat) (p : Pos) : PlainTg (.Tuple es k p)
theorem letGo_cls {target : Expr} {I : Addr} {o : Obj} {n : String} {v : Value} {Q : Unit → Shared → Prop} {E' : Value → Shared → Prop} (ht : PlainTg target) (ho : s.heap.get? I = some o) (hc : o.cls = .type n)
    (hn : (["enumerate", "zip", "dict_itemiterator", "dict_reverseitemiterator", "odict_iterator", "itertools.zip_longest", "itertools.pairwise"] : List String).contains n = false) (q : Q () s) : wpAny W.M A (letOwnedTupleGo target (.ref I) v) Q E' s := by
  cases ht with
  | name => exact wpAny_pure q
  | tup es k p =>
    unfold letOwnedTupleGo
    cases v with
    | ref a =>
      refine wpAny_bind (wpAny_load ho ?_)
      obtain ⟨c, dd, dat, sl⟩ := o
      cases (show c = _ from hc)
      cases dat with
      | fields vs =>
        simp only [hn, Bool.false_and, Bool.false_eq_true, if_false]
        exact wpAny_pure q
      | _ => exact wpAny_pure q
    | _ => exact wpAny_pure q
def signsA (x : Str) : List AV := x.cps.toList.map fun c => .str (sign1 c)
def iterA : AV → Option (List AV)
  | .lst l => some l
  | .tup l => some l
  | .str x => some (signsA x)
  | _ => none
theorem RepVs.back {h : Heap} {vs : List Value} {l : List AV} (rl : RepVs Z h vs l) {i : Nat} {w : Value} (hw : vs.toArray[i]? = some w) : ∃ a, l[i]? = some a ∧ RepV Z h w a := by
  rw [List.getElem?_toArray] at hw
  have hlt : i < l.length := by
    rw [← rl.length]; exact (List.getElem?_eq_some_iff.mp hw).1
  obtain ⟨u, hu, ru⟩ := rl.get (List.getElem?_eq_getElem hlt)
  rw [hw] at hu; cases hu
  exact ⟨_, List.getElem?_eq_getElem hlt, ru⟩
theorem iter_seq {a : Addr} {vs : List Value} {items : List AV} {target : Expr} {T : String} {St : Nat → Heap → Prop} (ht : PlainTg target) (I : Inv W Z s) (hb : ∀ a, s.heap.get? a = none → s₀.heap.get? a = none) (z : Z a) (rl : RepVs Z s.heap vs items)
    (hn : (["enumerate", "zip", "dict_itemiterator", "dict_reverseitemiterator", "odict_iterator", "itertools.zip_longest", "itertools.pairwise"] : List String).contains T = false)
    (Wk : Walks W.prog W.w A s.heap.objs.size [s.heap.objs.size, a] [s.heap.objs.size] vs.toArray.size (fun i v => vs.toArray[i]? = some v) St) (hst : ∀ i h, St i h → ∃ o, h.get? s.heap.objs.size = some o ∧ o.cls = .type T) (st : St 0 (s.heap.push { cls := .type T, data := .fields #[.ref a, .int 0 0] })) :
    IterAt W A Z s₀ { s with heap := s.heap.push { cls := .type T, data := .fields #[.ref a, .int 0 0] } } target (.ref s.heap.objs.size) items := by
  have p : Step W .none Z s Z { s with heap := s.heap.push { cls := .type T, data := .fields #[.ref a, .int 0 0] } } := .grow I (tk := s.toks) (push_keep _ _)
  rw [show vs.toArray.size = items.length from rl.length] at Wk
  refine ⟨s.heap.objs.size, [s.heap.objs.size, a], [s.heap.objs.size], _, St, rfl, Wk, st, fun i w hw => ?_, fun b hb' => ?_, fun b hb' => ?_, fun i h st b hb' => ?_, fun i w s' Q E'' st q' => ?_⟩
  · obtain ⟨b, hb', ru⟩ := rl.back hw; exact ⟨b, hb', p.rep0 ru⟩
  · cases List.mem_singleton.mp hb'; exact ⟨hb _ (push_none _), I.fresh_z (push_none _)⟩
  · rcases List.mem_cons.mp hb' with e | e
    · exact .inl (e ▸ List.mem_singleton_self _)
    · cases List.mem_singleton.mp e; exact .inr z
  · cases List.mem_singleton.mp hb'; obtain ⟨o, ho, _⟩ := hst i h st; exact ⟨o, ho⟩
  · obtain ⟨o, ho, hc⟩ := hst i _ st
    exact letGo_cls ht ho hc hn q'
theorem iter_val {v : Value} {av : AV} {items : List AV} {target : Expr} (ht : PlainTg target) (R : Room A d) (I : Inv W Z s) (hb : ∀ a, s.heap.get? a = none → s₀.heap.get? a = none) (r : RepV Z s.heap v av) (h : iterA av = some items) {Q : Value → Shared → Prop} {E' : Value → Shared → Prop}
    (q : ∀ it s₂ Z₂, Step W .none Z s Z₂ s₂ → IterAt W A Z₂ s₀ s₂ target it items → Q it s₂) : wpAny W.M A (pyIter v) Q E' s := by
  cases av with
  | lst _ =>
    cases h
    obtain ⟨a, vs, rfl, z, hl, rl⟩ := r.lst'
    have hne : a ≠ s.heap.objs.size := by obtain ⟨o, ho, _⟩ := hl; exact Nat.ne_of_lt (Heap.lt_size ho)
    refine wpAny_pyIter_list hl (q _ _ Z (.grow I (tk := s.toks) (push_keep _ _)) (iter_seq ht I hb z rl (by decide) (Walks.list (prog := W.prog) (w := W.w) R.handled s.heap.objs.size a hne vs.toArray) (fun i h st => ?_) ⟨⟨_, Heap.get?_push_size _ rfl, rfl, rfl⟩, let ⟨o, ho, r⟩ := hl; ⟨o, Heap.get?_push_of_some _ ho, r⟩⟩))
    obtain ⟨o, ho, hc, _⟩ := st.1; exact ⟨o, ho, hc⟩
  | tup _ =>
    cases h
    obtain ⟨a, vs, rfl, z, hl, rl⟩ := r.tup'
    have hne : a ≠ s.heap.objs.size := by obtain ⟨o, ho, _⟩ := hl; exact Nat.ne_of_lt (Heap.lt_size ho)
    refine wpAny_pyIter_tuple hl (q _ _ Z (.grow I (tk := s.toks) (push_keep _ _)) (iter_seq ht I hb z rl (by decide) (Walks.tuple (prog := W.prog) (w := W.w) R.handled s.heap.objs.size a hne vs.toArray) (fun i h st => ?_) ⟨⟨_, Heap.get?_push_size _ rfl, rfl, rfl⟩, let ⟨o, ho, r⟩ := hl; ⟨o, Heap.get?_push_of_some _ ho, r⟩⟩))
    obtain ⟨o, ho, hc, _⟩ := st.1; exact ⟨o, ho, hc⟩
  | str x =>
    cases h
    obtain ⟨t, rfl⟩ := r.str'
    refine wpAny_pyIter_strU ?_
    have p : Step W .none Z s Z { s with heap := s.heap.push { cls := .type (strIterType x), data := .fields #[.str x t, .int 0 0] } } := .grow I (tk := s.toks) (push_keep _ _)
    refine q _ _ Z p ⟨s.heap.objs.size, [s.heap.objs.size], [s.heap.objs.size], SignAt x, fun i h => h.IsStrIter s.heap.objs.size (strIterType x) x t i, rfl, ?_, ⟨_, Heap.get?_push_size _ rfl, rfl, rfl⟩, fun i w hw => ?_, fun b hb' => ?_, fun b hb' => ?_, fun i h st b hb' => ?_, fun i w s' Q E'' st q' => ?_⟩
    · rw [show (signsA x).length = x.cps.size by simp [signsA]]
      cases ha : x.cps.all (· < 128)
      · have := Walks.strWide (prog := W.prog) (w := W.w) R.handled s.heap.objs.size x t
        simpa [strIterType, ha] using this
      · have := Walks.strAscii (prog := W.prog) (w := W.w) R.handled s.heap.objs.size x t
        simpa [strIterType, ha] using this
    · obtain ⟨c, u, hc, rfl⟩ := hw
      exact ⟨.str (sign1 c), by simp [signsA, hc], .str _ _⟩
    · cases List.mem_singleton.mp hb'; exact ⟨hb _ (push_none _), I.fresh_z (push_none _)⟩
    · exact .inl hb'
    · cases List.mem_singleton.mp hb'; obtain ⟨o, ho, _⟩ := st; exact ⟨o, ho⟩
    · obtain ⟨o, ho, hc, _⟩ := st
      refine letGo_cls ht ho hc ?_ q'
      unfold strIterType
      split <;> decide
  | _ => cases h
theorem it_val {target e : Expr} {f : Slots → Option AV} (h : DenP W d sc e f) (ht : PlainTg target) : DenIt W d sc target e fun ρ => f ρ >>= iterA := by
  intro A env Z s ρ α items R hE I L hf Q E' q
  obtain ⟨a, ha, hf⟩ := bindO hf
  exact h A env Z s ρ α a R hE I L ha _ _ fun v s₁ Z₁ p₁ r₁ => q v s₁ Z₁ p₁ fun Q' E'' q' => iter_val (s₀ := s) ht R p₁.inv (fun a h => (p₁.none_back h).resolve_left id) r₁ hf q'
theorem small_ok {a b c : Int} (ha : -1000000000 < a ∧ a < 1000000000) (hb : -1000000000 < b ∧ b < 1000000000) (hc : 0 < c ∧ c < 1000000000) : Builtin.Range.small a b c = true := by
  have h0 : 0 ≤ Builtin.Range.rangeSize a b c ∧ Builtin.Range.rangeSize a b c ≤ 3000000000 := by
    unfold Builtin.Range.rangeSize
    rw [if_pos (by (first | lia | omega))]
    split
    · have h1 : 0 ≤ (b - a - 1) / c := Int.ediv_nonneg (by (first | lia | omega)) (by (first | lia | omega))
      have h2 : (b - a - 1) / c ≤ b - a - 1 := Int.ediv_le_self _ (by (first | lia | omega))
      (first | lia | omega)
    · (first | lia | omega)
  have hf : ∀ x : Int, -10000000000 < x → x < 10000000000 → Builtin.Range.rangeFitsLong x = true := fun x h1 h2 => by
    unfold Builtin.Range.rangeFitsLong; simp; (first | lia | omega)
  unfold Builtin.Range.small
  rw [hf a (by (first | lia | omega)) (by (first | lia | omega)), hf b (by (first | lia | omega)) (by (first | lia | omega)), hf c (by (first | lia | omega)) (by (first | lia | omega)), hf _ (by (first | lia | omega)) (by (first | lia | omega)), if_pos (by (first | lia | omega)), hf (b + (c - 1)) (by (first | lia | omega)) (by (first | lia | omega))]
  simp
def rangeL (a c : Int) : Nat → List AV
  | 0 => []
  | n + 1 => .int a :: rangeL (a + c) c n
theorem rangeL_get (c : Int) : ∀ (n : Nat) (a : Int) (i : Nat), i < n → (rangeL a c n)[i]? = some (.int (a + i * c))
  | 0, _, _, h => by (first | lia | omega)
  | n + 1, a, 0, _ => by simp [rangeL]
  | n + 1, a, i + 1, h => by
    rw [rangeL, List.getElem?_cons_succ, rangeL_get c n (a + c) i (by (first | lia | omega))]
    congr 2
    push_cast
    rw [Int.add_mul, Int.one_mul]; (first | lia | omega)
theorem rangeL_length (c : Int) : ∀ (n : Nat) (a : Int), (rangeL a c n).length = n
  | 0, _ => rfl
  | n + 1, a => by simp [rangeL, rangeL_length c n]
def rangeI : List Int → Option (List AV)
  | [n] => if -1000000000 < n ∧ n < 1000000000 then some (rangeL 0 1 n.toNat) else none
  | [a, b] => if -1000000000 < a ∧ a < 1000000000 ∧ -1000000000 < b ∧ b < 1000000000 then some (rangeL a 1 (b - a).toNat) else none
  | [a, b, c] => if -1000000000 < a ∧ a < 1000000000 ∧ -1000000000 < b ∧ b < 1000000000 ∧ 0 < c ∧ c < 1000000000 then some (rangeL a c (if a < b then ((b - a - 1) / c + 1).toNat else 0)) else none
  | _ => none
def rangeA (l : List AV) : Option (List AV) := intsOf l >>= rangeI
theorem rangeA_1 (n : Int) : rangeA [.int n] = rangeI [n] := rfl
theorem size_one (a b : Int) : Builtin.Range.rangeSize a b 1 = (b - a).toNat := by
  simp only [Builtin.Range.rangeSize]; split <;> split <;> (first | lia | omega)
abbrev rangeObj (a b c : Int) (t u v : Tok) : Obj := { cls := .type "range", data := .fields #[.int a t, .int b u, .int c v] }
theorem small_abs {c : Int} (h0 : 0 < c) (h1 : c < 1000000000) : c.natAbs < 1073741824 := by (first | lia | omega)
theorem size_pos (a b c : Int) (h0 : 0 < c) : Builtin.Range.rangeSize a b c = ((if a < b then ((b - a - 1) / c + 1).toNat else 0 : Nat) : Int) := by
  unfold Builtin.Range.rangeSize
  rw [if_pos h0]
  by_cases hab : a < b
  · have h1 : 0 ≤ (b - a - 1) / c := Int.ediv_nonneg (by (first | lia | omega)) (Int.le_of_lt h0)
    rw [if_pos hab, if_pos hab, Int.toNat_of_nonneg (Int.le_trans h1 (Int.le_add_one (Int.le_refl _)))]
  · rw [if_neg hab, if_neg hab]; rfl
theorem iter_range {r : Addr} {a b c : Int} {t u v : Tok} {n : Nat} {target : Expr} (ht : PlainTg target) (R : Room A d) (I : Inv W Z s) (hb : ∀ a, s.heap.get? a = none → s₀.heap.get? a = none) (hr : IsRange s.heap r a b c t u v) (hsm : Builtin.Range.small a b c = true) (hn : Builtin.Range.rangeSize a b c = n) {Q : Value → Shared → Prop} {E' : Value → Shared → Prop}
    (q : ∀ it s₂ Z₂, Step W .none Z s Z₂ s₂ → IterAt W A Z₂ s₀ s₂ target it (rangeL a c n) → Q it s₂) : wpAny W.M A (pyIter (.ref r)) Q E' s := by
  refine wpAny_pyIter_range hr hsm ?_
  have p : Step W .none Z s Z { s with heap := s.heap.push { cls := .type "range_iterator", data := .fields #[rawInt a, rawInt (Builtin.Range.rangeSize a b c), rawInt c] } } := .grow I (tk := s.toks) (push_keep _ _)
  refine q _ _ Z p ⟨s.heap.objs.size, [s.heap.objs.size], [s.heap.objs.size], fun i v => i < n ∧ ∃ t, v = .int (a + i * c) t, fun i h => IsRangeIter h s.heap.objs.size (a + (i : Nat) * c) ((n : Int) - (i : Nat)) c, rfl, ?_, ?_, fun i w hw => ?_, fun b hb' => ?_, fun b hb' => ?_, fun i h st b hb' => ?_, fun i w s' Q E'' st q' => ?_⟩
  · have W' := Walks.range (prog := W.prog) (w := W.w) R.handled s.heap.objs.size a c n
    rw [rangeL_length]
    exact ⟨W'.sub, W'.frame, fun i s Q E hi st hQ => W'.item i s Q E hi st fun v h' tk hv => hQ v h' tk ⟨hi, hv⟩, W'.done, W'.self⟩
  · have := Heap.get?_push_size s.heap (o := { cls := .type "range_iterator", data := .fields #[rawInt a, rawInt (Builtin.Range.rangeSize a b c), rawInt c] }) rfl
    simpa [hn] using this
  · obtain ⟨hi, t, rfl⟩ := hw
    exact ⟨_, rangeL_get c n a i hi, .int _ _⟩
  · cases List.mem_singleton.mp hb'; exact ⟨hb _ (push_none _), I.fresh_z (push_none _)⟩
  · exact .inl hb'
  · cases List.mem_singleton.mp hb'; exact ⟨_, st⟩
  · exact letGo_cls ht st rfl (by decide) q'
theorem it_range {target : Expr} {np pos : Pos} {es : List Expr} {fs : Slots → Option (List AV)} (hg : W.Glob "range" (.type "range")) (hk : sc.names.lookup ("range" : Str) = some .globalImplicit) (ha : DenPs W d sc es fs) (hns : ∀ env pos, (backTo pos (starEach es env)).any (·.1) = false) (ht : PlainTg target) :
    DenIt W d sc target (.Call (.Name "range" np) es [] pos) fun ρ => fs ρ >>= rangeA := by
  intro A env Z s ρ α items R hE I L hf Q E' q
  obtain ⟨l, hl, hf⟩ := bindO hf
  show wpAny _ _ (do callWith pos (← eval (.Name "range" np) env) [] (backTo pos (starEach es env)) (backToKw pos (keywordEach [] env))) _ _ _
  refine wpAny_bind (load_glob hE I hg hk (by decide) (callWith_den (keep_type "range") ha hns R hE I L hl fun vs s₁ Z₁ p₁ r₁ => ?_))
  obtain ⟨ns, hns', hf⟩ := bindO hf
  have ri := ints_rep r₁ hns'
  have core : ∀ (a b c : Int) (t u v : Tok) (tk : Nat) (n : Nat), s₁.toks ≤ tk → Builtin.Range.small a b c = true → Builtin.Range.rangeSize a b c = n → items = rangeL a c n →
      Q (.ref s₁.heap.objs.size) { s₁ with heap := s₁.heap.push (rangeObj a b c t u v), toks := tk } := fun a b c t u v tk n htk hsm hn hit => by
    have p₂ : Step W .none Z₁ s₁ Z₁ { s₁ with heap := s₁.heap.push (rangeObj a b c t u v), toks := tk } := .grow p₁.inv (push_keep _ _) htk
    subst hit
    exact q _ _ Z₁ (p₁.tr p₂) fun Q' E'' q' => iter_range (s₀ := s) ht R p₂.inv (fun a h => ((p₁.tr p₂).none_back h).resolve_left id) (Heap.get?_push_size _ rfl) hsm hn q'
  cases ri with
  | nil => cases hf
  | cons a t ri => cases ri with
    | nil =>
      obtain ⟨hb, hf⟩ := iteO hf; cases hf
      exact call_range_1 (core _ _ _ _ _ _ _ _ (by (first | lia | omega)) (small_ok ⟨by decide, by decide⟩ hb ⟨by decide, by decide⟩) (by rw [size_one, Int.sub_zero]) rfl)
    | cons b t' ri => cases ri with
      | nil =>
        obtain ⟨hb, hf⟩ := iteO hf; cases hf
        exact call_range_2 (core _ _ _ _ _ _ _ _ (by (first | lia | omega)) (small_ok ⟨hb.1, hb.2.1⟩ hb.2.2 ⟨by decide, by decide⟩) (size_one _ _) rfl)
      | cons c t'' ri => cases ri with
        | nil =>
          obtain ⟨hb, hf⟩ := iteO hf; cases hf
          have hc0 := hb.2.2.2.2.1
          have hc1 := hb.2.2.2.2.2
          refine call_range_3 (Int.ne_of_gt hc0) (core _ _ _ _ _ _ _ _ (by (first | lia | omega)) (small_ok ⟨hb.1, hb.2.1⟩ ⟨hb.2.2.1, hb.2.2.2.1⟩ hb.2.2.2.2) ?_ rfl) (.inl (PyProof.noPylong_small (small_abs hc0 hc1)))
          exact size_pos a b c hc0
        | cons => cases hf
theorem FStep.other {O : Own} (p : FStep W env Z s ρ α Z₁ s₁ ρ' α') (q : Step W O Z₁ s₁ Z' s') (ho : ∀ a, O.a a → s.heap.get? a = none ∧ ¬ FOwn env ρ' α' a ∧ ¬ Z₁ a) (hg : ∀ i, ¬ O.g i) : FStep W env Z s ρ α Z' s' ρ' α' :=
  ⟨p.step.trans q (fun a h => .inr (ho a h).1) (fun i h => (hg i h).elim), p.fo, p.loc.step q fun a h => (ho a h).2⟩
theorem Step.writes (I : Inv W Z s) {wr : List Addr} {h' : Heap} {tk : Nat} (hk : ∀ b o, b ∉ wr → s.heap.get? b = some o → h'.get? b = some o) (hw : ∀ b ∈ wr, W.h₀.get? b = none ∧ ¬ W.X b ∧ ¬ Z b) (htk : s.toks ≤ tk := by first | exact Nat.le_refl _ | exact Nat.le_add_right _ _ | assumption | (first | lia | omega)) : Step W (.addrs (· ∈ wr)) Z s Z { s with heap := h', toks := tk } :=
  ⟨⟨I.ok, fun b o e x => hk b o (fun hb => by rw [(hw b hb).1] at e; cases e) (I.base b o e x), fun b x => let ⟨o, e⟩ := I.xs b x; ⟨o, hk b o (fun hb => (hw b hb).2.1 x) e⟩, fun b z => let ⟨o, e⟩ := I.zin b z; ⟨o, hk b o (fun hb => (hw b hb).2.2 z) e⟩, I.os, I.bare, I.zx, I.z0, Nat.le_trans I.tk htk⟩,
    fun b o hb e => hk b o hb e, fun _ z => z, fun _ z => .inl z, fun _ _ _ e => e⟩
def forA (T : AV → Slots → Option Slots) (B : Slots → Option (AFlow × Slots)) : List AV → Slots → Option (AFlow × Slots)
  | [], ρ => some (.next, ρ)
  | a :: l, ρ => T a ρ >>= fun ρ₁ => B ρ₁ >>= fun r => match r with
      | (.next, ρ') => forA T B l ρ'
      | (.cont, ρ') => forA T B l ρ'
      | (.brk, ρ') => some (.next, ρ')
      | (.ret v, ρ') => some (.ret v, ρ')
structure ForInv (W : Wd) (env : Env) (Z : AddrSet) (s : Shared) (ρ : Slots) (α : Str → Addr) (wr : List Addr) (St : Nat → Heap → Prop) (Z₂ : AddrSet) (s₂ s' : Shared) (i : Nat) (Z' : AddrSet) (ρ₁ : Slots) (α' : Str → Addr) : Prop where
  f : FStep W env Z s ρ α Z' s' ρ₁ α'
  st : St i s'.heap
  w : ∀ b ∈ wr, ¬ FOwn env ρ₁ α' b ∧ ¬ Z' b
  z : ∀ b o, Z₂ b → s₂.heap.get? b = some o → s'.heap.get? b = some o
  zz : ∀ b, Z₂ b → Z' b
structure ForAt (W : Wd) (A : Around) (env : Env) (Z : AddrSet) (s : Shared) (fp wr : List Addr) (St : Nat → Heap → Prop) (P : Nat → Value → Prop) (n : Nat) (J : Addr) (Z₂ : AddrSet) : Prop where
  I : Inv W Z s
  Wk : Walks W.prog W.w A J fp wr n P St
  hw : ∀ b ∈ wr, s.heap.get? b = none ∧ ¬ Z₂ b
  hf : ∀ b ∈ fp, b ∈ wr ∨ Z₂ b
  ob : ∀ i h, St i h → ∀ b ∈ wr, ∃ o, h.get? b = some o
section
variable {fp wr : List Addr} {St : Nat → Heap → Prop} {P : Nat → Value → Prop} {n i : Nat} {J : Addr} {Z₂ Z₃ Z₆ : AddrSet} {s₂ s₃ s₆ : Shared} {ρ₃ ρ₆ : Slots} {α₃ α₆ : Str → Addr}
theorem ForInv.drawn (k : ForAt W A env Z s fp wr St P n J Z₂) (c : ForInv W env Z s ρ α wr St Z₂ s₂ s₃ i Z₃ ρ₃ α₃) {h' : Heap} {tk : Nat} {j : Nat} (st : St j h') (hk : ∀ b o, b ∉ wr → s₃.heap.get? b = some o → h'.get? b = some o) (htk : s₃.toks ≤ tk) :
    ForInv W env Z s ρ α wr St Z₂ s₂ { s₃ with heap := h', toks := tk } j Z₃ ρ₃ α₃ := by
  have p₄ : Step W (.addrs (· ∈ wr)) Z₃ s₃ Z₃ { s₃ with heap := h', toks := tk } := .writes c.f.step.inv hk fun b hb => ⟨k.I.fresh_b (k.hw b hb).1, k.I.fresh_x (k.hw b hb).1, (c.w b hb).2⟩
  exact ⟨c.f.other p₄ (fun a ha => ⟨(k.hw a ha).1, c.w a ha⟩) (fun _ h => h), st, c.w, fun b o z e => hk b o (fun hb => (c.w b hb).2 (c.zz b z)) (c.z b o z e), c.zz⟩
theorem ForInv.step (k : ForAt W A env Z s fp wr St P n J Z₂) (c : ForInv W env Z s ρ α wr St Z₂ s₂ s₃ i Z₃ ρ₃ α₃) (p : FStep W env Z₃ s₃ ρ₃ α₃ Z₆ s₆ ρ₆ α₆) : ForInv W env Z s ρ α wr St Z₂ s₂ s₆ i Z₆ ρ₆ α₆ := by
  refine ⟨c.f.trans p, k.Wk.frame _ _ _ c.st fun b hb o e => p.step.keep b o (fun fo => ?_) e, fun b hb => ?_, fun b o z e => p.step.keep b o (fun fo => c.f.loc.nz b fo (c.zz b z)) (c.z b o z e), fun b z => p.step.zsub b (c.zz b z)⟩
  · rcases k.hf b hb with h | h
    · exact (c.w b h).1 fo
    · exact c.f.loc.nz b fo (c.zz b h)
  · obtain ⟨o, e⟩ := k.ob _ _ c.st b hb
    refine ⟨fun fo => ?_, fun z => ?_⟩
    · rcases p.fo b fo with h | h
      · exact (c.w b hb).1 h
      · rw [e] at h; cases h
    · rcases p.step.znew b z with h | h | h
      · exact (c.w b hb).2 h
      · exact (c.w b hb).1 h
      · rw [e] at h; cases h
end
theorem for_loop {target : Expr} {body : List Stmt} {T : AV → Slots → Option Slots} {B : Slots → Option (AFlow × Slots)} {items : List AV} {fl : AFlow} {fp wr : List Addr} {St : Nat → Heap → Prop} {P : Nat → Value → Prop} {J : Addr} {Z₂ : AddrSet} {s₂ : Shared} {Rr : Result → Shared → Prop}
    (ht : DenTg W d sc target T) (hb : DenSs W d sc body B) (R : Room A d) (hE : EnvOk env sc) (k : ForAt W A env Z s fp wr St P items.length J Z₂) (c : ForInv W env Z s ρ α wr St Z₂ s₂ s₂ 0 Z₂ ρ α) (hP : ∀ i v, P i v → ∃ a, items[i]? = some a ∧ RepV Z₂ s₂.heap v a)
    (hgo : ∀ i v (s' : Shared) (Q : Unit → Shared → Prop) (E' : Value → Shared → Prop), St i s'.heap → Q () s' → wpAny W.M A (letOwnedTupleGo target (.ref J) v) Q E' s') (hf : forA T B items ρ = some (fl, ρ'))
    (q : ∀ f s' Z' α', FStep W env Z s ρ α Z' s' ρ' α' → FlowRep Z' s'.heap f fl → Rr (.ok f) s') : codeAny W.M A (.forLoop target (.ref J) body [] env) Rr s₂ := by
  refine codeAny_forLoop_any (fun k s' => ∃ Z' ρ₁ α' i, ForInv W env Z s ρ α wr St Z₂ s₂ s' i Z' ρ₁ α' ∧ k = items.length - i ∧ i ≤ items.length ∧ forA T B (items.drop i) ρ₁ = some (fl, ρ')) ?_ items.length ⟨Z₂, ρ, α, 0, c, rfl, Nat.zero_le _, hf⟩
  clear c hf
  rintro _ s₃ ⟨Z₃, ρ₃, α₃, i, c, rfl, hi', hfa⟩
  by_cases hlt : i < items.length
  · refine wpAny_with_toks (Nat.le_refl _) (k.Wk.item i s₃ _ _ hlt c.st fun v h' tk hv st₄ hk => fun (htk : s₃.toks ≤ tk) => ?_)
    have c4 := c.drawn (tk := tk) k st₄ hk htk
    clear c
    obtain ⟨a, ha, ra⟩ := hP i v hv
    refine hgo (i + 1) v _ _ _ st₄ ?_
    rw [List.drop_eq_getElem_cons hlt, Option.some.inj ((List.getElem?_eq_getElem hlt).symm.trans ha)] at hfa
    unfold forA at hfa
    obtain ⟨ρ₅, h₅, hfa⟩ := bindO hfa
    obtain ⟨⟨fl₆, ρ₆⟩, h₆, hfa⟩ := bindO hfa
    refine ht A env Z₃ _ ρ₃ α₃ v a ρ₅ R hE c4.f.step.inv c4.f.loc (ra.mono c4.zz c4.z) h₅ _ _ fun s₅ Z₅ α₅ f₅ => ?_
    have c5 := c4.step k f₅
    clear c4 f₅ h₅
    refine hb A env Z₅ s₅ ρ₅ α₅ fl₆ ρ₆ R hE c5.f.step.inv c5.f.loc h₆ _ _ fun f s₆ Z₆ α₆ f₆ r₆ => ?_
    have c6 := c5.step k f₆
    have hlt' : items.length - (i + 1) < items.length - i := Nat.sub_lt_sub_left hlt (Nat.lt_succ_self i)
    clear h₆ f₆ c5
    revert hfa
    apply flow_cases r₆
    · exact fun hfa => ⟨items.length - (i + 1), hlt', Z₆, ρ₆, α₆, i + 1, c6, rfl, hlt, hfa⟩
    · intro hfa; cases hfa; exact q .next s₆ Z₆ α₆ c6.f trivial
    · exact fun hfa => ⟨items.length - (i + 1), hlt', Z₆, ρ₆, α₆, i + 1, c6, rfl, hlt, hfa⟩
    · intro v a r hfa; cases hfa; exact q _ s₆ Z₆ α₆ c6.f r
  · have hin : i = items.length := Nat.le_antisymm hi' (Nat.le_of_not_lt hlt)
    rw [hin, List.drop_length] at hfa
    cases hfa
    have hst : St items.length s₃.heap := hin ▸ c.st
    refine wpAny_with_toks (Nat.le_refl _) (k.Wk.done s₃ _ _ hst fun h' tk hk => fun (htk : s₃.toks ≤ tk) => ?_)
    have p₄ : Step W (.addrs (· ∈ wr)) Z₃ s₃ Z₃ { s₃ with heap := h', toks := tk } := .writes c.f.step.inv hk fun b hb => ⟨k.I.fresh_b (k.hw b hb).1, k.I.fresh_x (k.hw b hb).1, (c.w b hb).2⟩
    exact wpAny_execs_nil (q .next _ Z₃ α₃ (c.f.other p₄ (fun a ha => ⟨(k.hw a ha).1, c.w a ha⟩) (fun _ h => h)) trivial)
theorem den_for {target iter : Expr} {body : List Stmt} {pos : Pos} {g : Slots → Option (List AV)} {T : AV → Slots → Option Slots} {B : Slots → Option (AFlow × Slots)} (hi : DenIt W d sc target iter g) (ht : DenTg W d sc target T) (hb : DenSs W d sc body B) (hs : ∀ env x, foldedSetIterable iter env x = pure x) :
    DenS W d sc (.For target iter body [] pos) fun ρ => g ρ >>= fun items => forA T B items ρ := by
  intro A env Z s ρ α fl ρ' R hE I L hf Q E' q
  obtain ⟨items, hit, hf⟩ := bindO hf
  refine wpAny_For (hi A env Z s ρ α items R hE I L hit _ _ fun x s₁ Z₁ p₁ hx => hx _ _ fun it s₂ Z₂ p₂ hI => ?_) (hs env)
  obtain ⟨J, fp, wr, P, St, rfl, Wk, st, hP, hwr, hfp, hob, hgo⟩ := hI
  refine for_loop ht hb R hE ⟨I, Wk, hwr, hfp, hob⟩ ⟨(FStep.pure L p₁).trans (FStep.pure (L.step0 p₁) p₂), st, fun b hb => ⟨fun f => ?_, (hwr b hb).2⟩, fun _ _ _ e => e, fun _ z => z⟩ hP hgo hf q
  obtain ⟨o, e⟩ := L.alive f; rw [(hwr b hb).1] at e; cases e
end
end Mine
end
section
set_option linter.unusedVariables false
set_option linter.unusedSimpArgs false
namespace Mine
section
variable {W : Wd} {Z Z' Z₁ Z₀ : AddrSet} {s s' s₁ s₀ : Shared} {env : Env} {sc : Scope} {ρ ρ' ρ₀ : Slots} {α α' α₀ : Str → Addr} {A : Around} {d : Nat}
-- closures
def closeL (env : Env) : List (Str × NameKind) → List (Str × Addr) → List (Str × Addr)
  | [], cs => cs
  | (n, k) :: r, cs => if k == .free then closeL env r ((n, (env.cells.lookup n).getD 0) :: cs) else closeL env r cs
theorem closureFor_eq {scope : Scope} (h : ∀ n, (n, NameKind.free) ∈ scope.names → ∃ c, env.cells.lookup n = some c) : closureFor scope env = pure (closeL env scope.names []) := by
  have key : ∀ (names : List (Str × NameKind)) (cs : List (Str × Addr)), (∀ n, (n, NameKind.free) ∈ names → ∃ c, env.cells.lookup n = some c) →
      (forIn names cs fun x r => match x with | (name, kind) => if (kind == .free) = true then do let a ← cellOf env name; pure (ForInStep.yield ((name, a) :: r)) else pure (ForInStep.yield r) : Sem (List (Str × Addr))) = pure (closeL env names cs) := by
    intro names
    induction names with
    | nil => intro cs _; rfl
    | cons x r ih =>
      intro cs hx
      obtain ⟨n, k⟩ := x
      rw [List.forIn_cons]
      have ih' := fun cs => ih cs fun m hm => hx m (List.mem_cons_of_mem _ hm)
      by_cases hk : (k == NameKind.free) = true
      · simp only [hk, if_true, closeL]
        have : k = .free := by simpa using hk
        subst this
        obtain ⟨c, hc⟩ := hx n List.mem_cons_self
        have e : cellOf env n = pure c := by unfold cellOf; rw [hc]
        rw [e, hc]
        exact ih' _
      · simp only [hk, if_false, closeL]
        exact ih' _
  unfold closureFor
  have := key scope.names [] h
  simp only at this ⊢
  rw [this]
  rfl
theorem closeL_lookup : ∀ (names : List (Str × NameKind)) (cs : List (Str × Addr)), (∀ n, (n, NameKind.free) ∈ names → ∃ c, env.cells.lookup n = some c) → ∀ n c, (closeL env names cs).lookup n = some c → env.cells.lookup n = some c ∨ cs.lookup n = some c
  | [], cs, _, n, c, h => .inr h
  | (m, k) :: r, cs, hx, n, c, h => by
    unfold closeL at h
    have hr := fun m hm => hx m (List.mem_cons_of_mem _ hm)
    by_cases hk : (k == NameKind.free) = true
    · rw [if_pos hk] at h
      rcases closeL_lookup r _ hr n c h with h₁ | h₁
      · exact .inl h₁
      · have hkf : k = .free := by simpa using hk
        obtain ⟨c', hc'⟩ := hx m (hkf ▸ List.mem_cons_self)
        rw [List.lookup_cons, hc'] at h₁
        by_cases e : (n == m) = true
        · rw [e] at h₁
          have enm : n = m := by simpa using e
          rw [enm, hc']
          exact .inl h₁
        · simp only [e] at h₁; exact .inr h₁
    · rw [if_neg hk] at h; exact closeL_lookup r _ hr n c h
theorem closeL_some : ∀ (names : List (Str × NameKind)) (cs : List (Str × Addr)) (n : Str), ((n, NameKind.free) ∈ names ∨ (cs.lookup n).isSome = true) → ((closeL env names cs).lookup n).isSome = true
  | [], cs, n, h => h.elim (fun h => by cases h) id
  | (m, k) :: r, cs, n, h => by
    unfold closeL
    by_cases hk : (k == NameKind.free) = true
    · rw [if_pos hk]
      refine closeL_some r _ n ?_
      by_cases e : (n == m) = true
      · exact .inr (by rw [List.lookup_cons, e]; rfl)
      · refine h.imp (fun h => ?_) fun h => by rw [List.lookup_cons]; simpa only [e] using h
        rcases List.mem_cons.mp h with h | h
        · cases h; simp at e
        · exact h
    · rw [if_neg hk]
      refine closeL_some r _ n (h.imp (fun h => ?_) id)
      rcases List.mem_cons.mp h with h | h
      · cases h; simp at hk
      · exact h
theorem lookup_mem : ∀ {names : List (Str × NameKind)} {n : Str} {k : NameKind}, names.lookup n = some k → (n, k) ∈ names
  | (m, k') :: r, n, k, h => by
    rw [List.lookup_cons] at h
    by_cases e : (n == m) = true
    · rw [e] at h
      have : n = m := by simpa using e
      subst this
      cases h
      exact List.mem_cons_self
    · simp only [e] at h; exact List.mem_cons_of_mem _ (lookup_mem h)
def relabelS (scope sc : Scope) : Scope := { scope with names := scope.names.map fun (n, k) => if (k == .free && sc.names.lookup n == some .cell) then (n, .cell) else (n, k) }
theorem relabel_eq {scope : Scope} (hE : EnvOk env sc) : relabel scope env = relabelS scope sc := by
  unfold relabel relabelS
  congr 1
  apply List.map_congr_left
  intro x _
  obtain ⟨n, k⟩ := x
  simp only [hE.kfn, hE.kind, beq_self_eq_true, Bool.and_true]
def relab (sc : Scope) (x : Str × NameKind) : Str × NameKind := if (x.2 == NameKind.free && sc.names.lookup x.1 == some NameKind.cell) = true then (x.1, NameKind.cell) else x
theorem relabelS_names (scope sc : Scope) : (relabelS scope sc).names = scope.names.map (relab sc) := by
  unfold relabelS
  apply List.map_congr_left
  intro x _
  obtain ⟨n, k⟩ := x
  rfl
theorem relab_fst (sc : Scope) (x : Str × NameKind) : (relab sc x).1 = x.1 := by unfold relab; split <;> rfl
theorem lookup_relab : ∀ (names : List (Str × NameKind)) (x : Str), (names.map (relab sc)).lookup x = (names.lookup x).map fun k => (relab sc (x, k)).2
  | [], x => rfl
  | (n, k) :: r, x => by
    rw [List.map_cons]
    have hf := relab_fst sc (n, k)
    rw [show relab sc (n, k) = (n, (relab sc (n, k)).2) from Prod.ext hf rfl, List.lookup_cons, List.lookup_cons]
    by_cases e : (x == n) = true
    · rw [e]
      have : x = n := by simpa using e
      rw [this]; rfl
    · have e' : (x == n) = false := by simpa using e
      rw [e']
      exact lookup_relab r x
theorem relabelS_lookup {scope : Scope} {x : Str} {k' : NameKind} (h : (relabelS scope sc).names.lookup x = some k') : ∃ k, scope.names.lookup x = some k ∧ (k' = k ∨ (k = .free ∧ k' = .cell)) := by
  rw [relabelS_names, lookup_relab] at h
  obtain ⟨k, hk, rfl⟩ := Option.map_eq_some_iff.mp h
  refine ⟨k, hk, ?_⟩
  unfold relab
  split
  · rename_i hc
    exact .inr ⟨by simpa using (Bool.and_eq_true_iff.mp hc).1, rfl⟩
  · exact .inl rfl
theorem relabelS_free {scope : Scope} {x : Str} (h : scope.names.lookup x = some .free) : (relabelS scope sc).names.lookup x = some .cell ∨ (relabelS scope sc).names.lookup x = some .free := by
  rw [relabelS_names, lookup_relab, h]
  unfold relab
  simp only [Option.map_some]
  split
  · exact .inl rfl
  · exact .inr rfl
def capt (scope : Scope) (ρ : Slots) : Slots := fun x => if scope.names.lookup x = some .free then ρ x else none
structure CompScope (scope sc : Scope) : Prop where
  fn : scope.kind = .function
  nocell : ∀ x ∈ scope.names, x.2 ≠ .cell
  locals : ∀ x ∈ scope.names, x.2 = .local → scope.names.lookup x.1 = some .local
  free : ∀ x ∈ scope.names, x.2 = .free → scope.names.lookup x.1 = some .free ∧ (sc.names.lookup x.1 = some .cell ∨ sc.names.lookup x.1 = some .free)
theorem capt_env {scope : Scope} (hE : EnvOk env sc) (hs : CompScope scope sc) (cenv : Env) (hcl : cenv.cells = closeL env scope.names []) (hsc : cenv.scope = relabelS scope sc) (hg : cenv.globals = env.globals) (hb : cenv.builtins = env.builtins) : EnvOk cenv (relabelS scope sc) := by
  refine ⟨hsc, hg.trans hE.globals, hb.trans hE.builtins, hs.fn, fun x hx => ?_⟩
  have : scope.names.lookup x = some .free := by
    rcases hx with hx | hx
    · obtain ⟨k, hk, h⟩ := relabelS_lookup hx
      rcases h with rfl | ⟨rfl, _⟩
      · exact absurd rfl (hs.nocell _ (lookup_mem hk))
      · exact hk
    · obtain ⟨k, hk, h⟩ := relabelS_lookup hx
      rcases h with rfl | ⟨_, h⟩
      · exact hk
      · cases h
  have := closeL_some (env := env) scope.names [] x (.inl (lookup_mem this))
  rw [hcl]
  exact Option.isSome_iff_exists.mp this
theorem free_cells {scope : Scope} (hE : EnvOk env sc) (hs : CompScope scope sc) : ∀ n, (n, NameKind.free) ∈ scope.names → ∃ c, env.cells.lookup n = some c := fun n hn => hE.cells n (hs.free _ hn rfl).2
theorem capt_loc {scope : Scope} {C : Addr} {h : Heap} (hE : EnvOk env sc) (L : Loc W Z s.heap env ρ α) (hs : CompScope scope sc)
    (hk : ∀ b o, s.heap.get? b = some o → h.get? b = some o) (hz : ∀ b, Z' b → Z b ∨ s.heap.get? b = none) (hzs : ∀ b, Z b → Z' b) (hC : s.heap.get? C = none) (hCz : ¬ Z' C) (hb : W.h₀.get? C = none ∧ ¬ W.X C) {m : Str → Option Value} (hns : h.Ns C m)
    (cenv : Env) (hloc : cenv.locals = C) (hcl : cenv.cells = closeL env scope.names []) (hsc : cenv.scope = relabelS scope sc) : Loc W Z' h cenv (capt scope ρ) α := by
  have sub : ∀ n c, cenv.cells.lookup n = some c → env.cells.lookup n = some c := fun n c hn => by
    rw [hcl] at hn
    exact (closeL_lookup scope.names [] (free_cells hE hs) n c hn).resolve_right (fun h => by cases h)
  have capt_of : ∀ x sv, capt scope ρ x = some sv → scope.names.lookup x = some .free ∧ ρ x = some sv := fun x sv h => by
    unfold capt at h
    split at h
    · rename_i hf; exact ⟨hf, h⟩
    · cases h
  obtain ⟨m₀, ns₀, hv⟩ := L.ns
  have fo : ∀ b, FOwn cenv (capt scope ρ) α b → b = C ∨ FOwn env ρ α b := by
    rintro b (rfl | ⟨x, hn, hx⟩ | ⟨x, l, hx, rfl⟩)
    · exact .inl hloc
    · exact .inr (.inr (.inl ⟨x, hn, sub x b hx⟩))
    · exact .inr (.inr (.inr ⟨x, l, (capt_of x _ hx).2, rfl⟩))
  refine ⟨⟨m, hloc ▸ hns, fun x sv hx => ?_⟩, fun b f z => ?_, fun b f => ?_, fun x l b hx hb => L.fix x l b (capt_of x _ hx).2 hb, fun x y l l' hx hy e => L.inj x y l l' (capt_of x _ hx).2 (capt_of y _ hy).2 e, fun x c hx => ?_, fun x y c hx hy => L.cinj x y c (sub x c hx) (sub y c hy), fun c hx => ?_⟩
  · obtain ⟨hf, hx⟩ := capt_of x sv hx
    obtain ⟨v, a, r⟩ := hv x sv hx
    have hm := lookup_mem hf
    refine ⟨v, .inr ⟨?_, ?_⟩, ?_⟩
    · unfold Env.kindOf; rw [hsc]; exact relabelS_free hf
    · rcases a with ⟨k, _⟩ | ⟨_, c, hc, o, ho, hd⟩
      · rw [hE.kind] at k
        rcases (hs.free _ hm rfl).2 with k' | k' <;> (rw [k'] at k; cases k)
      · obtain ⟨c', hc'⟩ := Option.isSome_iff_exists.mp (closeL_some (env := env) scope.names [] x (.inl hm))
        rw [← hcl] at hc'
        have := sub x c' hc'
        rw [hc] at this; cases this
        exact ⟨c, hc', o, hk _ _ ho, hd⟩
    · cases sv with
      | val av => exact r.mono hzs fun a o _ e => hk a o e
      | own l => obtain ⟨e, vs, ⟨n, hn⟩, rs⟩ := r; exact ⟨e, vs, ⟨n, hk _ _ hn⟩, rs.mono hzs fun a o _ e => hk a o e⟩
  · rcases fo b f with rfl | f
    · exact hCz z
    · rcases hz b z with z | z
      · exact L.nz b f z
      · obtain ⟨o, e⟩ := L.alive f; rw [e] at z; cases z
  · rcases fo b f with rfl | f
    · exact hb
    · exact L.nb b f
  · obtain ⟨v, o, ho, hd⟩ := L.cell x c (sub x c hx); exact ⟨v, o, hk _ _ ho, hd⟩
  · exact hzs c (L.slf c (sub frz c hx))
-- the tests of a comprehension
def DenIfs (W : Wd) (d : Nat) (sc : Scope) (ifs : List Expr) (t : Slots → Option Bool) : Prop :=
  ∀ (A : Around) (env : Env) (Z : AddrSet) (s : Shared) (ρ : Slots) (α : Str → Addr) (b : Bool), Room A d → EnvOk env sc → Inv W Z s → Loc W Z s.heap env ρ α → t ρ = some b →
    GivesB W A Z s (forIn ifs true fun c r => if r = true then do let ok ← isTrue c env (eval c env); pure (ForInStep.yield ok) else pure (ForInStep.yield r)) b
theorem ifs_nil : DenIfs W d sc [] fun _ => some true := by
  intro A env Z s ρ α b R hE I L hf Q E' q; cases hf; exact wpAny_pure (q s Z (.id I))
def compA (T : AV → Slots → Option Slots) (t : Slots → Option Bool) (f : Slots → Option AV) : List AV → Slots → Option (List AV)
  | [], _ => some []
  | a :: l, ρ => T a ρ >>= fun ρ₁ => t ρ₁ >>= fun b => if b = true then (f ρ₁ >>= fun x => (compA T t f l ρ₁).map (x :: ·)) else compA T t f l ρ₁
end
end Mine
end
section
set_option linter.unusedVariables false
namespace Mine
section
variable {W : Wd} {Z Z' Z₁ Z₀ : AddrSet} {s s' s₁ s₀ : Shared} {env : Env} {sc : Scope} {ρ ρ' ρ₀ : Slots} {α α' α₀ : Str → Addr} {A : Around} {d : Nat}
theorem codeAny_comp {elt target iter : Expr} {ifs : List Expr} {scope : Scope} {pos : Pos} {it acc : Value} {env : Env} {R : Result → Shared → Prop} (I : Nat → Shared → Prop)
    (turn : ∀ n s, I n s → wpAny W.M A (pyNext it) (fun r s₁ => match r with
      | none => R (.ok .next) s₁
      | some v => wpAny W.M A (letOwnedTupleGo target it v) (fun _ s₁' => wpAny W.M A (assign target env v) (fun _ s₂ =>
          wpAny W.M A (forIn ifs true fun c r => if r = true then do let ok ← isTrue c env (eval c env); pure (ForInStep.yield ok) else pure (ForInStep.yield r)) (fun ok s₃ =>
            if ok = true then wpAny W.M A (eval elt env) (fun x s₄ =>
              wpAny W.M A (call (.builtin "list.append") [acc, x]) (fun _ s₅ => ∃ m, m < n ∧ I m s₅) (notedBy W.M A env fun e s' => R (.error e) s') s₄) (notedBy W.M A env fun e s' => R (.error e) s') s₃
            else ∃ m, m < n ∧ I m s₃) (notedBy W.M A env fun e s' => R (.error e) s') s₂) (notedBy W.M A env fun e s' => R (.error e) s') s₁') (notedBy W.M A env fun e s' => R (.error e) s') s₁) (notedBy W.M A env fun e s' => R (.error e) s') s)
    (n : Nat) (h : I n s) : codeAny W.M A (.compLoop (.ListComp elt [⟨target, iter, ifs, 0⟩] scope pos) 0 it acc env) R s := by
  refine codeAny_loop rfl I (fun n s hI => ?_) n h
  show wpAny _ A ((compTurn (.ListComp elt [⟨target, iter, ifs, 0⟩] scope pos) 0 it acc env).onRaise (fun x => do noteFrame x env; theTreesLotGoes x)) _ _ s
  refine wpAny_noted ?_
  rw [compTurn_list]
  refine wpAny_bind (wpAny_standAt (wpAny_bind (wpAny_mono (turn n s hI) (fun r s₁ h₁ => ?_) fun _ _ h' => h')))
  cases r with
  | none => exact wpAny_pure h₁
  | some v =>
    refine wpAny_bind (wpAny_mono h₁ (fun _ s₁' h₁' => ?_) fun _ _ h' => h')
    refine wpAny_bind (wpAny_mono h₁' (fun _ s₂ h₂ => wpAny_bind (wpAny_mono h₂ (fun ok s₃ h₃ => ?_) fun _ _ h' => h')) fun _ _ h' => h')
    cases ok with
    | false => exact wpAny_pure ⟨rfl, h₃⟩
    | true => exact wpAny_bind (wpAny_bind (wpAny_mono h₃ (fun x s₄ h₄ => wpAny_bind (wpAny_mono h₄ (fun _ s₅ h₅ => wpAny_pure (wpAny_pure ⟨rfl, h₅⟩)) fun _ _ h' => h')) fun _ _ h' => h'))
-- targets that write the table of the frame alone
def DenTgC (W : Wd) (d : Nat) (sc : Scope) (t : Expr) (G : AV → Slots → Option Slots) : Prop :=
  ∀ (A : Around) (env : Env) (Z : AddrSet) (s : Shared) (ρ : Slots) (α : Str → Addr) (v : Value) (av : AV) (ρ' : Slots), Room A d → EnvOk env sc → Inv W Z s → Loc W Z s.heap env ρ α → RepV Z s.heap v av → G av ρ = some ρ' →
    ∀ (Q : Unit → Shared → Prop) (E' : Value → Shared → Prop), (∀ s' α', Step W (.addrs (· = env.locals)) Z s Z s' → (∀ b, FOwn env ρ' α' b → FOwn env ρ α b) → Loc W Z s'.heap env ρ' α' → Q () s') → wpAny W.M A (assign t env v) Q E' s
theorem tgc_name {x : Str} {p : Pos} (hk : sc.names.lookup x = some .local) : DenTgC W d sc (.Name x p) fun a ρ => some (ρ.set x (.val a)) := by
  intro A env Z s ρ α v av ρ' R hE I L r hf Q E' q
  cases hf
  show wpAny _ _ (do standAt p; bindName env x v) _ _ _
  refine wpAny_bind (wpAny_standAt (wpAny_bindName (L.store' (sv := .val av) (a := α x) I hE (.inl hk) r (fun l e => by cases e) fun s' c fc hc p fo l => ?_)))
  have := hc hk
  subst this
  exact q s' _ p (fun b f => (fo b f).elim id (fun ⟨⟨l, e⟩, _⟩ => by cases e)) l
theorem Step.free {O : Own} (p : Step W O Z s Z₁ s₁) (ho : ∀ a, O.a a → s.heap.get? a = none) (hg : ∀ i, ¬ O.g i) : Step W .none Z s Z₁ s₁ := p.mono (fun a h => .inr (ho a h)) fun i h => (hg i h).elim
theorem compA_bound {T : AV → Slots → Option Slots} {t : Slots → Option Bool} {f : Slots → Option AV} : ∀ {items : List AV} {ρ : Slots} {l : List AV}, compA T t f items ρ = some l → l.length ≤ items.length
  | [], _, _, h => by cases h; exact Nat.le_refl _
  | a :: r, ρ, l, h => by
    unfold compA at h
    obtain ⟨ρ₁, _, h⟩ := bindO h
    obtain ⟨b, _, h⟩ := bindO h
    split at h
    · obtain ⟨x, _, h⟩ := bindO h
      obtain ⟨m, hm, rfl⟩ := Option.map_eq_some_iff.mp h
      have := compA_bound hm
      simp; (first | lia | omega)
    · have := compA_bound h
      simp; (first | lia | omega)
theorem Step.nz {O : Own} (p : Step W O Z s Z' s') {b : Addr} {o : Obj} (hz : ¬ Z b) (ho : ¬ O.a b) (e : s.heap.get? b = some o) : ¬ Z' b := fun z => by
  rcases p.znew b z with z | z | z
  · exact hz z
  · exact ho z
  · rw [e] at z; cases z
structure CompInv (W : Wd) (cenv : Env) (Z : AddrSet) (s : Shared) (ρc : Slots) (αc : Str → Addr) (fp wr : List Addr) (St : Nat → Heap → Prop) (D : Addr) (Z₂ : AddrSet) (s₄ : Shared) (s' : Shared) (i : Nat) (vs : List Value) (l₁ : List AV) (Z' : AddrSet) (ρ₁ : Slots) (α₁ : Str → Addr) : Prop where
  p : Step W .none Z s Z' s'
  L : Loc W Z' s'.heap cenv ρ₁ α₁
  st : St i s'.heap
  hD : s'.heap.PlainList D vs.toArray
  rs : RepVs Z' s'.heap vs l₁
  fo : ∀ b, FOwn cenv ρ₁ α₁ b → FOwn cenv ρc αc b
  Dz : ¬ Z' D
  w : ∀ b ∈ wr, ¬ Z' b
  z : ∀ b o, Z₂ b → s₄.heap.get? b = some o → s'.heap.get? b = some o
  zz : ∀ b, Z₂ b → Z' b
structure CompAt (W : Wd) (A : Around) (cenv : Env) (Z : AddrSet) (s : Shared) (ρc : Slots) (αc : Str → Addr) (fp wr : List Addr) (St : Nat → Heap → Prop) (P : Nat → Value → Prop) (n : Nat) (J : Addr) (D : Addr) (Z₂ : AddrSet) : Prop where
  I : Inv W Z s
  Wk : Walks W.prog W.w A J fp wr n P St
  hw : ∀ b ∈ wr, s.heap.get? b = none ∧ ¬ Z₂ b
  hf : ∀ b ∈ fp, b ∈ wr ∨ Z₂ b
  ob : ∀ i h, St i h → ∀ b ∈ wr, ∃ o, h.get? b = some o
  hd : s.heap.get? D = none
  Dz : ¬ Z₂ D
  Do : ¬ FOwn cenv ρc αc D
  C : s.heap.get? cenv.locals = none
  wd : ∀ b ∈ wr, b ≠ D ∧ ¬ FOwn cenv ρc αc b
section
variable {cenv : Env} {ρc ρ₁ ρ₂ : Slots} {αc α₁ α₂ : Str → Addr} {fp wr : List Addr} {St : Nat → Heap → Prop} {P : Nat → Value → Prop} {D J : Addr} {Z₂ Z₃ Z₆ : AddrSet} {s₄ s₃ s₅ s₆ : Shared} {i n : Nat} {vs : List Value} {l₁ : List AV}
theorem CompInv.snoc (k : CompAt W A cenv Z s ρc αc fp wr St P n J D Z₂) (c : CompInv W cenv Z s ρc αc fp wr St D Z₂ s₄ s₃ i vs l₁ Z₃ ρ₁ α₁) {v : Value} {x : AV} {nD : Nat} {h'' : Heap} (rv : RepV Z₃ s₃.heap v x) (hsb : Heap.SameBut D s₃.heap h'') (ho : h''.get? D = some { cls := .type "list", data := .seq (vs.toArray.push v) nD }) :
    CompInv W cenv Z s ρc αc fp wr St D Z₂ s₄ { s₃ with heap := h'' } i (vs ++ [v]) (l₁ ++ [x]) Z₃ ρ₁ α₁ := by
  have p₈ : Step W (.addrs (· ∈ [D])) Z₃ s₃ Z₃ { s₃ with heap := h'' } := .writes (tk := s₃.toks) c.p.inv (fun b o hb e => hsb.extBut b o (fun q => hb (q ▸ List.mem_singleton_self D)) e) (fun b hb => by cases List.mem_singleton.mp hb; exact ⟨k.I.fresh_b k.hd, k.I.fresh_x k.hd, c.Dz⟩)
  have hz8 : ∀ b, Z₃ b → ¬ (Own.addrs (· ∈ [D])).a b := fun b z h => by cases List.mem_singleton.mp h; exact c.Dz z
  refine ⟨c.p.trans p₈ (fun a h => .inr (by cases List.mem_singleton.mp h; exact k.hd)) fun _ h => h.elim, c.L.step p₈ fun b hb => by cases List.mem_singleton.mp hb; exact ⟨fun f => k.Do (c.fo D f), c.Dz⟩,
    k.Wk.frame _ _ _ c.st fun b hb o e => hsb.extBut b o (fun q => ?_) e, ⟨nD, by rw [← List.push_toArray]; exact ho⟩, (p₈.reps hz8 c.rs).snoc (p₈.rep hz8 rv), c.fo, c.Dz, c.w, fun b o z e => hsb.extBut b o (fun q => k.Dz (q ▸ z)) (c.z b o z e), c.zz⟩
  rcases k.hf b hb with h1 | h1
  · exact (k.wd b h1).1 q
  · exact k.Dz (q ▸ h1)
theorem CompInv.drawn (k : CompAt W A cenv Z s ρc αc fp wr St P n J D Z₂) (c : CompInv W cenv Z s ρc αc fp wr St D Z₂ s₄ s₃ i vs l₁ Z₃ ρ₁ α₁) {h' : Heap} {tk : Nat} {j : Nat} (st : St j h') (hk : ∀ b o, b ∉ wr → s₃.heap.get? b = some o → h'.get? b = some o) (htk : s₃.toks ≤ tk) :
    CompInv W cenv Z s ρc αc fp wr St D Z₂ s₄ { s₃ with heap := h', toks := tk } j vs l₁ Z₃ ρ₁ α₁ := by
  have p₄ : Step W (.addrs (· ∈ wr)) Z₃ s₃ Z₃ { s₃ with heap := h', toks := tk } := .writes c.p.inv hk fun b hb => ⟨k.I.fresh_b (k.hw b hb).1, k.I.fresh_x (k.hw b hb).1, c.w b hb⟩
  exact ⟨c.p.trans p₄ (fun a h => .inr (k.hw a h).1) fun _ h => h.elim, c.L.step p₄ fun b hb => ⟨fun fo => (k.wd b hb).2 (c.fo b fo), c.w b hb⟩, st, (let ⟨m, e⟩ := c.hD; ⟨m, hk D _ (fun h => (k.wd D h).1 rfl) e⟩), p₄.reps (fun b z h => c.w b h z) c.rs, c.fo, c.Dz, c.w,
    fun b o z e => hk b o (fun hb => c.w b hb (c.zz b z)) (c.z b o z e), c.zz⟩
theorem CompInv.bound (k : CompAt W A cenv Z s ρc αc fp wr St P n J D Z₂) (c : CompInv W cenv Z s ρc αc fp wr St D Z₂ s₄ s₃ i vs l₁ Z₃ ρ₁ α₁) (p₅ : Step W (.addrs (· = cenv.locals)) Z₃ s₃ Z₃ s₅) (fo₅ : ∀ b, FOwn cenv ρ₂ α₂ b → FOwn cenv ρ₁ α₁ b) (L₅ : Loc W Z₃ s₅.heap cenv ρ₂ α₂) :
    CompInv W cenv Z s ρc αc fp wr St D Z₂ s₄ s₅ i vs l₁ Z₃ ρ₂ α₂ := by
  have hCz : ¬ Z₃ cenv.locals := c.L.nz _ (.inl rfl)
  have hz5 : ∀ b, Z₃ b → ¬ (Own.addrs (· = cenv.locals)).a b := fun b z f => hCz (by rw [← show b = cenv.locals from f]; exact z)
  refine ⟨c.p.trans p₅ (fun a h => .inr (by rw [show a = cenv.locals from h]; exact k.C)) fun _ h => h.elim, L₅, k.Wk.frame _ _ _ c.st fun b hb o e => p₅.keep b o (fun h => ?_) e, (let ⟨m, e⟩ := c.hD; ⟨m, p₅.keep D _ (fun h => k.Do (.inl h)) e⟩), p₅.reps hz5 c.rs, fun b f => c.fo b (fo₅ b f), c.Dz, c.w,
    fun b o z e => p₅.keep b o (fun h => hz5 b (c.zz b z) h) (c.z b o z e), c.zz⟩
  rcases k.hf b hb with h1 | h1
  · exact (k.wd b h1).2 (.inl h)
  · exact hz5 b (c.zz b h1) h
theorem CompInv.pure (k : CompAt W A cenv Z s ρc αc fp wr St P n J D Z₂) (c : CompInv W cenv Z s ρc αc fp wr St D Z₂ s₄ s₃ i vs l₁ Z₃ ρ₁ α₁) (p₇ : Step W .none Z₃ s₃ Z₆ s₆) : CompInv W cenv Z s ρc αc fp wr St D Z₂ s₄ s₆ i vs l₁ Z₆ ρ₁ α₁ :=
  have ⟨m, e⟩ := c.hD
  ⟨c.p.tr p₇, c.L.step0 p₇, k.Wk.frame _ _ _ c.st fun b _ o e => p₇.keep b o id e, ⟨m, p₇.keep D _ id e⟩, p₇.reps0 c.rs, c.fo, p₇.nz c.Dz id e, fun b hb => (let ⟨_, e⟩ := k.ob _ _ c.st b hb; p₇.nz (c.w b hb) id e), fun b o z e => p₇.keep b o id (c.z b o z e), fun b z => p₇.zsub b (c.zz b z)⟩
end
theorem comp_loop {elt target iter : Expr} {ifs : List Expr} {scope : Scope} {pos : Pos} {sc' : Scope} {T : AV → Slots → Option Slots} {t : Slots → Option Bool} {f : Slots → Option AV} {items l : List AV} {cenv : Env} {ρc : Slots} {αc : Str → Addr} {D J : Addr} {Z₂ : AddrSet} {s₄ : Shared}
    {fp wr : List Addr} {P : Nat → Value → Prop} {St : Nat → Heap → Prop}
    (htg : DenTgC W d sc' target T) (hif : DenIfs W d sc' ifs t) (helt : DenP W d sc' elt f) (R : Room A d) (hE : EnvOk cenv sc') (I : Inv W Z s) (hc : compA T t f items ρc = some l) (hz : items.length ≤ 1000000)
    (p : Step W .none Z s Z₂ s₄) (Lc : Loc W Z₂ s₄.heap cenv ρc αc) (Wk : Walks W.prog W.w A J fp wr items.length P St) (st : St 0 s₄.heap) (hP : ∀ i v, P i v → ∃ a, items[i]? = some a ∧ RepV Z₂ s₄.heap v a) (hwr : ∀ b ∈ wr, s.heap.get? b = none ∧ ¬ Z₂ b) (hfp : ∀ b ∈ fp, b ∈ wr ∨ Z₂ b) (hob : ∀ i h, St i h → ∀ b ∈ wr, ∃ o, h.get? b = some o)
    (hgo : ∀ i v (s' : Shared) (Q : Unit → Shared → Prop) (E' : Value → Shared → Prop), St i s'.heap → Q () s' → wpAny W.M A (letOwnedTupleGo target (.ref J) v) Q E' s')
    (hDp : s₄.heap.PlainList D #[]) (hD : s.heap.get? D = none) (hDz : ¬ Z₂ D) (hDo : ¬ FOwn cenv ρc αc D) (hC : s.heap.get? cenv.locals = none) (hwd : ∀ b ∈ wr, b ≠ D ∧ ¬ FOwn cenv ρc αc b) {Rr : Result → Shared → Prop}
    (q : ∀ s' Z' vs m, Step W .none Z s Z' s' → ¬ Z' D → s'.heap.PlainList D vs.toArray → RepVs Z' s'.heap vs l → s'.heap.Ns cenv.locals m → ¬ Z' cenv.locals → Rr (.ok .next) s') :
    codeAny W.M A (.compLoop (.ListComp elt [⟨target, iter, ifs, 0⟩] scope pos) 0 (.ref J) (.ref D) cenv) Rr s₄ := by
  have k : CompAt W A cenv Z s ρc αc fp wr St P items.length J D Z₂ := ⟨I, Wk, hwr, hfp, hob, hD, hDz, hDo, hC, hwd⟩
  refine codeAny_comp (fun k s' => ∃ i vs l₁ Z' ρ₁ α₁, CompInv W cenv Z s ρc αc fp wr St D Z₂ s₄ s' i vs l₁ Z' ρ₁ α₁ ∧ k = items.length - i ∧ i ≤ items.length ∧ (compA T t f (items.drop i) ρ₁).map (l₁ ++ ·) = some l) ?_ items.length
    ⟨0, [], [], Z₂, ρc, αc, ⟨p, Lc, st, hDp, .nil, fun _ h => h, hDz, fun b hb => (hwr b hb).2, fun _ _ _ e => e, fun _ z => z⟩, rfl, Nat.zero_le _, by rw [List.drop_zero, hc]; rfl⟩
  clear p Lc st hDp hwr hfp hob hD hDz hDo hC hwd I
  rintro _ s₃ ⟨i, vs, l₁, Z₃, ρ₃, α₃, c, rfl, hi', hca⟩
  obtain ⟨l₂, hca, hl⟩ := Option.map_eq_some_iff.mp hca
  by_cases hlt : i < items.length
  · refine wpAny_with_toks (Nat.le_refl _) (Wk.item i s₃ _ _ hlt c.st fun v h' tk hv st₄ hk => fun (htk : s₃.toks ≤ tk) => ?_)
    obtain ⟨a, ha, ra⟩ := hP i v hv
    have c4 := c.drawn (tk := tk) k st₄ hk htk
    refine hgo (i + 1) v _ _ _ st₄ ?_
    rw [List.drop_eq_getElem_cons hlt, Option.some.inj ((List.getElem?_eq_getElem hlt).symm.trans ha)] at hca
    unfold compA at hca
    obtain ⟨ρ₅, h₅, hca⟩ := bindO hca
    obtain ⟨b, hb, hca⟩ := bindO hca
    refine htg A cenv Z₃ _ ρ₃ α₃ v a ρ₅ R hE c4.p.inv c4.L (ra.mono c4.zz c4.z) h₅ _ _ fun s₅ α₅ p₅ fo₅ L₅ => ?_
    have c5 := c4.bound k p₅ fo₅ L₅
    clear c4 c
    refine hif A cenv Z₃ s₅ ρ₅ α₅ b R hE p₅.inv L₅ hb _ _ fun s₆ Z₆ p₆ => ?_
    have c6 := c5.pure k p₆
    clear c5
    have hlt' : items.length - (i + 1) < items.length - i := Nat.sub_lt_sub_left hlt (Nat.lt_succ_self i)
    cases b with
    | false => exact ⟨items.length - (i + 1), hlt', i + 1, vs, l₁, Z₆, ρ₅, α₅, c6, rfl, hlt, Option.map_eq_some_iff.mpr ⟨l₂, hca, hl⟩⟩
    | true =>
      obtain ⟨x, hx, hca⟩ := bindO hca
      obtain ⟨l₃, hl₃, hl₂⟩ := Option.map_eq_some_iff.mp hca
      refine helt A cenv Z₆ s₆ ρ₅ α₅ x R hE p₆.inv c6.L hx _ _ fun w s₇ Z₇ p₇ rw' => ?_
      have c7 := c6.pure k p₇
      clear c6
      have hvl : vs.length ≤ 1000000 := by
        have h1 := compA_bound hc
        have h2 := c7.rs.length
        rw [← hl, List.length_append] at h1
        (first | lia | omega)
      obtain ⟨nD, r6⟩ := c7.hD
      refine append_at (n := nD) r6 (fun h'' hsb ho' => ?_) (by rw [List.size_toArray]; unfold sizeLine; (first | lia | omega))
      exact ⟨items.length - (i + 1), hlt', i + 1, vs ++ [w], l₁ ++ [x], Z₇, ρ₅, α₅, c7.snoc k rw' hsb ho', rfl, hlt, Option.map_eq_some_iff.mpr ⟨l₃, hl₃, by rw [List.append_assoc, ← hl, ← hl₂]; rfl⟩⟩
  · have hin : i = items.length := Nat.le_antisymm hi' (Nat.le_of_not_lt hlt)
    rw [hin, List.drop_length] at hca
    cases hca
    rw [List.append_nil] at hl
    refine wpAny_with_toks (Nat.le_refl _) (Wk.done s₃ _ _ (hin ▸ c.st) fun h' tk hk => fun (htk : s₃.toks ≤ tk) => ?_)
    have p₄ : Step W (.addrs (· ∈ wr)) Z₃ s₃ Z₃ { s₃ with heap := h', toks := tk } := .writes c.p.inv hk fun b hb => ⟨k.I.fresh_b (k.hw b hb).1, k.I.fresh_x (k.hw b hb).1, c.w b hb⟩
    have L₄ := c.L.step p₄ fun b hb => ⟨fun fo => (k.wd b hb).2 (c.fo b fo), c.w b hb⟩
    obtain ⟨m, ns, _⟩ := L₄.ns
    obtain ⟨nD, hDg⟩ := c.hD
    exact q _ Z₃ vs m (c.p.trans p₄ (fun a h => .inr (k.hw a h).1) fun _ h => h.elim) c.Dz ⟨nD, hk D _ (fun h => (k.wd D h).1 rfl) hDg⟩ (hl ▸ p₄.reps (fun b z h => c.w b h z) c.rs) ns (c.L.nz _ (.inl rfl))
theorem comp_core {elt target iter : Expr} {ifs : List Expr} {scope : Scope} {pos p1 : Pos} {g : Slots → Option (List AV)} {T : AV → Slots → Option Slots} {t : Slots → Option Bool} {f : Slots → Option AV} {items l : List AV} {use : Option (Value → Sem Unit)} (hs : CompScope scope sc) (hi : DenIt W d sc target iter g)
    (htg : DenTgC W d (relabelS scope sc) target T) (hif : DenIfs W d (relabelS scope sc) ifs t) (helt : DenP W d (relabelS scope sc) elt f) (hset : ∀ env x, foldedSetIterable iter env x = pure x)
    (R : Room A d) (hE : EnvOk env sc) (I : Inv W Z s) (L : Loc W Z s.heap env ρ α) (hg : g ρ = some items) (hc : compA T t f items (capt scope ρ) = some l) (hz : items.length ≤ 1000000) {Q : Value → Shared → Prop} {E' : Value → Shared → Prop}
    (q : ∀ s' Z' vs C D m, Step W .none Z s Z' s' → s.heap.get? D = none → ¬ Z' D → s'.heap.PlainList D vs.toArray → RepVs Z' s'.heap vs l → s'.heap.Ns C m → s.heap.get? C = none → ¬ Z' C → C ≠ D → compPost W.M A E' use Q (.ref D) C (.ok .next) s') :
    wpAny W.M A (comprehension (.ListComp elt [⟨target, iter, ifs, 0⟩] scope pos) scope env p1 (newList []) false (eval iter env) use) Q E' s := by
  refine wpAny_comprehension_free rfl (hset env) (closureFor_eq (free_cells hE hs)) hs.fn hs.locals (hi A env Z s ρ α items R hE I L hg _ _ fun x s₁ Z₁ p₁ hx => hx _ _ fun it s₂ Z₂ p₂ hI => ?_)
  obtain ⟨J, fp, wr, P, St, rfl, Wk, st, hP, hwr, hfp, hob, hgo⟩ := hI
  refine wpAny_newObj_type (wpAny_newFunctionEnv hs.nocell (fun x hx => by cases hx) (fun h₄ ns₄ sb₄ => ?_) hs.fn)
  have p12 := p₁.tr p₂
  have L₂ := (L.step0 p₁).step0 p₂
  have hC : (s₂.heap.push { cls := .type "list", data := .seq #[] }).get? (s₂.heap.push { cls := .type "list", data := .seq #[] }).objs.size = none := push_none _
  have kC : ∀ b o, (s₂.heap.push { cls := .type "list", data := .seq #[] }).get? b = some o → h₄.get? b = some o := fun b o e => sb₄.extBut b o (Nat.ne_of_lt (Heap.lt_size e)) (Heap.get?_push_of_some _ e)
  have k4 : ∀ b o, s₂.heap.get? b = some o → h₄.get? b = some o := fun b o e => kC b o (push_keep _ _ b o e)
  have hD2 : s₂.heap.get? s₂.heap.objs.size = none := push_none _
  have hC2 : s₂.heap.get? (s₂.heap.push { cls := .type "list", data := .seq #[] }).objs.size = none := by
    cases e : s₂.heap.get? (s₂.heap.push { cls := .type "list", data := .seq #[] }).objs.size with
    | none => rfl
    | some o => rw [push_keep _ _ _ _ e] at hC; cases hC
  have hDg : h₄.get? s₂.heap.objs.size = some { cls := .type "list", data := .seq #[] } := kC _ _ (Heap.get?_push_size s₂.heap rfl)
  have hCD : (s₂.heap.push { cls := .type "list", data := .seq #[] }).objs.size ≠ s₂.heap.objs.size := fun e => by
    rw [e, Heap.get?_push_size s₂.heap rfl] at hC; cases hC
  have p24 : ∀ tk, s₂.toks ≤ tk → Step W .none Z₂ s₂ Z₂ { s₂ with heap := h₄, toks := tk } := fun tk htk => .grow p₂.inv k4 htk
  have hDs : s.heap.get? s₂.heap.objs.size = none := (p12.none_back hD2).resolve_left id
  have hCs : s.heap.get? (s₂.heap.push { cls := .type "list", data := .seq #[] }).objs.size = none := (p12.none_back hC2).resolve_left id
  have rl := relabel_eq (scope := scope) hE
  have al : ∀ b ∈ wr, ∃ o, s₂.heap.get? b = some o := hob _ _ st
  have key : codeAny W.M A (.compLoop (.ListComp elt [⟨target, iter, ifs, 0⟩] scope pos) 0 (.ref J) (.ref s₂.heap.objs.size) (compEnvC scope (closeL env scope.names []) (s₂.heap.push { cls := .type "list", data := .seq #[] }).objs.size env)) (compPost W.M A E' use Q (.ref s₂.heap.objs.size) (s₂.heap.push { cls := .type "list", data := .seq #[] }).objs.size) { s₂ with heap := h₄ } := by
    have Lc : Loc W Z₂ h₄ (compEnvC scope (closeL env scope.names []) (s₂.heap.push { cls := .type "list", data := .seq #[] }).objs.size env) (capt scope ρ) α :=
      capt_loc hE L₂ hs k4 (fun b z => .inl z) (fun _ z => z) hC2 (p₂.inv.fresh_z hC2) ⟨p₂.inv.fresh_b hC2, p₂.inv.fresh_x hC2⟩ ns₄ _ rfl rfl rl
    have fo : ∀ b, FOwn (compEnvC scope (closeL env scope.names []) (s₂.heap.push { cls := .type "list", data := .seq #[] }).objs.size env) (capt scope ρ) α b → b = (s₂.heap.push { cls := .type "list", data := .seq #[] }).objs.size ∨ ∃ o, s.heap.get? b = some o := by
      rintro b (e | ⟨x, hn, hx⟩ | ⟨x, m, hx, rfl⟩)
      · exact .inl e
      · exact .inr (L.alive (.inr (.inl ⟨x, hn, (closeL_lookup scope.names [] (free_cells hE hs) x b hx).resolve_right (fun h => by cases h)⟩)))
      · refine .inr (L.alive (.inr (.inr ⟨x, m, ?_, rfl⟩)))
        unfold capt at hx
        split at hx
        · exact hx
        · cases hx
    refine comp_loop (D := s₂.heap.objs.size) (cenv := compEnvC scope (closeL env scope.names []) (s₂.heap.push { cls := .type "list", data := .seq #[] }).objs.size env) htg hif helt R (capt_env hE hs _ rfl rl rfl rfl) I hc hz (p12.tr (p24 s₂.toks (Nat.le_refl _))) Lc Wk (Wk.frame _ _ _ st fun b _ o e => k4 b o e) (fun i v hv => ?_) hwr hfp hob hgo ⟨0, hDg⟩ hDs (p₂.inv.fresh_z hD2) (fun f => ?_) hCs (fun b hb => ⟨fun e => ?_, fun f => ?_⟩)
      fun s' Z' vs m p hz' hp rs ns hzC => q s' Z' vs _ _ m p hDs hz' hp rs ns hCs hzC hCD
    · obtain ⟨a, ha, ra⟩ := hP i v hv
      exact ⟨a, ha, (p24 s₂.toks (Nat.le_refl _)).rep0 ra⟩
    · rcases fo _ f with e | ⟨o, e⟩
      · exact hCD e.symm
      · rw [hDs] at e; cases e
    · obtain ⟨o, h⟩ := al b hb; rw [e, hD2] at h; cases h
    · rcases fo _ f with e | ⟨o, e⟩
      · obtain ⟨o, h⟩ := al b hb; rw [e, hC2] at h; cases h
      · rw [(hwr b hb).1] at e; cases e
  refine codeAny_compStart_list key (Wk.self 0 _ _ _ (Wk.frame _ _ _ st fun b _ o e => k4 b o e) key)
theorem deno_comp {elt target iter : Expr} {ifs : List Expr} {scope : Scope} {pos : Pos} {g : Slots → Option (List AV)} {T : AV → Slots → Option Slots} {t : Slots → Option Bool} {f : Slots → Option AV} (hs : CompScope scope sc) (hi : DenIt W d sc target iter g)
    (htg : DenTgC W d (relabelS scope sc) target T) (hif : DenIfs W d (relabelS scope sc) ifs t) (helt : DenP W d (relabelS scope sc) elt f) (hset : ∀ env x, foldedSetIterable iter env x = pure x) :
    DenO W d sc (.ListComp elt [⟨target, iter, ifs, 0⟩] scope pos) fun ρ => g ρ >>= fun items => if items.length ≤ 1000000 then compA T t f items (capt scope ρ) else none := by
  intro A env Z s ρ α l R hE I L hf Q E' q
  obtain ⟨items, hg, hf⟩ := bindO hf
  obtain ⟨hz, hf⟩ := iteO hf
  · skip
    rw [eval_ListComp]
    refine comp_core (use := none) hs hi htg hif helt hset R hE I L hg hf hz fun s' Z' vs C D m p hD hDz hp rs ns hC hCz hCD => ⟨m, ns, fun h' sb => ?_⟩
    obtain ⟨n, hp⟩ := hp
    have p₂ : Step W (.addrs (· ∈ [C])) Z' s' Z' { s' with heap := h' } := .writes (tk := s'.toks) p.inv (fun b o hb e => sb.extBut b o (by simpa using hb) e) (fun b hb => by cases List.mem_singleton.mp hb; exact ⟨I.fresh_b hC, I.fresh_x hC, hCz⟩)
    refine q D vs _ Z' (p.trans p₂ (fun a h => .inr (by cases List.mem_singleton.mp h; exact hC)) fun _ h => h.elim) hD hDz ⟨n, sb.extBut D _ (fun e => hCD e.symm) hp⟩ (p₂.reps (fun b z h => by cases List.mem_singleton.mp h; exact hCz z) rs)
end
end Mine
end
section
set_option linter.unusedVariables false
namespace Mine
section
variable {W : Wd} {Z Z' Z₁ : AddrSet} {s s' s₁ : Shared} {env : Env} {sc : Scope} {ρ ρ' : Slots} {α α' : Str → Addr} {A : Around} {d : Nat}
theorem deno_cut {value : Expr} {lo hi : Option Expr} {p pos : Pos} {f : Slots → Option AV} {g h : Slots → Option (Option Int)} (hv : DenP W d sc value f) (hl : DenPart W d sc lo g) (hh : DenPart W d sc hi h) :
    DenO W d sc (.Subscript value (.Slice lo hi none p) pos) fun ρ => f ρ >>= fun o => g ρ >>= fun i => h ρ >>= fun j => match o with | .lst l => if l.length ≤ 1000000 then some (cutL l i j) else none | _ => none := by
  intro A env Z s ρ α av R hE I L hf Q E' q
  obtain ⟨a, ha, hf⟩ := bindO hf
  obtain ⟨i, hi, hf⟩ := bindO hf
  obtain ⟨j, hj, hf⟩ := bindO hf
  cases a with
  | lst l =>
    obtain ⟨hz, hf⟩ := iteO hf
    · skip
      cases hf
      refine Subscript_ (hv A env Z s ρ α _ R hE I L ha _ _ fun va s₁ Z₁ p₁ r₁ => wpAny_Slice (hl A env Z₁ s₁ ρ α i R hE p₁.inv (L.step0 p₁) hi _ _ fun vl s₂ Z₂ p₂ q₂ =>
        hh A env Z₂ s₂ ρ α j R hE p₂.inv ((L.step0 p₁).step0 p₂) hj _ _ fun vu s₃ Z₃ p₃ q₃ => ?_))
      have p₄ : Step W .none Z₃ s₃ Z₃ { s₃ with heap := s₃.heap.push { cls := .type "slice", data := .fields #[vl, vu, .none] } } := .grow p₃.inv (tk := s₃.toks) (push_keep _ _)
      refine wpAny_pure ?_
      have ro := p₄.rep0 (p₃.rep0 (p₂.rep0 r₁))
      have p14 := p₁.tr (p₂.tr (p₃.tr p₄))
      obtain ⟨a, vs, rfl, z, hl, rl⟩ := ro.lst'
      have e : slicePick vs.toArray i j none = (cutL vs i j).toArray := by
        rw [slicePick_plain]; unfold cutL; simp
      refine (GivesO.newLst (n := 0) p₄.inv (rl.cut i j) fun Q E' q => tail_any hl.typeIs slot_list_getitem.lookup (wpAny_getItem_list_slice hl (Heap.IsSliceOf.new _ _ _ _) q₂ q₃ .none (by intro c; cases c) ?_ (by simp only [List.size_toArray, rl.length, sizeLine]; (first | lia | omega))) rfl) _ _ fun a vs s₂ Z₂ p₂ hn hz hp r₂ => q a vs s₂ Z₂ (p14.tr p₂) ((p14.none_back hn).resolve_left id) hz hp r₂
      rw [e]; exact q _
  | _ => cases hf
theorem den_assign_comp {x : Str} {px spos : Pos} {elt target iter : Expr} {ifs : List Expr} {scope : Scope} {pos : Pos} {g : Slots → Option (List AV)} {T : AV → Slots → Option Slots} {t : Slots → Option Bool} {f : Slots → Option AV} (hs : CompScope scope sc) (hi : DenIt W d sc target iter g)
    (htg : DenTgC W d (relabelS scope sc) target T) (hif : DenIfs W d (relabelS scope sc) ifs t) (helt : DenP W d (relabelS scope sc) elt f) (hset : ∀ env x, foldedSetIterable iter env x = pure x)
    (hk : sc.names.lookup x = some .local) (hline : px.line = pos.line) (hany : (scope.names.any fun (n, k) => n == x && (k == .local || k == .cell)) = false) :
    DenS W d sc (.Assign [.Name x px] (.ListComp elt [⟨target, iter, ifs, 0⟩] scope pos) spos) fun ρ => g ρ >>= fun items => if items.length ≤ 1000000 then compA T t f items (capt scope ρ) >>= fun l => some (.next, ρ.set x (.own ⟨none, l⟩)) else none := by
  intro A env Z s ρ α fl ρ' R hE I L hf Q E' q
  obtain ⟨items, hg, hf⟩ := bindO hf
  obtain ⟨hz, hf⟩ := iteO hf
  · skip
    obtain ⟨l, hc, hf⟩ := bindO hf
    cases hf
    have hsw : swapsWith (.ListComp elt [⟨target, iter, ifs, 0⟩] scope pos) (some (.Name x px)) spos.line env = pure true := by
      unfold swapsWith
      have h1 : (env.blockKind == ScopeKind.function) = true := by unfold Env.blockKind; rw [hE.kfn]; rfl
      have h2 : (env.kindOf x == some NameKind.local) = true := by rw [hE.kind, hk]; rfl
      have h3 : (px.line == (Expr.ListComp elt [⟨target, iter, ifs, 0⟩] scope pos).pos.line) = true := by
        show (px.line == pos.line) = true
        rw [hline]; exact beq_self_eq_true _
      show pure (env.blockKind == ScopeKind.function && env.kindOf x == some NameKind.local && px.line == (Expr.ListComp elt [⟨target, iter, ifs, 0⟩] scope pos).pos.line && !(scope.names.any fun (n, k) => n == x && (k == .local || k == .cell))) = pure true
      rw [h1, h2, h3, hany]; rfl
    rw [exec_Assign_Name_used _ _ _ _ hsw]
    refine wpAny_bind (wpAny_standAt (wpAny_bind ?_))
    show wpAny _ A (do let _ ← comprehension (.ListComp elt [⟨target, iter, ifs, 0⟩] scope pos) scope env _ (newList []) false (eval iter env) (some (assign (.Name x px) env))) _ _ s
    refine wpAny_bind (comp_core (use := some (assign (.Name x px) env)) hs hi htg hif helt hset R hE I L hg hc hz fun s' Z' vs C D m p hD hDz hp rs ns hC hCz hCD => ?_)
    show wpAny _ A (assign (.Name x px) env (.ref D)) _ _ _
    have L₁ := L.step0 p
    refine wpAny_assign_Name (L₁.store (sv := .own ⟨none, l⟩) (a := D) p.inv hE (.inl hk) ⟨rfl, vs, hp, rs⟩ (fun l₀ e₀ => ⟨hDz, I.fresh_b hD, I.fresh_x hD, (fun b h => by cases e₀; cases h), fun y l' _ hy e => ?_⟩) fun s₂ p₂ fo L₂ => ?_)
    · obtain ⟨o, ho⟩ := L.alive (.inr (.inr ⟨y, l', hy, rfl⟩))
      rw [e, hD] at ho; cases ho
    · have hCf : ¬ FOwn env ρ α C := fun f => by
        obtain ⟨o, ho⟩ := L.alive f; rw [hC] at ho; cases ho
      have hCf₂ : ¬ FOwn env (ρ.set x (.own ⟨none, l⟩)) (setA α x D) C := fun f => by
        rcases fo C f with f | ⟨_, e⟩
        · exact hCf f
        · exact hCD e
      obtain ⟨o, es, ep, e, dd, rest⟩ := ns
      have ns₂ : s₂.heap.Ns C m := ⟨o, es, ep, p₂.keep C o (fun h => hCf h) e, dd, rest⟩
      refine ⟨m, ns₂, fun h' sb => ?_⟩
      have p₃ : Step W (.addrs (· ∈ [C])) Z' s₂ Z' { s₂ with heap := h' } := .writes (tk := s₂.toks) p₂.inv (fun b o hb e => sb.extBut b o (by simpa using hb) e) (fun b hb => by cases List.mem_singleton.mp hb; exact ⟨I.fresh_b hC, I.fresh_x hC, hCz⟩)
      have L₃ := L₂.step p₃ fun b hb => by cases List.mem_singleton.mp hb; exact ⟨hCf₂, hCz⟩
      refine wpAny_pure (wpAny_pure (q .next _ Z' (setA α x D) ⟨(p.weak.trans p₂ (fun _ h => .inl h) (fun _ h => h.elim)).trans p₃ (fun b h => .inr (by cases List.mem_singleton.mp h; exact hC)) (fun _ h => h.elim), fun b f => (fo b f).imp id fun ⟨_, e⟩ => e ▸ hD, L₃⟩ trivial))
theorem inplace_list {a b : Addr} {Q : Value → Shared → Prop} {E' : Value → Shared → Prop} (ha : s.TypeIs (.ref a) "list") (hb : s.TypeIs (.ref b) "list") (hc : wpAny W.M A (call (.builtin "list.__iadd__") [.ref a, .ref b]) Q E' s) :
    wpAny W.M A (inplaceOp .Add (.ref a) (.ref b)) Q E' s := by
  unfold inplaceOp
  refine wpAny_holding ?_
  have hl := F.slot_list_iadd.lookup
  have hfi : fillsInplaceSlot (.type "list") "add" (Operator.Add == .Add) = pure false := by
    unfold fillsInplaceSlot
    show (typeLookup (.type "list") (dunderI "add") >>= fun fi => pure (fi.isSome && !isSeqSlot fi)) = pure false
    rw [hl]; rfl
  have hsi : seqSlot? (.type "list") (dunderI "add") = pure (some (.builtin "list.__iadd__")) := by
    unfold seqSlot?
    rw [hl]; rfl
  refine wpAny_bind (wpAny_typeOf ha (wpAny_bind (wpAny_of_eq hfi ?_)))
  show wpAny _ A (if false = true then _ else _) Q E' s
  rw [if_neg Bool.false_ne_true]
  refine wpAny_bind (wpAny_binaryOp1_none (nm := "add") ha hb noFill_list_add ?_)
  refine wpAny_bind (wpAny_of_eq hsi ?_)
  exact wpAny_bind (wpAny_rule hc)
theorem den_iadd {x : Str} {p pos : Pos} {e : Expr} {f : Slots → Option (List AV)} (h : DenO W d sc e f) (hk : Kd sc x) (hn : (x == ("__classdict__" : Str)) = false) :
    DenS W d sc (.AugAssign (.Name x p) .Add e pos) fun ρ => getO ρ x >>= fun l => f ρ >>= fun r => if l.items.length + r.length ≤ 1000000 then some (.next, ρ.set x (.own ⟨l.place, l.items ++ r⟩)) else none := by
  intro A env Z s ρ α fl ρ' R hE I L hf Q E' q
  obtain ⟨l, hl, hf⟩ := bindO hf
  obtain ⟨r, hr, hf⟩ := bindO hf
  obtain ⟨hz, hf⟩ := iteO hf
  · skip
    cases hf
    have hx := getO_eq hl
    refine wpAny_AugAssign_Name (L.load hE hx (fun va ra => h A env Z s ρ α r R hE I L hr _ _ fun b ws s₁ Z₁ p₁ hnb hzb hpb rb => ?_) hn)
    obtain ⟨rfl, its, ⟨n, hp⟩, rs⟩ := ra
    obtain ⟨n₂, hpb⟩ := hpb
    have hp₁ := p₁.keep _ _ (fun h => h) hp
    have rs₁ := p₁.reps0 rs
    have L₁ := L.step0 p₁
    refine inplace_list ⟨_, hp₁, rfl⟩ ⟨_, hpb, rfl⟩ ?_
    have l1 := rs₁.length
    have l2 := rb.length
    refine call_meets F.slot_list_iadd ⟨_, hp₁, rfl⟩ F.entry_list_iadd (F.args_list_iadd_2 _ _) (AutoSeq1.list___iadd___list_list_0 (α x) its.toArray n b ws.toArray n₂ ?_ ?_ ?_) ⟨hp₁, hpb, ?_⟩
    · simp only [List.size_toArray, Builtin.List.listTooLong]
      simp; intro _; unfold sizeLine; (first | lia | omega)
    · simp only [List.size_toArray, sizeLine]; (first | lia | omega)
    · simp only [List.size_toArray, sizeLine]; (first | lia | omega)
    · have up := upd_plain hp₁ (fun y => y ++ ws.toArray)
      have fs := L₁.upd (tk := s₁.toks) (vs' := its ++ ws) p₁.inv hx (Heap.SameBut.update ..) (by simpa using up) (rs₁.append rb)
      have hxx : (ρ.set x (.own ⟨l.place, l.items ++ r⟩)) x = some (.own ⟨l.place, l.items ++ r⟩) := by unfold Slots.set; rw [if_pos rfl]
      obtain ⟨m, ns, hv⟩ := fs.loc.ns
      obtain ⟨v, _, sr⟩ := hv x _ hxx
      have fo' := fs.loc.nz (α x) (.inr (.inr ⟨x, _, hxx, rfl⟩))
      have fb' := fs.loc.nb (α x) (.inr (.inr ⟨x, _, hxx, rfl⟩))
      have sr' : SRep Z₁ _ (α x) (.ref (α x)) (.own ⟨l.place, l.items ++ r⟩) := ⟨rfl, sr.2⟩
      refine fs.loc.store (sv := .own ⟨l.place, l.items ++ r⟩) (a := α x) fs.step.inv hE hk sr' (fun l₀ e₀ => ⟨fo', fb'.1, fb'.2, fun b hb => by cases e₀; exact L.fix x l b hx hb, fun y l' hy hyy e => hy (fs.loc.inj y x _ _ hyy hxx e)⟩) fun s₂ p₂ fo L₂ => ?_
      have es : (ρ.set x (.own ⟨l.place, l.items ++ r⟩)).set x (.own ⟨l.place, l.items ++ r⟩) = ρ.set x (.own ⟨l.place, l.items ++ r⟩) := by
        funext y; unfold Slots.set; split <;> rfl
      have ea : setA α x (α x) = α := by funext y; unfold setA; split <;> simp_all
      rw [es, ea] at L₂ fo
      exact q .next s₂ Z₁ α (((FStep.pure L p₁).trans fs).trans ⟨p₂, fun b f => .inl ((fo b f).elim id fun ⟨_, e⟩ => e ▸ .inr (.inr ⟨x, _, hxx, rfl⟩)), L₂⟩) trivial
end
end Mine
end
section
set_option linter.unusedVariables false
namespace Mine
section
variable {W : Wd} {Z Z' Z₁ : AddrSet} {s s' s₁ : Shared} {env : Env} {sc : Scope} {ρ ρ' : Slots} {α α' : Str → Addr} {A : Around} {d : Nat}
structure FnK (W : Wd) (f : Addr) (fd : FuncData) (body : List Stmt) : Prop where
  look : ∃ o, W.K.lookup f = some o ∧ o.data = .func fd
  body : fd.body = .stmts body
  code : codeIn W.K fd.code fd.qualname = true
  globals : fd.globals = mainGlobals
  builtins : fd.builtins = builtinsNs
  closure : fd.closure = []
  nocell : ∀ x ∈ fd.scope.names, x.2 ≠ .cell
  nofree : ∀ x, fd.scope.names.lookup x ≠ some .free
  kind : fd.scope.kind = .function
  co : fd.scope.isCoroutine = false
  gen : fd.scope.isGenerator = false
def retA : AFlow → AV
  | .ret a => a
  | _ => .none
theorem lookup_in {β : Type} {l : List (Str × β)} {x : Str} {v : β} (h : l.lookup x = some v) : (x, v) ∈ l := by
  induction l with
  | nil => cases h
  | cons p r ih =>
    obtain ⟨k, w⟩ := p
    rw [List.lookup_cons] at h
    split at h
    · rename_i e; cases h
      have := eq_of_beq e
      subst this; exact List.mem_cons_self
    · exact List.mem_cons_of_mem _ (ih h)
theorem call_enter {f : Addr} {fd : FuncData} {body : List Stmt} {vals : List Value} {binds : List (Str × Value)} (k : FnK W f fd body) (R : Room A (d + 1)) (I : Inv W Z s) (hb : BindsTo s fd ⟨vals, []⟩ binds) (hl : ∀ x ∈ binds, fd.scope.names.lookup x.1 = some .local)
    (hρ : ∀ x sv, ρ x = some sv → ∃ v, binds.reverse.lookup x = some v ∧ SRep Z s.heap (α x) v sv)
    (ho : ∀ x l, ρ x = some (.own l) → ¬ Z (α x) ∧ W.h₀.get? (α x) = none ∧ ¬ W.X (α x) ∧ ∀ b, l.place = some b → α x = b)
    (hi : ∀ x y l l', ρ x = some (.own l) → ρ y = some (.own l') → α x = α y → x = y)
    {F : Slots → Option (AFlow × Slots)} (hF : DenSs W d fd.scope body F) {fl : AFlow} (hf : F ρ = some (fl, ρ')) {Q : Value → Shared → Prop} {E' : Value → Shared → Prop}
    (q : ∀ v s' Z' α' env, Step W (.addrs fun a => ∃ x l, ρ x = some (.own l) ∧ α x = a) Z s Z' s' → RepV Z' s'.heap v (retA fl) → Loc W Z' s'.heap env ρ' α' → Q v s') : wpAny W.M A (call (.ref f) vals) Q E' s := by
  obtain ⟨o, hk, hd⟩ := k.look
  refine wpAny_call (codeAny_call_def R.lt (I.kin _ _ hk) hd I.nolimit (codeRec_of I.kin k.code) k.body hb k.nocell hl (fun h₁ hns hk₁ => ?_) k.co k.gen k.kind)
  have hN : s.heap.get? s.heap.objs.size = none := push_none _
  have p₁ : Step W .none Z s Z { s with heap := h₁, toks := s.toks + binds.length } := .grow I hk₁
  have hE : EnvOk (callEnv fd s.heap.objs.size f) fd.scope := ⟨rfl, k.globals, k.builtins, k.kind, fun x hx => by
    rcases hx with h | h
    · exact (k.nocell _ (lookup_in h) rfl).elim
    · exact (k.nofree _ h).elim⟩
  have fo : ∀ a, FOwn (callEnv fd s.heap.objs.size f) ρ α a → a = s.heap.objs.size ∨ ∃ x l, ρ x = some (.own l) ∧ α x = a := by
    rintro a (h | ⟨x, _, hx⟩ | h)
    · exact .inl h
    · change fd.closure.lookup x = some a at hx; rw [k.closure] at hx; cases hx
    · exact .inr h
  have L : Loc W Z h₁ (callEnv fd s.heap.objs.size f) ρ α := by
    refine ⟨⟨_, hns, fun x sv hx => ?_⟩, fun a f z => ?_, fun a f => ?_, fun x l b hx hb => (ho x l hx).2.2.2 b hb, hi, fun x c hc => ?_, fun x y c hc => ?_, fun c hc => ?_⟩
    · obtain ⟨v, hv, r⟩ := hρ x sv hx
      refine ⟨v, .inl ⟨hl _ (List.mem_reverse.mp (lookup_in hv)), hv⟩, ?_⟩
      cases sv with
      | val av => exact RepV.mono (fun _ z => z) (fun a o _ e => hk₁ a o e) r
      | own l => obtain ⟨e, vs, ⟨n, hn⟩, rs⟩ := r; exact ⟨e, vs, ⟨n, hk₁ _ _ hn⟩, rs.mono (fun _ z => z) fun a o _ e => hk₁ a o e⟩
    · rcases fo a f with rfl | ⟨x, l, hx, rfl⟩
      · exact I.fresh_z hN z
      · exact (ho x l hx).1 z
    · rcases fo a f with rfl | ⟨x, l, hx, rfl⟩
      · exact ⟨I.fresh_b hN, I.fresh_x hN⟩
      · exact ⟨(ho x l hx).2.1, (ho x l hx).2.2.1⟩
    · change fd.closure.lookup x = some c at hc; rw [k.closure] at hc; cases hc
    · change fd.closure.lookup x = some c at hc; rw [k.closure] at hc; cases hc
    · change fd.closure.lookup frz = some c at hc; rw [k.closure] at hc; cases hc
  refine hF _ _ Z _ ρ α fl ρ' (R.deeper _) hE p₁.inv L hf _ _ fun g s₂ Z₂ α₂ p₂ r₂ => ?_
  have p : Step W (.addrs fun a => ∃ x l, ρ x = some (.own l) ∧ α x = a) Z s Z₂ s₂ := p₁.weak.trans p₂.step (fun a h => (fo a h).elim (fun e => .inr (e ▸ hN)) .inl) (fun _ h => h.elim)
  refine q _ s₂ Z₂ α₂ _ p ?_ p₂.loc
  cases fl <;> cases g <;> first | exact r₂.elim | exact .none | exact r₂
def bindA (names : List Str) (args : List AV) : Slots := fun x => ((names.zip args).reverse.lookup x).map .val
theorem lookup_none_of {β : Type} {x : Str} {m : List (Str × β)} (h : ∀ c, (x, c) ∉ m) : m.lookup x = none := by
  cases e : m.lookup x with
  | none => rfl
  | some c => exact (h c (lookup_in e)).elim
theorem zip_look {h : Heap} {vals : List Value} {args : List AV} (r : RepVs Z h vals args) (names : List Str) (x : Str) : (∀ a, (names.zip args).reverse.lookup x = some a → ∃ v, (names.zip vals).reverse.lookup x = some v ∧ RepV Z h v a) ∧ ((names.zip args).reverse.lookup x = none → (names.zip vals).reverse.lookup x = none) := by
  induction args generalizing vals names with
  | nil => rw [List.zip_nil_right]; rw [r.nil', List.zip_nil_right]; exact ⟨fun a h => by (cases h), fun _ => rfl⟩
  | cons b l ih =>
    obtain ⟨v, vs, rfl, r1, r2⟩ := r.cons'
    cases names with
    | nil => exact ⟨fun a h => by (cases h), fun _ => rfl⟩
    | cons n names =>
      obtain ⟨ih1, ih2⟩ := ih r2 names
      rw [List.zip_cons_cons, List.zip_cons_cons, List.reverse_cons, List.reverse_cons, List.lookup_append, List.lookup_append]
      cases e : (names.zip l).reverse.lookup x with
      | some c =>
        obtain ⟨w, hw, rw'⟩ := ih1 c e
        rw [hw]
        exact ⟨fun a h => ⟨w, rfl, Option.some.inj h ▸ rw'⟩, fun h => by (cases h)⟩
      | none =>
        rw [ih2 e, Option.none_or, Option.none_or, List.lookup_cons, List.lookup_cons]
        cases (x == n) with
        | true => exact ⟨fun a h => ⟨v, rfl, Option.some.inj h ▸ r1⟩, fun h => by (cases h)⟩
        | false => exact ⟨fun a h => by (cases h), fun _ => rfl⟩
theorem fspec_of {f : Addr} {fd : FuncData} {body : List Stmt} {names : List Str} {F : Slots → Option (AFlow × Slots)} (k : FnK W f fd body) (hb : ∀ s (vals : List Value), vals.length = names.length → BindsTo s fd ⟨vals, []⟩ (names.zip vals)) (hl : ∀ x ∈ names, fd.scope.names.lookup x = some .local)
    (hF : DenSs W d fd.scope body F) : FSpec W (d + 1) (.ref f) fun args => if args.length = names.length then (F (bindA names args)).map fun r => retA r.1 else none := by
  intro A Z s vals args av R I r hf Q E' q
  simp only at hf
  obtain ⟨hlen, hf⟩ := iteO hf
  · skip
    obtain ⟨⟨fl, ρ'⟩, hF', rfl⟩ := Option.map_eq_some_iff.mp hf
    have no : ∀ x l, bindA names args x ≠ some (.own l) := fun x l h => by
      obtain ⟨a, _, e⟩ := Option.map_eq_some_iff.mp h; cases e
    refine call_enter (α := fun _ => 0) k R I (hb s vals (r.length.trans hlen)) (fun x hx => hl _ (List.of_mem_zip (show (x.1, x.2) ∈ _ from hx)).1) (fun x sv hx => ?_) (fun x l hx => (no x l hx).elim) (fun x y l l' hx => (no x l hx).elim) hF hF' fun v s' Z' α' env p rv _ => q v s' Z' (p.mono (fun a ⟨x, l, hx, _⟩ => (no x l hx).elim) fun _ h => h.elim) rv
    obtain ⟨a, ha, rfl⟩ := Option.map_eq_some_iff.mp hx
    exact (zip_look r names x).1 a ha
end
end Mine
end
section
set_option linter.unusedVariables false
namespace Mine
section
variable {W : Wd} {Z Z' Z₁ : AddrSet} {s s' s₁ : Shared} {env : Env} {sc : Scope} {ρ ρ' : Slots} {α α' : Str → Addr} {A : Around} {d : Nat}
theorem RepEs.nil' {h : Heap} {es : List DictEntry} (r : RepEs Z h es []) : es = [] := by cases r; rfl
theorem RepEs.cons' {h : Heap} {es : List DictEntry} {x : Str} {a : AV} {fs : List (Str × AV)} (r : RepEs Z h es ((x, a) :: fs)) : ∃ hs t v es', es = ⟨hs, .str x t, v⟩ :: es' ∧ RepV Z h v a ∧ RepEs Z h es' fs := by cases r with | cons r rs => exact ⟨_, _, _, _, rfl, r, rs⟩
theorem isStr_eq (x name : Str) (t : Tok) : (Value.str x t).isStr name = (name == x) := by
  show (x == name) = (name == x)
  rw [Bool.eq_iff_iff, beq_iff_eq, beq_iff_eq]; exact ⟨Eq.symm, Eq.symm⟩
theorem RepEs.find {h : Heap} {name : Str} {es : List DictEntry} {fs : List (Str × AV)} (r : RepEs Z h es fs) : (∀ a, fs.lookup name = some a → ∃ en, es.find? (·.key.isStr name) = some en ∧ RepV Z h en.val a) ∧ (fs.lookup name = none → es.find? (·.key.isStr name) = none) ∧ es.any (·.refKey) = false := by
  induction fs generalizing es with
  | nil => rw [r.nil']; exact ⟨fun a h => by (cases h), fun _ => rfl, rfl⟩
  | cons p fs ih =>
    obtain ⟨x, b⟩ := p
    obtain ⟨hs, t, v, es', rfl, r1, rs⟩ := r.cons'
    obtain ⟨i1, i2, i3⟩ := ih rs
    rw [List.lookup_cons, List.find?_cons, List.any_cons, i3]
    show (∀ a, _ → ∃ en, (match (Value.str x t).isStr name with | true => _ | false => _) = some en ∧ _) ∧ (_ → (match (Value.str x t).isStr name with | true => _ | false => _) = none) ∧ _
    rw [isStr_eq]
    cases (name == x) with
    | true => exact ⟨fun a h => ⟨_, rfl, Option.some.inj h ▸ r1⟩, fun h => by (cases h), rfl⟩
    | false => exact ⟨i1, i2, rfl⟩
theorem RepEs.get {h : Heap} {name : Str} {es : List DictEntry} {fs : List (Str × AV)} {a : AV} (r : RepEs Z h es fs) (e : fs.lookup name = some a) : ∃ v, PySem.W.getL name es = some (some v) ∧ RepV Z h v a := by
  obtain ⟨en, h1, h2⟩ := r.find.1 a e
  exact ⟨en.val, by unfold PySem.W.getL; rw [h1], h2⟩
theorem RepEs.noref {h : Heap} {es : List DictEntry} {fs : List (Str × AV)} (r : RepEs Z h es fs) : es.any (·.refKey) = false := (r.find (name := "")).2.2
theorem RepEs.lacks {h : Heap} {name : Str} {es : List DictEntry} {fs : List (Str × AV)} (r : RepEs Z h es fs) (e : fs.lookup name = none) : es.find? (·.key.isStr name) = none := r.find.2.1 e
theorem RepEs.no {h : Heap} {name : Str} {es : List DictEntry} {fs : List (Str × AV)} (r : RepEs Z h es fs) (hn : fs.lookup name = none) : PySem.W.getL name es = some none := by
  unfold PySem.W.getL; rw [r.lacks hn, r.noref]; rfl
def plainV : AV → Bool
  | .raw _ => false
  | _ => true
theorem handed {h : Heap} {v : Value} {a : AV} (r : RepV Z h v a) (hp : plainV a = true) : handedIn v = true := by
  cases r <;> first | rfl | cases hp
def attrA (C : Addr) (name : Str) : AV → Option AV
  | .inst c fs => if c = C then (match fs.lookup name with | some a => if plainV a = true then some a else none | none => none) else none
  | _ => none
theorem den_attr {x name : Str} {p pos : Pos} {C : Addr} (hg : plainGet W.K C name = true) (hh : hasDictIn W.K C = true) (ha : findIn W.K (.ref C) name = some none) (h1 : (x == ("__debug__" : Str)) = false) (hn : (x == ("__classdict__" : Str)) = false) :
    DenP W d sc (.Attribute (.Name x p) name pos) fun ρ => getV ρ x >>= attrA C name := by
  intro A env Z s ρ α av R hE I L hf Q E' q
  replace ⟨a, hx, hf⟩ := bindO hf
  unfold attrA at hf
  split at hf
  · split at hf
    · rename_i c fs hc
      subst hc
      split at hf
      · rename_i a ha'
        replace ⟨hp, hf⟩ := iteO hf
        · cases hf
          refine Attribute_name (wpAny_Name (L.load hE (getV_eq hx) (fun v r => ?_) hn) h1)
          have r' : RepV Z s.heap v (.inst c fs) := r
          cases r' with | inst z1 z2 o1 o2 rs =>
          rename_i x' dx es n
          obtain ⟨w, hw, rw'⟩ := rs.get ha'
          exact get_value I.kin (od := some (dictOf es n)) ⟨o1, rfl, rfl, o2⟩ (plainGet_of hg).1 (findObj_own hh ha rfl hw) (handed rw' hp) (q _ _ Z (.toks I _) rw')
      · cases hf
    · cases hf
  · cases hf
end
end Mine
end
section
set_option linter.unusedVariables false
namespace Mine
section
variable {W : Wd} {Z Z' Z₁ : AddrSet} {s s' s₁ : Shared} {env : Env} {sc : Scope} {ρ ρ' : Slots} {α α' : Str → Addr} {A : Around} {d : Nat}
structure InitSt where
  attr : Str
  par : Str
  p1 : Pos
  p2 : Pos
  p3 : Pos
  p4 : Pos
def InitSt.stmt (st : InitSt) : Stmt := .Assign [.Attribute (.Name "self" st.p1) st.attr st.p2] (.Name st.par st.p3) st.p4
def initA (g : Str → Option AV) : List InitSt → List (Str × AV) → Option (List (Str × AV))
  | [], fs => some fs
  | st :: r, fs => match g st.par, fs.lookup st.attr with
    | some a, none => initA g r (fs ++ [(st.attr, a)])
    | _, _ => none
theorem putL_new {name : Str} {hsh : Int} {key v : Value} : ∀ {es : List DictEntry}, es.find? (·.key.isStr name) = none → putL name hsh key v es = es ++ [⟨hsh, key, v⟩]
  | [], _ => rfl
  | e :: r, h => by
    rw [List.find?_cons] at h
    unfold putL
    cases c : e.key.isStr name with
    | true => rw [c] at h; cases h
    | false => rw [c] at h; simp only at h; rw [if_neg (by decide), putL_new h]; rfl
theorem RepEs.snoc {h : Heap} {hs : Int} {x : Str} {t : Tok} {v : Value} {a : AV} {es : List DictEntry} {fs : List (Str × AV)} (r : RepEs Z h es fs) (q : RepV Z h v a) : RepEs Z h (es ++ [⟨hs, .str x t, v⟩]) (fs ++ [(x, a)]) := by
  induction fs generalizing es with
  | nil => rw [r.nil']; exact .cons q .nil
  | cons p fs ih => obtain ⟨y, b⟩ := p; obtain ⟨hs, t, v, es', rfl, r1, rs⟩ := r.cons'; exact .cons r1 (ih rs)
theorem RepEs.length {h : Heap} {es : List DictEntry} {fs : List (Str × AV)} (r : RepEs Z h es fs) : es.length = fs.length := by
  induction fs generalizing es with
  | nil => rw [r.nil']; rfl
  | cons p fs ih => obtain ⟨y, b⟩ := p; obtain ⟨hs, t, v, es', rfl, r1, rs⟩ := r.cons'; exact congrArg (· + 1) (ih rs)
structure ClsK (W : Wd) (C fI : Addr) : Prop where
  makes : makesIn W.K C = true
  init : findIn W.K (.ref C) "__init__" = some (some (.ref fI))
  fn : typeIn W.K (.ref fI) = some (.type "function")
  setattr : findIn W.K (.ref C) "__setattr__" = some (some (.builtin "object.__setattr__"))
  over : plainOver W.K C = true
  dict : hasDictIn W.K C = true
  get : plainGet W.K C "" = true
theorem init_run {C fI x dx L : Addr} {h₀ : Heap} {m : Str → Option Value} (k : ClsK W C fI) (X₀ : W.K.In h₀) (hL : env.locals = L) (hfn : env.scope.kind = .function) (hself : env.kindOf "self" = some .local) (hms : m "self" = some (.ref x)) {g : Str → Option AV}
    (hg : ∀ par a, g par = some a → ∃ v, m par = some v ∧ RepV Z h₀ v a) {Q : Flow → Shared → Prop} {E' : Value → Shared → Prop} (hne : x ≠ dx) {fs' : List (Str × AV)} :
    ∀ (l : List InitSt) (es : List DictEntry) (n : Nat) (fs : List (Str × AV)) (s : Shared), (∀ st ∈ l, env.kindOf st.par = some .local ∧ (st.par == ("__debug__" : Str)) = false ∧ takerIn W.K C st.attr = some none) → Fr h₀ L s.heap m → News h₀ L s.heap [(x, instObj C dx), (dx, dictOf es n)] → RepEs Z h₀ es fs → es.length + l.length ≤ 900 → initA g l fs = some fs' →
      (∀ h' tk es' n', Fr h₀ L h' m → News h₀ L h' [(x, instObj C dx), (dx, dictOf es' n')] → RepEs Z h₀ es' fs' → Q .next { s with heap := h', toks := tk }) → wpAny W.M A (execs (l.map InitSt.stmt) env) Q E' s
  | [], es, n, fs, s, _, F, N, re, _, hi, q => by
    cases hi
    exact wpAny_execs_nil (q s.heap s.toks es n F N re)
  | st :: r, es, n, fs, s, hl, F, N, re, hz, hi, q => by
    unfold initA at hi
    split at hi
    · rename_i a ha hno
      obtain ⟨v, hv, rv⟩ := hg _ _ ha
      obtain ⟨k1, k2, k3⟩ := hl st List.mem_cons_self
      refine wpAny_execs_cons ?_
      refine plainObj_wpAny_Assign_Attribute (wpAny_Name (wpAny_loadName_local hfn k1 (hL ▸ F.ns) hv (wpAny_Name (wpAny_loadName_local hfn hself (hL ▸ F.ns) hms ?_) (by decide))) k2) rfl
      have hfind := re.lacks hno
      have hgl := re.no hno
      refine set_dict (K := W.K) (es' := es ++ [⟨PyData.keyHash W.w.params st.attr, .str st.attr (s.toks + 1), v⟩]) (n' := putN st.attr es n) F X₀ N (InstAt.of_news N List.mem_cons_self (List.mem_cons_of_mem _ List.mem_cons_self)) rfl k.setattr k.over k3 k.dict (by rw [hgl]; rfl) (by rw [putL_new hfind]) (.tail hne (.head fun p hp => by cases hp)) (by simp at hz ⊢; (first | lia | omega)) fun h' F' N' => ?_
      exact init_run k X₀ hL hfn hself hms hg hne r _ _ (fs ++ [(st.attr, a)]) _ (fun st hst => hl st (List.mem_cons_of_mem _ hst)) F' N' (re.snoc rv) (by simp at hz ⊢; (first | lia | omega)) hi fun h' tk es' n' F'' N'' re' => q h' tk es' n' F'' N'' re'
    · cases hi
theorem ctor_spec {C fI : Addr} {fd : FuncData} {names : List Str} {l : List InitSt} {bd : List AV → Option (List AV)} (k : ClsK W C fI) (kf : FnK W fI fd (l.map InitSt.stmt))
    (hb : ∀ (Z : AddrSet) (h : Heap) (x : Value) (vals : List Value) (args full : List AV), RepVs Z h vals args → bd args = some full → ∃ fvals, (∀ s : Shared, W.K.In s.heap → BindsTo s fd ⟨x :: vals, []⟩ (("self", x) :: names.zip fvals)) ∧ RepVs Z h fvals full)
    (hl : ∀ x ∈ ("self" : Str) :: names, fd.scope.names.lookup x = some .local) (hns : ("self" : Str) ∉ names) (hst : ∀ st ∈ l, st.par ∈ names ∧ (st.par == ("__debug__" : Str)) = false ∧ takerIn W.K C st.attr = some none) (hlen : l.length ≤ 900) :
    FSpec W (d + 1) (.ref C) fun args => bd args >>= fun full => (initA (fun p => (names.zip full).reverse.lookup p) l []).map (.inst C) := by
  intro A Z s vals args av R I r hf Q E' q
  obtain ⟨full, hfull, hf⟩ := bindO hf
  obtain ⟨fs, hfs, rfl⟩ := Option.map_eq_some_iff.mp hf
  refine wpAny_with_toks (Nat.le_refl _) (wpAny_call ?_)
  have X := I.kin
  obtain ⟨hh, g, dr, t, os⟩ := s
  refine make_core (makes_of X k.makes) (looks_findIn X k.init) (fun self => bind_fn X self k.fn) (.inl rfl) ?_
  have k1 : ∀ b o, hh.get? b = some o → ((hh.push emptyDict).push (instObj C hh.objs.size)).get? b = some o := fun b o e => Heap.get?_push_of_some _ (Heap.get?_push_of_some _ e)
  have hx : ((hh.push emptyDict).push (instObj C hh.objs.size)).get? (hh.objs.size + 1) = some (instObj C hh.objs.size) := by heap_get
  have hdx : ((hh.push emptyDict).push (instObj C hh.objs.size)).get? hh.objs.size = some (dictOf [] 0) := by heap_get
  have p₁ : Step W .none Z ⟨hh, g, dr, t, os⟩ Z ⟨(hh.push emptyDict).push (instObj C hh.objs.size), g, dr, t, os⟩ := .grow (tk := t) I k1
  obtain ⟨fvals, hbind, rf⟩ := hb Z hh (.ref (hh.objs.size + 1)) vals args full r hfull
  obtain ⟨o, ho, hd⟩ := kf.look
  have hw : (Code.builtin "type.__call__" ⟨.ref C :: vals, []⟩).weight = 1 := rfl
  have hroom : (A.under (.builtin "type.__call__" ⟨.ref C :: vals, []⟩)).depth < recursionLimit := by
    show A.depth + (Code.builtin "type.__call__" ⟨.ref C :: vals, []⟩).weight < recursionLimit
    rw [hw]
    have := R.depth; (first | lia | omega)
  refine codeAny_call_def hroom (p₁.inv.kin _ _ ho) hd p₁.inv.nolimit (codeRec_of p₁.inv.kin kf.code) kf.body (hbind _ p₁.inv.kin) kf.nocell (fun y hy => hl _ ?_) (fun h₁ hns₁ hk₁ => ?_) kf.co kf.gen kf.kind
  · rcases List.mem_cons.mp hy with rfl | hy
    · exact List.mem_cons_self
    · exact List.mem_cons_of_mem _ (List.of_mem_zip (show (y.1, y.2) ∈ _ from hy)).1
  · have hself : ((("self" : Str), Value.ref (hh.objs.size + 1)) :: names.zip fvals).reverse.lookup ("self" : Str) = some (Value.ref (hh.objs.size + 1)) := by
      rw [List.reverse_cons, List.lookup_append, lookup_none_of (m := (names.zip fvals).reverse) fun c hc => hns (List.of_mem_zip (List.mem_reverse.mp hc)).1]; simp
    have hnx : hh.get? (hh.objs.size + 1) = none := by
      cases e : hh.get? (hh.objs.size + 1) with
      | none => rfl
      | some o =>
        have h9 : hh.objs.size + 1 < hh.objs.size := Heap.lt_size e
        (first | lia | omega)
    have hsz : ((hh.push emptyDict).push (instObj C hh.objs.size)).objs.size = hh.objs.size + 2 := by rw [Heap.size_push, Heap.size_push]
    have F₁ : Fr hh ((hh.push emptyDict).push (instObj C hh.objs.size)).objs.size h₁ (fun y => ((("self" : Str), Value.ref (hh.objs.size + 1)) :: names.zip fvals).reverse.lookup y) := ⟨hns₁, fun b o e => hk₁ b o (k1 b o e), by rw [hsz]; exact Nat.le_add_right _ 2⟩
    refine init_run (env := callEnv fd ((hh.push emptyDict).push (instObj C hh.objs.size)).objs.size fI) (h₀ := hh) (x := hh.objs.size + 1) (dx := hh.objs.size) k X rfl kf.kind (hl _ List.mem_cons_self) hself (g := fun p => (names.zip full).reverse.lookup p) (Z := Z) (fun par a ha => ?_) (Nat.ne_of_gt (Nat.lt_succ_self hh.objs.size)) l [] 0 [] _ (fun st hs => ?_) F₁ (fun p hp => ?_) .nil (by simpa using hlen) hfs fun h' tk es' n' F' N' re' => ?_
    · obtain ⟨v, hv, rv⟩ := (zip_look rf names par).1 a ha
      refine ⟨v, ?_, rv⟩
      · show List.lookup par (((("self" : Str), Value.ref (hh.objs.size + 1)) :: names.zip fvals).reverse) = some v
        rw [List.reverse_cons, List.lookup_append, hv]; rfl
    · obtain ⟨a, b, c⟩ := hst st hs
      exact ⟨hl _ (List.mem_cons_of_mem _ a), b, c⟩
    · rcases List.mem_cons.mp hp with rfl | hp
      · exact ⟨hk₁ _ _ hx, by rw [hsz]; show hh.objs.size + 1 ≠ hh.objs.size + 2; (first | lia | omega), hnx⟩
      · cases List.mem_singleton.mp hp
        exact ⟨hk₁ _ _ hdx, by rw [hsz]; show hh.objs.size ≠ hh.objs.size + 2; (first | lia | omega), push_none _⟩
    · refine ⟨rfl, ?_⟩
      have hx' := (N' _ List.mem_cons_self).1
      have hdx' := (N' _ (List.mem_cons_of_mem _ List.mem_cons_self)).1
      have hk := F'.keep
      refine fun htk => q _ _ (fun b => Z b ∨ b = hh.objs.size ∨ b = hh.objs.size + 1) ⟨⟨I.ok, fun b o e x => hk _ _ (I.base b o e x), fun b x => let ⟨o, e⟩ := I.xs b x; ⟨o, hk _ _ e⟩, fun b z => ?_, I.os, I.bare, fun b z => by
        rcases z with z | e | e
        · exact I.zx b z
        · exact e ▸ I.fresh_x (Heap.get?_none_of_le (Nat.le_refl _))
        · exact e ▸ I.fresh_x (Heap.get?_none_of_le (Nat.le_succ _)), fun b h => .inl (I.z0 b h), Nat.le_trans I.tk htk⟩, fun b o _ e => hk b o e, fun _ z => .inl z, fun b z => ?_, fun _ _ _ e => e⟩ (.inst (.inr (.inr rfl)) (.inr (.inl rfl)) hx' hdx' (re'.mono (fun _ z => .inl z) fun b o _ e => hk b o e))
      · rcases z with z | rfl | rfl
        · obtain ⟨o, e⟩ := I.zin b z; exact ⟨o, hk _ _ e⟩
        · exact ⟨_, hdx'⟩
        · exact ⟨_, hx'⟩
      · rcases z with z | rfl | rfl
        · exact .inl z
        · exact .inr (.inr (push_none _))
        · exact .inr (.inr hnx)
end
end Mine
end
section
set_option linter.unusedVariables false
namespace Mine
section
variable {W : Wd} {Z Z' Z₁ : AddrSet} {s s' s₁ : Shared} {env : Env} {sc : Scope} {ρ ρ' : Slots} {α α' : Str → Addr} {A : Around} {d : Nat}
def cutO (o : AV) (i j : Option Int) : Option (List AV) := match o with | .lst l => if l.length ≤ 1000000 then some (cutL l i j) else none | _ => none
theorem deno_cuto {value : Expr} {lo hi : Option Expr} {p pos : Pos} {f : Slots → Option AV} {g h : Slots → Option (Option Int)} (hv : DenP W d sc value f) (hl : DenPart W d sc lo g) (hh : DenPart W d sc hi h) :
    DenO W d sc (.Subscript value (.Slice lo hi none p) pos) fun ρ => f ρ >>= fun o => g ρ >>= fun i => h ρ >>= fun j => cutO o i j := deno_cut hv hl hh
def noneX (r : AV × Slots) : Option (AFlow × Slots) := match r.1 with | .none => some (.next, r.2) | _ => none
def frees (scope : Scope) : List Str := scope.names.filterMap fun x => if x.2 == .free then some x.1 else none
def only (xs : List Str) (ρ : Slots) : Slots := fun x => if xs.contains x then ρ x else none
def compOk (scope sc : Scope) : Bool := (scope.kind == .function) && (scope.names.all fun x => x.2 != .cell) && (scope.names.all fun x => x.2 != .local || scope.names.lookup x.1 == some .local) &&
  (scope.names.all fun x => x.2 != .free || (scope.names.lookup x.1 == some .free && (sc.names.lookup x.1 == some .cell || sc.names.lookup x.1 == some .free)))
theorem compScope {scope sc : Scope} (h : compOk scope sc = true) : CompScope scope sc := by
  unfold compOk at h
  simp only [Bool.and_eq_true, List.all_eq_true, Bool.or_eq_true, bne_iff_ne, beq_iff_eq] at h
  obtain ⟨⟨⟨h1, h2⟩, h3⟩, h4⟩ := h
  refine ⟨h1, h2, fun x hx e => (h3 x hx).resolve_left (fun n => n e), fun x hx e => (h4 x hx).resolve_left (fun n => n e)⟩
theorem capt_only {scope : Scope} (hs : CompScope scope sc) (ρ : Slots) : capt scope ρ = only (frees scope) ρ := by
  funext x
  unfold capt only
  have : (scope.names.lookup x = some .free) ↔ (frees scope).contains x = true := by
    rw [List.contains_iff_mem]
    unfold frees
    rw [List.mem_filterMap]
    constructor
    · intro h; exact ⟨_, lookup_in h, rfl⟩
    · rintro ⟨⟨n, k⟩, hm, h⟩
      simp only at h
      split at h
      · rename_i hk
        cases h
        exact (hs.free _ hm (eq_of_beq hk)).1
      · cases h
  by_cases h : scope.names.lookup x = some .free
  · rw [if_pos h, if_pos (this.mp h)]
  · rw [if_neg h, if_neg (fun c => h (this.mpr c))]
theorem deno_compx {elt target iter : Expr} {ifs : List Expr} {scope : Scope} {pos : Pos} {g : Slots → Option (List AV)} {T : AV → Slots → Option Slots} {t : Slots → Option Bool} {f : Slots → Option AV} (xs : List Str) (hx : frees scope = xs) (hs : CompScope scope sc) (hi : DenIt W d sc target iter g)
    (htg : DenTgC W d (relabelS scope sc) target T) (hif : DenIfs W d (relabelS scope sc) ifs t) (helt : DenP W d (relabelS scope sc) elt f) (hset : ∀ env x, foldedSetIterable iter env x = pure x) :
    DenO W d sc (.ListComp elt [⟨target, iter, ifs, 0⟩] scope pos) fun ρ => g ρ >>= fun items => if items.length ≤ 1000000 then compA T t f items (only xs ρ) else none := by
  subst hx
  have := deno_comp (pos := pos) hs hi htg hif helt hset
  simp only [capt_only hs] at this
  exact this
theorem den_assign_compx {x : Str} {px spos : Pos} {elt target iter : Expr} {ifs : List Expr} {scope : Scope} {pos : Pos} {g : Slots → Option (List AV)} {T : AV → Slots → Option Slots} {t : Slots → Option Bool} {f : Slots → Option AV} (xs : List Str) (hx : frees scope = xs) (hs : CompScope scope sc) (hi : DenIt W d sc target iter g)
    (htg : DenTgC W d (relabelS scope sc) target T) (hif : DenIfs W d (relabelS scope sc) ifs t) (helt : DenP W d (relabelS scope sc) elt f) (hset : ∀ env x, foldedSetIterable iter env x = pure x)
    (hk : sc.names.lookup x = some .local) (hline : px.line = pos.line) (hany : (scope.names.any fun (n, k) => n == x && (k == .local || k == .cell)) = false) :
    DenS W d sc (.Assign [.Name x px] (.ListComp elt [⟨target, iter, ifs, 0⟩] scope pos) spos) fun ρ => g ρ >>= fun items => if items.length ≤ 1000000 then compA T t f items (only xs ρ) >>= fun l => some (.next, ρ.set x (.own ⟨none, l⟩)) else none := by
  subst hx
  have := den_assign_comp (spos := spos) hs hi htg hif helt hset hk hline hany
  simp only [capt_only hs] at this
  exact this
theorem kd_in {x : Str} {sc : Scope} (h : (sc.names.lookup x == some .local || (sc.names.lookup x == some .cell && x != frz)) = true) : Kd sc x := by
  rcases Bool.or_eq_true_iff.mp h with h | h
  · exact .inl (eq_of_beq h)
  · have := Bool.and_eq_true_iff.mp h
    exact .inr ⟨eq_of_beq this.1, bne_iff_ne.mp this.2⟩
theorem kinds_in {l : List Str} {sc : Scope} (h : (l.all fun x => (sc.names.lookup x == some .local || (sc.names.lookup x == some .cell && x != frz))) = true) (x : Str) (hx : x ∈ l) : Kd sc x := kd_in (List.all_eq_true.mp h x hx)
end
end Mine
end
section
set_option linter.unusedVariables false
namespace Mine
def stAt (p : Program) (i : Nat) : Stmt := p.main.body.getD i (.Pass ⟨0, 0, 0, 0⟩)
def bodyOf : Stmt → List Stmt
  | .FunctionDef _ _ b _ _ _ _ _ _ _ => b
  | .ClassDef _ _ _ b _ _ _ _ _ _ _ => b
  | _ => []
def scopeOf : Stmt → Scope
  | .FunctionDef _ _ _ _ _ _ s _ _ _ => s
  | _ => { kind := .function, names := [], isGenerator := false, isCoroutine := false }
def inBody (st : Stmt) (i : Nat) : Stmt := (bodyOf st).getD i (.Pass ⟨0, 0, 0, 0⟩)
def fdAt (K : Frag) (f : Addr) : Option FuncData := match K.lookup f with
  | some o => (match o.data with | .func fd => some fd | _ => none)
  | none => none
def fdK (K : Frag) (f : Addr) (h : (fdAt K f).isSome = true) : FuncData := (fdAt K f).get h
theorem fdAt_look {K : Frag} {f : Addr} (h : (fdAt K f).isSome = true) : ∃ o, K.lookup f = some o ∧ o.data = .func (fdK K f h) := by
  have e : fdAt K f = some (fdK K f h) := by unfold fdK; simp
  generalize fdK K f h = fd at e
  unfold fdAt at e
  split at e
  · rename_i o ho
    split at e
    · rename_i fd' hd; cases e; exact ⟨o, ho, hd⟩
    · cases e
  · cases e
def noCellB (sc : Scope) : Bool := sc.names.all fun x => x.2 != .cell && x.2 != .free
theorem fnk_of {W : Wd} {f : Addr} {body : List Stmt} (h : (fdAt W.K f).isSome = true) (hb : (fdK W.K f h).body = .stmts body) (hc : codeIn W.K (fdK W.K f h).code (fdK W.K f h).qualname = true) (hg : (fdK W.K f h).globals = mainGlobals) (hbl : (fdK W.K f h).builtins = builtinsNs)
    (hcl : (fdK W.K f h).closure = []) (hn : noCellB (fdK W.K f h).scope = true) (hk : (fdK W.K f h).scope.kind = .function) (hco : (fdK W.K f h).scope.isCoroutine = false) (hge : (fdK W.K f h).scope.isGenerator = false) : FnK W f (fdK W.K f h) body where
  look := fdAt_look h
  body := hb
  code := hc
  globals := hg
  builtins := hbl
  closure := hcl
  nocell x hx := by have := List.all_eq_true.mp hn x hx; simp at this; exact this.1
  nofree x hx := by have := List.all_eq_true.mp hn _ (lookup_in hx); simp at this
  kind := hk
  co := hco
  gen := hge
end Mine
end
section
set_option linter.unusedVariables false
namespace Mine
theorem reps_ints {Z : AddrSet} {h : Heap} : ∀ {vals : List Value} {ns : List Int}, IntsAre vals ns → RepVs Z h vals (ns.map .int)
  | [], [], _ => .nil
  | _ :: _, _ :: _, hi => by
    cases hi
    exact .cons (.int _ _) (reps_ints (by assumption))
def script0 (ns : List Int) : Slots := fun x => if x = "script" then some (.val (.lst (ns.map .int))) else none
end Mine
end
section
set_option linter.unusedVariables false
namespace Mine
section
variable {W : Wd} {Z Z' Z₁ : AddrSet} {s s' s₁ : Shared} {env : Env} {sc : Scope} {ρ ρ' : Slots} {α α' : Str → Addr} {A : Around} {d : Nat}
theorem look_snoc {x n : Str} {w : Value} (r : List (Str × Value)) : ((n, w) :: r).reverse.lookup x = (r.reverse.lookup x).or (if x = n then some w else none) := by
  rw [List.reverse_cons, List.lookup_append, List.lookup_cons, List.lookup_nil]
  by_cases e : x = n
  · rw [if_pos e, e, beq_self_eq_true]
  · rw [if_neg e, beq_eq_false_iff_ne.mpr e]
theorem bindL_look {k : Str → Option NameKind} {x : Str} (hk : k x = some .local) (binds : List (Str × Value)) (m : Str → Option Value) : bindL k binds m x = (binds.reverse.lookup x).or (m x) := by
  induction binds generalizing m with
  | nil => rfl
  | cons p r ih =>
    obtain ⟨n, w⟩ := p
    show bindL k r _ x = _
    rw [ih, look_snoc]
    cases r.reverse.lookup x with
    | some v => rfl
    | none =>
      by_cases e : x = n
      · rw [← e, if_pos hk]; simp
      · by_cases hn : k n = some .local
        · rw [if_pos hn]; simp [e]
        · rw [if_neg hn]; simp [e]
theorem bindC_look {k : Str → Option NameKind} {x : Str} (hk : k x ≠ some .local) (binds : List (Str × Value)) (m : Str → Option Value) : bindC k binds m x = (binds.reverse.lookup x).or (m x) := by
  induction binds generalizing m with
  | nil => rfl
  | cons p r ih =>
    obtain ⟨n, w⟩ := p
    show bindC k r _ x = _
    rw [ih, look_snoc]
    cases r.reverse.lookup x with
    | some v => rfl
    | none =>
      by_cases e : x = n
      · rw [← e, if_neg hk]; simp
      · by_cases hn : k n = some .local
        · rw [if_pos hn]; simp [e]
        · rw [if_neg hn]; simp [e]
theorem cells_acc {x : Str} : ∀ (names : List (Str × NameKind)) (n : Nat) (acc : List (Str × Addr)), ((acc.lookup x).isSome = true ∨ names.lookup x = some .cell) → ((cellsFrom n names acc).lookup x).isSome = true
  | [], n, acc, h => by
    rcases h with h | h
    · exact h
    · cases h
  | (y, k) :: r, n, acc, h => by
    unfold cellsFrom
    by_cases hk : (k == NameKind.cell) = true
    · rw [if_pos hk]
      refine cells_acc r (n + 1) _ ?_
      rw [List.lookup_cons]
      cases e : (x == y) with
      | true => exact .inl rfl
      | false =>
        rcases h with h | h
        · exact .inl h
        · rw [List.lookup_cons, e] at h; exact .inr h
    · rw [if_neg hk]
      refine cells_acc r n acc ?_
      rcases h with h | h
      · exact .inl h
      · rw [List.lookup_cons] at h
        cases e : (x == y) with
        | true => rw [e] at h; cases h; exact (hk rfl).elim
        | false => rw [e] at h; exact .inr h
structure FnC (W : Wd) (f : Addr) (fd : FuncData) (body : List Stmt) : Prop where
  look : ∃ o, W.K.lookup f = some o ∧ o.data = .func fd
  body : fd.body = .stmts body
  code : codeIn W.K fd.code fd.qualname = true
  globals : fd.globals = mainGlobals
  builtins : fd.builtins = builtinsNs
  closure : fd.closure = []
  nofree : ∀ x, fd.scope.names.lookup x ≠ some .free
  kind : fd.scope.kind = .function
  co : fd.scope.isCoroutine = false
  gen : fd.scope.isGenerator = false
theorem call_cells {prog : Program} {w : World} {R : Result → Shared → Prop} {a : Addr} {o : Obj} {fd : FuncData} {body : List Stmt} {vals : List Value} {binds : List (Str × Value)}
    (hroom : A.depth < recursionLimit) (ho : s.heap.get? a = some o) (hdata : o.data = .func fd) (hlim : s.heap.NoLimit) (hcd : s.heap.CodeRec fd.code fd.qualname) (hbody : fd.body = .stmts body) (hbind : bindArgs fd ⟨vals, []⟩ = pure binds) (hclo : fd.closure = [])
    (hkind : ∀ x ∈ binds, fd.scope.names.lookup x.1 = some .local ∨ (fd.scope.names.lookup x.1 = some .cell ∧ ((cellsFrom (s.heap.objs.size + 1) fd.scope.names []).lookup x.1).isSome = true))
    (h : ∀ s₁, s.toks ≤ s₁.toks → InCallC s (callEnvC fd s.heap.objs.size a).locals (bindL (callEnvC fd s.heap.objs.size a).kindOf binds fun _ => none) (callEnvC fd s.heap.objs.size a).cells (bindC (callEnvC fd s.heap.objs.size a).kindOf binds fun _ => none) s₁ →
      wpAny (model prog w) (A.deeper (callEnvC fd s.heap.objs.size a)) (execs body (callEnvC fd s.heap.objs.size a)) (fun f s' => R (.ok (.ret (match f with | .ret v => v | _ => .none))) s')
        (fun e s' => wpAny (model prog w) (A.deeper (callEnvC fd s.heap.objs.size a)) (leaving (callEnvC fd s.heap.objs.size a) e) (fun _ s'' => R (.error e) s'') (fun e' s'' => R (.error e') s'') s') s₁)
    (hco : fd.scope.isCoroutine = false) (hgen : fd.scope.isGenerator = false) (hk : fd.scope.kind = .function) : codeAny (model prog w) A (.call (.ref a) ⟨vals, []⟩) R s := by
  refine codeAny_call_function hroom ho hdata hco hgen hbody hcd ?_
  rw [hbind, hclo]
  refine wpAny_pure (wpAny_with_toks (Nat.le_refl _) (wpAny_newFunctionEnv_cells hk hkind fun env he s' x => fun htk => ?_))
  subst he
  exact ⟨hlim.keeps x.toInCall.keep, codeAny_func (h s' htk x)⟩
theorem cells_apart {cs : List (Str × Addr)} {y z : Str} {c : Addr} (hp : cs.Pairwise (fun x y => x.2 ≠ y.2)) (hy : cs.lookup y = some c) (hz : cs.lookup z = some c) : y = z := by
  induction cs with
  | nil => cases hy
  | cons p r ih =>
    obtain ⟨n, b⟩ := p
    rw [List.lookup_cons] at hy hz
    have hp' := List.pairwise_cons.mp hp
    cases ey : (y == n) with
    | true =>
      rw [ey] at hy; cases hy
      cases ez : (z == n) with
      | true => rw [eq_of_beq ey, eq_of_beq ez]
      | false => rw [ez] at hz; exact (hp'.1 _ (lookup_in hz) rfl).elim
    | false =>
      rw [ey] at hy
      cases ez : (z == n) with
      | true => rw [ez] at hz; cases hz; exact (hp'.1 _ (lookup_in hy) rfl).elim
      | false => rw [ez] at hz; exact ih hp'.2 hy hz
def withSelf (Z : AddrSet) (env : Env) : AddrSet := fun a => Z a ∨ env.cells.lookup frz = some a
theorem enter_loc {fd : FuncData} {f : Addr} {binds : List (Str × Value)} (I : Inv W Z s) (hl : ∀ x ∈ binds, fd.scope.names.lookup x.1 = some .local ∨ fd.scope.names.lookup x.1 = some .cell)
    (hρ : ∀ x sv, ρ x = some sv → ∃ v av, binds.reverse.lookup x = some v ∧ sv = .val av ∧ RepV Z s.heap v av) (htk : s.toks ≤ s₁.toks)
    (x : InCallC s (callEnvC fd s.heap.objs.size f).locals (bindL (callEnvC fd s.heap.objs.size f).kindOf binds fun _ => none) (callEnvC fd s.heap.objs.size f).cells (bindC (callEnvC fd s.heap.objs.size f).kindOf binds fun _ => none) s₁) :
    Step W .none Z s (withSelf Z (callEnvC fd s.heap.objs.size f)) s₁ ∧ Loc W (withSelf Z (callEnvC fd s.heap.objs.size f)) s₁.heap (callEnvC fd s.heap.objs.size f) ρ α ∧ ∀ a, FOwn (callEnvC fd s.heap.objs.size f) ρ α a → s.heap.get? a = none := by
  have big : ∀ a, s.heap.objs.size ≤ a → s.heap.get? a = none := fun a h => by
    cases e : s.heap.get? a with
    | none => rfl
    | some o => exact absurd (Heap.lt_size e) (Nat.not_lt.mpr h)
  have noown : ∀ y l, ρ y ≠ some (.own l) := fun y l h => by
    obtain ⟨v, av, _, e, _⟩ := hρ y _ h; cases e
  have cfresh : ∀ y c, (callEnvC fd s.heap.objs.size f).cells.lookup y = some c → s.heap.get? c = none ∧ c ≠ (callEnvC fd s.heap.objs.size f).locals := fun y c hy => ⟨big _ (Nat.le_of_lt (x.above y c (lookup_in hy))), Nat.ne_of_gt (x.above y c (lookup_in hy))⟩
  have fo : ∀ a, FOwn (callEnvC fd s.heap.objs.size f) ρ α a → s.heap.get? a = none := by
    rintro a (rfl | ⟨y, _, hy⟩ | ⟨y, l, hy, _⟩)
    · exact big _ (Nat.le_refl _)
    · exact (cfresh y a hy).1
    · exact (noown y l hy).elim
  have keep := x.toInCall.keep
  have cell := x.cell
  have apart := x.apart
  have ns := x.toInCall.ns
  obtain ⟨h₁, tk, rfl⟩ := x.toInCall.same
  have p : Step W .none Z s (withSelf Z (callEnvC fd s.heap.objs.size f)) { s with heap := h₁, toks := tk } :=
    ⟨⟨I.ok, fun b o e x => keep _ _ (I.base b o e x), fun b x => let ⟨o, e⟩ := I.xs b x; ⟨o, keep _ _ e⟩, fun a z => z.elim (fun z => let ⟨o, e⟩ := I.zin a z; ⟨o, keep _ _ e⟩) fun hc => let ⟨o, e, _⟩ := cell frz a hc; ⟨o, e⟩, I.os, I.bare, fun a z => z.elim (I.zx a) fun hc => I.fresh_x (cfresh frz a hc).1, fun a h => .inl (I.z0 a h), Nat.le_trans I.tk htk⟩,
      fun b o _ e => keep b o e, fun _ h => .inl h, fun a h => h.elim .inl fun hc => .inr (.inr (cfresh frz a hc).1), fun _ _ _ e => e⟩
  refine ⟨p, ⟨⟨_, ns, fun y sv hy => ?_⟩, fun a f' z => ?_, fun a f' => ⟨I.fresh_b (fo a f'), I.fresh_x (fo a f')⟩, fun y l b hy => (noown y l hy).elim, fun y z l l' hy => (noown y l hy).elim, fun y c hc => ⟨_, cell y c hc⟩, fun y z c hy hz => cells_apart apart hy hz, fun c hc => .inr hc⟩, fo⟩
  · obtain ⟨v, av, hv, rfl, r⟩ := hρ y sv hy
    refine ⟨v, ?_, r.mono (fun _ z => .inl z) fun a o _ e => keep a o e⟩
    rcases hl _ (List.mem_reverse.mp (lookup_in hv)) with k | k
    · have k' : (callEnvC fd s.heap.objs.size f).kindOf y = some .local := k
      exact .inl ⟨k', by rw [bindL_look k', hv]; rfl⟩
    · have k' : (callEnvC fd s.heap.objs.size f).kindOf y = some .cell := k
      obtain ⟨c, hc⟩ := Option.isSome_iff_exists.mp (cells_acc fd.scope.names (s.heap.objs.size + 1) [] (.inr k))
      have := cell y c hc
      rw [bindC_look (by rw [k']; decide), hv] at this
      exact .inr ⟨.inl k', c, hc, this⟩
  · rcases z with z | z
    · exact I.fresh_z (fo a f') z
    · rcases f' with e | ⟨y, hn, hy⟩ | ⟨y, l, hy, _⟩
      · exact (cfresh frz a z).2 e
      · exact hn (cells_apart apart hy z)
      · exact noown y l hy
theorem enter_env {fd : FuncData} {f L : Addr} (hg : fd.globals = mainGlobals) (hb : fd.builtins = builtinsNs) (hn : ∀ x, fd.scope.names.lookup x ≠ some .free) (hk : fd.scope.kind = .function) : EnvOk (callEnvC fd L f) fd.scope :=
  ⟨rfl, hg, hb, hk, fun x hx => by
    rcases hx with h | h
    · exact Option.isSome_iff_exists.mp (cells_acc fd.scope.names (L + 1) [] (.inr h))
    · exact (hn _ h).elim⟩
end
end Mine
end
section
set_option linter.unusedVariables false
namespace Mine
section
variable {W : Wd} {Z Z' Z₁ : AddrSet} {s s' s₁ : Shared} {env : Env} {sc : Scope} {ρ ρ' : Slots} {α α' : Str → Addr} {A : Around} {d : Nat}
open Classical in
noncomputable def maskH (h : Heap) (p : Addr → Prop) : Heap := ⟨h.objs.mapIdx fun i o => if p i then ⟨o.cls, o.dict, .freed, o.slots⟩ else o, h.life⟩
theorem maskH_in {h : Heap} {p : Addr → Prop} {a : Addr} (hp : p a) : (maskH h p).get? a = none := by
  unfold maskH Heap.get?
  rw [Array.getElem?_mapIdx]
  cases e : h.objs[a]? with
  | none => rfl
  | some o => simp only [Option.map_some, if_pos hp]
theorem maskH_out {h : Heap} {p : Addr → Prop} {a : Addr} (hp : ¬ p a) : (maskH h p).get? a = h.get? a := by
  unfold maskH Heap.get?
  rw [Array.getElem?_mapIdx]
  cases e : h.objs[a]? with
  | none => rfl
  | some o => simp only [Option.map_some, if_neg hp]
theorem maskH_some {h : Heap} {p : Addr → Prop} {a : Addr} {o : Obj} (e : (maskH h p).get? a = some o) : ¬ p a ∧ h.get? a = some o := by
  by_cases hp : p a
  · rw [maskH_in hp] at e; cases e
  · rw [maskH_out hp] at e; exact ⟨hp, e⟩
noncomputable def Wd.from (W : Wd) (g : Heap) (own : Addr → Prop) (Z : AddrSet) : Wd := { W with h₀ := maskH g own, X := fun _ => False, Z₀ := Z }
theorem Wd.from_ok {g : Heap} {own : Addr → Prop} {P : Addr} (ok : W.Ok) (hX : ∀ a, W.X a ↔ a = P) (hkeep : ∀ b o, b ≠ P → W.h₀.get? b = some o → g.get? b = some o) (hown : ∀ a, own a → W.h₀.get? a = none) : (W.from g own Z).Ok := by
  have hx : ∀ {a : Addr} {o : Obj}, a ≠ P → W.h₀.get? a = some o → (maskH g own).get? a = some o := fun {a o} hne e => by
    rw [maskH_out fun h => by rw [hown a h] at e; cases e]
    exact hkeep a o hne e
  have nsx : ∀ {a : Addr} {m : Str → Option Value}, a ≠ P → W.h₀.Ns a m → (maskH g own).Ns a m := fun {a m} hne ⟨o, es, ep, e, r⟩ => ⟨o, es, ep, hx hne e, r⟩
  have xk := ok.xk P ((hX P).mpr rfl)
  refine ⟨nsx (fun e => xk.2.1 e.symm) ok.g, nsx (fun e => xk.2.2.1 e.symm) ok.b, ?_, ?_, ok.builtins, fun a o e => hx (fun q => by have e' : W.K.lookup a = some o := e; rw [q, xk.1] at e'; cases e') (ok.kin a o e), fun a h => h.elim⟩
  · obtain ⟨mc, h1, h2⟩ := ok.nolimit
    exact ⟨mc, nsx (fun e => xk.2.2.2 e.symm) h1, h2⟩
  · obtain ⟨mc, h1, h2⟩ := ok.nodigits
    exact ⟨mc, nsx (fun e => xk.2.2.2 e.symm) h1, h2⟩
theorem Inv.rebase {g : Heap} {own : Addr → Prop} {P : Addr} {tk : Nat} (I : Inv W Z s) (hX : ∀ a, W.X a ↔ a = P) (hkeep : ∀ b o, b ≠ P → s.heap.get? b = some o → g.get? b = some o) (hown : ∀ a, own a → W.h₀.get? a = none) (htk : s.toks ≤ tk) : Inv (W.from g own Z) Z { s with heap := g, toks := tk } :=
  ⟨Wd.from_ok I.ok hX (fun b o hne e => hkeep b o hne (I.base b o e fun h => hne ((hX b).mp h))) hown, fun b o e _ => (maskH_some e).2, fun _ h => h.elim, fun a z => let ⟨o, e⟩ := I.zin a z; ⟨o, hkeep a o (fun q => I.zx a z ((hX a).mpr q)) e⟩, I.os, I.bare, fun _ _ h => h, fun _ h => h, Nat.le_trans I.tk htk⟩
theorem Loc.rebase {g : Heap} {own : Addr → Prop} {P : Addr} (I : Inv W Z s) (L : Loc W Z s.heap env ρ α) (hX : ∀ a, W.X a ↔ a = P) (hkeep : ∀ b o, b ≠ P → s.heap.get? b = some o → g.get? b = some o) (hown : ∀ a, FOwn env ρ α a → own a) : Loc (W.from g own Z) Z g env ρ α := by
  have kz : ∀ c o, Z c → s.heap.get? c = some o → g.get? c = some o := fun c o z e => hkeep c o (fun q => I.zx c z ((hX c).mpr q)) e
  have kf : ∀ c o, FOwn env ρ α c → s.heap.get? c = some o → g.get? c = some o := fun c o f e => hkeep c o (fun q => (L.nb c f).2 ((hX c).mpr q)) e
  have kc : ∀ x c o, env.cells.lookup x = some c → s.heap.get? c = some o → g.get? c = some o := fun x c o hc e => by
    by_cases q : x = frz
    · exact kz c o (L.slf c (q ▸ hc)) e
    · exact kf c o (.inr (.inl ⟨x, q, hc⟩)) e
  obtain ⟨m, ⟨o, es, ep, e, r⟩, hv⟩ := L.ns
  refine ⟨⟨m, ⟨o, es, ep, kf _ _ (.inl rfl) e, r⟩, fun x sv hx => ?_⟩, L.nz, fun a f => ⟨maskH_in (hown a f), id⟩, L.fix, L.inj, fun x c hc => ?_, L.cinj, L.slf⟩
  · obtain ⟨v, a, r⟩ := hv x sv hx
    refine ⟨v, a.mono kc, ?_⟩
    cases sv with
    | val av => exact RepV.mono (fun _ z => z) kz r
    | own l => obtain ⟨e, vs, ⟨n, hn⟩, rs⟩ := r; exact ⟨e, vs, ⟨n, kf _ _ (.inr (.inr ⟨x, l, hx, rfl⟩)) hn⟩, rs.mono (fun _ z => z) kz⟩
  · obtain ⟨v, o, e, dd⟩ := L.cell x c hc; exact ⟨v, o, kc x c o hc e, dd⟩
end
end Mine
end
section
set_option linter.unusedVariables false
namespace Mine
section
variable {W : Wd} {Z Z' Z₁ : AddrSet} {s s' s₁ : Shared} {env : Env} {sc : Scope} {ρ ρ' : Slots} {α α' : Str → Addr} {A : Around} {d : Nat}
structure FnS (W : Wd) (f c : Addr) (fd : FuncData) (body : List Stmt) (v : Value) (me : AV) : Prop where
  look : ∃ o, W.h₀.get? f = some o ∧ o.data = .func fd
  nox : ∀ a, ¬ W.X a
  code : W.h₀.CodeRec fd.code fd.qualname
  body : fd.body = .stmts body
  globals : fd.globals = mainGlobals
  builtins : fd.builtins = builtinsNs
  closure : fd.closure = [(frz, c)]
  nocell : ∀ x ∈ fd.scope.names, x.2 ≠ .cell
  free : ∀ x, fd.scope.names.lookup x = some .free → x = frz
  hfree : fd.scope.names.lookup frz = some .free
  kind : fd.scope.kind = .function
  co : fd.scope.isCoroutine = false
  gen : fd.scope.isGenerator = false
  z : W.Z₀ c
  cell : W.h₀.IsCell c (some v)
  rep : RepV W.Z₀ W.h₀ v me
theorem clo_spec {f c : Addr} {fd : FuncData} {body : List Stmt} {v : Value} {self : AV} {names : List Str} {F : Slots → Option (AFlow × Slots)} (k : FnS W f c fd body v self) (hb : ∀ s (vals : List Value), vals.length = names.length → BindsTo s fd ⟨vals, []⟩ (names.zip vals))
    (hl : ∀ x ∈ names, fd.scope.names.lookup x = some .local) (hn : frz ∉ names) (hF : DenSs W d fd.scope body F) :
    FSpec W (d + 1) (.ref f) fun args => if args.length = names.length then (F ((bindA names args).set frz (.val self))).map fun r => retA r.1 else none := by
  intro A Z s vals args av R I r h Q E' q
  obtain ⟨hlen, h⟩ := iteO h
  obtain ⟨⟨fl, ρ'⟩, hf, rfl⟩ := Option.map_eq_some_iff.mp h
  have base : ∀ b o, W.h₀.get? b = some o → s.heap.get? b = some o := fun b o e => I.base b o e (k.nox b)
  obtain ⟨o, hk, hd⟩ := k.look
  have hcd : s.heap.CodeRec fd.code fd.qualname := let ⟨c₂, oc, vs, t, e2, hoc, r⟩ := k.code; ⟨c₂, oc, vs, t, e2, base _ _ hoc, r⟩
  have hlz : ∀ x ∈ names.zip vals, fd.scope.names.lookup x.1 = some .local := fun x hx => hl _ (List.of_mem_zip (show (x.1, x.2) ∈ _ from hx)).1
  refine wpAny_call (codeAny_call_def R.lt (base _ _ hk) hd I.nolimit hcd k.body (hb s vals (r.length.trans hlen)) k.nocell hlz (fun h₁ hns hk₁ => ?_) k.co k.gen k.kind)
  have hN : s.heap.get? s.heap.objs.size = none := push_none _
  have p₁ : Step W .none Z s Z { s with heap := h₁, toks := s.toks + (names.zip vals).length } := .grow I hk₁
  have cl : ∀ x a, (callEnv fd s.heap.objs.size f).cells.lookup x = some a → x = frz ∧ a = c := fun x a hx => by
    change fd.closure.lookup x = some a at hx
    rw [k.closure, List.lookup_cons] at hx
    cases e : (x == frz) with
    | true => rw [e] at hx; cases hx; exact ⟨eq_of_beq e, rfl⟩
    | false => rw [e] at hx; cases hx
  have hcl : (callEnv fd s.heap.objs.size f).cells.lookup frz = some c := by
    change fd.closure.lookup frz = some c
    rw [k.closure, List.lookup_cons, beq_self_eq_true]
  have hE : EnvOk (callEnv fd s.heap.objs.size f) fd.scope := ⟨rfl, k.globals, k.builtins, k.kind, fun x hx => by
    rcases hx with h | h
    · exact (k.nocell _ (lookup_in h) rfl).elim
    · rw [k.free x h]; exact ⟨c, hcl⟩⟩
  have noown : ∀ y l, ((bindA names args).set frz (.val self)) y ≠ some (.own l) := fun y l h => by
    unfold Slots.set at h
    by_cases e : y = frz
    · rw [if_pos e] at h; cases h
    · rw [if_neg e] at h; obtain ⟨b, _, e⟩ := Option.map_eq_some_iff.mp h; cases e
  have fo : ∀ a, FOwn (callEnv fd s.heap.objs.size f) ((bindA names args).set frz (.val self)) (fun _ => 0) a → a = s.heap.objs.size := by
    rintro a (h | ⟨x, hne, hx⟩ | ⟨x, l, hx, _⟩)
    · exact h
    · exact (hne (cl x a hx).1).elim
    · exact (noown x l hx).elim
  have hcell : h₁.IsCell c (some v) := let ⟨o, e, dd⟩ := k.cell; ⟨o, hk₁ _ _ (base _ _ e), dd⟩
  have L : Loc W Z h₁ (callEnv fd s.heap.objs.size f) ((bindA names args).set frz (.val self)) (fun _ => 0) := by
    refine ⟨⟨_, hns, fun x sv hx => ?_⟩, fun a f' z => I.fresh_z hN (fo a f' ▸ z), fun a f' => fo a f' ▸ ⟨I.fresh_b hN, I.fresh_x hN⟩, fun x l b hx => (noown x l hx).elim, fun x y l l' hx => (noown x l hx).elim, fun x a hx => ?_, fun x y a hx hy => (cl x a hx).1.trans (cl y a hy).1.symm, fun a hx => ?_⟩
    · unfold Slots.set at hx
      by_cases e : x = frz
      · rw [if_pos e] at hx
        cases hx
        exact ⟨v, .inr ⟨.inr (e ▸ k.hfree), c, e ▸ hcl, hcell⟩, k.rep.mono (fun a z => I.z0 a z) fun a o _ e => hk₁ a o (base a o e)⟩
      · rw [if_neg e] at hx
        obtain ⟨b, hb1, rfl⟩ := Option.map_eq_some_iff.mp hx
        obtain ⟨u, hu, ru⟩ := (zip_look r names x).1 b hb1
        exact ⟨u, .inl ⟨hlz _ (List.mem_reverse.mp (lookup_in hu)), hu⟩, ru.mono (fun _ z => z) fun a o _ e => hk₁ a o e⟩
    · rw [(cl x a hx).2]; exact ⟨_, hcell⟩
    · rw [(cl frz a hx).2]; exact I.z0 c k.z
  refine hF _ _ Z _ _ _ fl ρ' (R.deeper _) hE p₁.inv L hf _ _ fun g s₂ Z₂ α₂ p₂ r₂ => ?_
  refine q _ s₂ Z₂ (p₁.trans p₂.step (fun a h => .inr (fo a h ▸ hN)) (fun _ h => h.elim)) ?_
  cases fl <;> cases g <;> first | exact r₂.elim | exact .none | exact r₂
theorem den_call_local {x : Str} {np pos : Pos} {es : List Expr} {fs : Slots → Option (List AV)} {f : Addr} {G : List AV → Option AV} (h1 : (x == ("__debug__" : Str)) = false) (hn : (x == ("__classdict__" : Str)) = false) (hfa : ∀ Z s, Inv W Z s → FnAt f s.heap) (ha : DenPs W d sc es fs) (hns : ∀ env pos, (backTo pos (starEach es env)).any (·.1) = false) (hF : FSpec W d (.ref f) G)
    (he : ∀ env, eval (.Call (.Name x np) es [] pos) env = (do callWith pos (← eval (.Name x np) env) [] (backTo pos (starEach es env)) (backToKw pos (keywordEach [] env)))) :
    DenP W d sc (.Call (.Name x np) es [] pos) fun ρ => getV ρ x >>= fun v => match v with | .raw (.ref a) => if a = f then fs ρ >>= G else none | _ => none := by
  intro A env Z s ρ α av R hE I L hf Q E' q
  obtain ⟨v, hv, hf⟩ := bindO hf
  split at hf
  · obtain ⟨e, hf⟩ := iteO hf
    obtain ⟨l, hl, hf⟩ := bindO hf
    rw [he env]
    refine wpAny_bind (wpAny_Name (L.load hE (getV_eq hv) (fun w r => ?_) hn) h1)
    have hw : w = .ref f := by
      have r' : RepV Z s.heap w (.raw (.ref _)) := r
      cases r'; rw [e]
    rw [hw]
    refine callWith_of (P := FnAt f) (by rw [hns]; rfl) keeps_F (evalArgs_ns (hns _ _) (ha A env Z s ρ α l R hE I L hl pos _ _ fun vs s₁ Z₁ p₁ r₁ => ⟨hfa Z₁ s₁ p₁.inv, ?_⟩))
    exact hF A Z₁ s₁ vs l av R p₁.inv r₁ hf _ _ fun u s₂ Z₂ p₂ r₂ => q u s₂ Z₂ (p₁.tr p₂) r₂
  · cases hf
end
end Mine
end
section
set_option linter.unusedVariables false
namespace Mine
section
variable {W : Wd} {Z Z' Z₁ : AddrSet} {s s' s₁ : Shared} {env : Env} {sc : Scope} {ρ ρ' : Slots} {α α' : Str → Addr} {A : Around} {d : Nat}
def replA (y z : Str) (a : AV) : Option AV := a.str? >>= fun x => if x.length ≤ 1000000 ∧ z.length ≤ 14 then some (.str (Txt.replace x y z)) else none
theorem den_replace {o : Expr} {y z : Str} {k1 k2 : Nat} {apos pos p1 p2 : Pos} {f : Slots → Option AV} (ho : DenP W d sc o f) (hyz : (y == z) = false)
    (hbase : ∀ env, attributeBase o "replace" env (eval o env) = eval o env) (hline : (apos.endLine == pos.line) = true) :
    DenP W d sc (.Call (.Attribute o "replace" apos) [.Constant (.str y) k1 p1, .Constant (.str z) k2 p2] [] pos) fun ρ => f ρ >>= replA y z := by
  intro A env Z s ρ α av R hE I L hf Q E' q
  obtain ⟨a, ha', hf⟩ := bindO hf
  obtain ⟨x, hx, hf⟩ := bindO hf
  obtain ⟨hz, hf⟩ := iteO hf
  cases hf
  refine wpAny_Call_method (hbase env) rfl hline PySem.F.plainAttrs_str PySem.F.slot_str_replace PySem.F.type_str_replace (ho A env Z s ρ α _ R hE I L ha' _ _ fun ov s₁ Z₁ p₁ r₁ => ?_)
  obtain ⟨t, rfl⟩ := str?_rep hx r₁
  refine ⟨typeIs_str _ _ _, fun a e => (by cases e), ?_⟩
  refine callWith_of (P := W.K.In) rfl (keep_builtin "str.replace") (evalArgs_ns rfl (wpAny_items_cons (wpAny_Constant_str (wpAny_items_cons (wpAny_Constant_str (wpAny_items_nil ⟨p₁.inv.kin, ?_⟩)))))) 
  have h1 := p₁.inv.tk
  have I₃ : Step W .none Z₁ s₁ Z₁ { s₁ with toks := s₁.toks + 1 + 1 } := .toks p₁.inv _ (by (first | lia | omega))
  refine wpAny_with_toks (Nat.le_refl _) (SC.replaceW (show s₁.toks ≠ 0 by (first | lia | omega)) (show s₁.toks + 1 ≠ 0 by (first | lia | omega)) (show s₁.toks ≠ s₁.toks + 1 by (first | lia | omega)) hyz (by (first | lia | omega)) hz.2 fun t' k => fun (htk : s₁.toks + 1 + 1 ≤ k) => ?_)
  exact q _ _ Z₁ (p₁.tr (I₃.tr (.toks I₃.inv k htk))) (.str _ _)
def rstripF (l : List AV) : Option AV := arg2 l fun a b => a.str? >>= fun x => b.str? >>= fun y => if x.length ≤ 16777216 then some (.str (Txt.rstripChars x y)) else none
theorem spec_rstrip : FSpec W d (.builtin "str.rstrip") rstripF := by
  intro A Z s vals args av R I r h
  obtain ⟨x, y, t, u, rfl, h⟩ := strs2_rep h r
  obtain ⟨hz, h⟩ := iteO h
  cases h
  exact .val I fun Q E' q => SC.rstripChars (fun t' k => q _ k (.str _ _)) (by unfold sizeLine; exact hz)
def chrF (l : List AV) : Option AV := arg1 l fun a => a.int? >>= fun i => if 0 ≤ i ∧ i ≤ 1114111 then some (.str (sign1 i.toNat)) else none
theorem spec_chr : FSpec W d (.builtin "chr") chrF := by
  intro A Z s vals args av R I r h
  obtain ⟨a, v, rfl, r1, h⟩ := arg1_rep h r
  obtain ⟨i, hi, h⟩ := bindO h
  obtain ⟨hz, h⟩ := iteO h
  cases h
  obtain ⟨t, rfl⟩ := int?_rep hi r1
  exact .val I fun Q E' q => chr_of_range hz.1 hz.2 (q _ _ (.str _ _))
end
end Mine
end
section
open PySem PySem.W PyProof.Rows PySem.Builtin PySem.Builtin.Str
set_option linter.unusedVariables false
namespace Mine
def expStep (n : Int) (p : Array Nat × Nat) (c : Nat) : Array Nat × Nat :=
  if (c == 9) = true then (p.1 ++ Array.replicate (if n > 0 then n.toNat - p.2 % n.toNat else 0) 32, p.2 + if n > 0 then n.toNat - p.2 % n.toNat else 0)
  else (p.1.push c, if (c == 10 || c == 13) = true then 0 else p.2 + 1)
def expandT (n : Int) (x : Str) : Str := if (!x.cps.contains 9) = true then x else ⟨(x.cps.toList.foldl (expStep n) (#[], 0)).1⟩
theorem expStep_mono (n : Int) (p : Array Nat × Nat) (c : Nat) : p.1.size ≤ (expStep n p c).1.size := by
  unfold expStep
  by_cases h : (c == 9) = true
  · rw [if_pos h]; show p.1.size ≤ (p.1 ++ _).size; rw [Array.size_append]; exact Nat.le_add_right _ _
  · rw [if_neg h]; show p.1.size ≤ (p.1.push c).size; rw [Array.size_push]; exact Nat.le_succ _
theorem exp_mono (n : Int) (l : List Nat) (p : Array Nat × Nat) : p.1.size ≤ (l.foldl (expStep n) p).1.size := by
  induction l generalizing p with
  | nil => exact Nat.le_refl _
  | cons c l ih => exact Nat.le_trans (expStep_mono n p c) (ih _)
def expBody (n : Int) (c : Nat) (p : Array Nat × Nat) : Sem (ForInStep (Array Nat × Nat)) :=
  if (c == 9) = true then
    if tooLong (p.1.size + if n > 0 then n.toNat - p.2 % n.toNat else 0) = true then do
      unsupported "str.expandtabs:memory"
      pure (ForInStep.yield (p.1 ++ Array.replicate (if n > 0 then n.toNat - p.2 % n.toNat else 0) 32, p.2 + if n > 0 then n.toNat - p.2 % n.toNat else 0))
    else pure (ForInStep.yield (p.1 ++ Array.replicate (if n > 0 then n.toNat - p.2 % n.toNat else 0) 32, p.2 + if n > 0 then n.toNat - p.2 % n.toNat else 0))
  else pure (ForInStep.yield (p.1.push c, if (c == 10 || c == 13) = true then 0 else p.2 + 1))
theorem expBody_eq (n : Int) (c : Nat) (p : Array Nat × Nat) (h : (expStep n p c).1.size ≤ 16777216) : expBody n c p = pure (ForInStep.yield (expStep n p c)) := by
  unfold expBody expStep
  by_cases h9 : (c == 9) = true
  · rw [if_pos h9, if_pos h9]
    unfold expStep at h
    rw [if_pos h9] at h
    have h' : p.1.size + (if n > 0 then n.toNat - p.2 % n.toNat else 0) ≤ 16777216 := by
      have : (p.1 ++ Array.replicate (if n > 0 then n.toNat - p.2 % n.toNat else 0) 32).size ≤ 16777216 := h
      rw [Array.size_append, Array.size_replicate] at this; exact this
    rw [if_neg]
    rw [show tooLong (p.1.size + if n > 0 then n.toNat - p.2 % n.toNat else 0) = false from by unfold tooLong; exact decide_eq_false (by unfold sizeLine; (first | lia | omega))]
    exact Bool.false_ne_true
  · rw [if_neg h9, if_neg h9]
theorem exp_loop (n : Int) (l : List Nat) (p : Array Nat × Nat) (h : (l.foldl (expStep n) p).1.size ≤ 16777216) : (forIn l p (expBody n) : Sem (Array Nat × Nat)) = pure (l.foldl (expStep n) p) := by
  induction l generalizing p with
  | nil => rfl
  | cons c l ih =>
    rw [List.forIn_cons, expBody_eq n c p (Nat.le_trans (exp_mono n l _) h)]
    exact ih _ h
theorem gives_expand (x : Str) (t u : Tok) (n : Int) (h1 : (decide (n < -(2 ^ 31 : Int)) || decide (n ≥ 2 ^ 31)) = false) (hz : (x.cps.toList.foldl (expStep n) (#[], 0)).1.size ≤ 16777216) :
    PySem.Gives («str.expandtabs» ⟨[.str x t, .int n u], []⟩) (if (!x.cps.contains 9) = true then .val (.str x t) else .str ⟨(x.cps.toList.foldl (expStep n) (#[], 0)).1⟩) := by
  have e : «str.expandtabs» ⟨[.str x t, .int n u], []⟩ = (do
    if (decide (n < -(2 ^ 31 : Int)) || decide (n ≥ 2 ^ 31)) = true then
      rule "str.expandtabs.overflow"; raiseError "OverflowError" "Python int too large to convert to C int"
    if (!x.cps.contains 9) = true then rule "str.expandtabs.no-tab"; return ← ret (← strUnchanged (.str x t) x)
    let r ← forIn x.cps (#[], 0) (expBody n)
    retStr ⟨r.1⟩) := rfl
  rw [e, h1]
  simp only [Bool.false_eq_true, if_false]
  cases h9 : (!x.cps.contains 9)
  · simp only [Bool.false_eq_true, if_false]
    rw [← Array.forIn_toList, exp_loop n _ _ hz]
    exact .of_eq rfl
  · simp only [if_true]
    exact .rule (.of_eq rfl)
section
variable {W : Wd} {Z Z' Z₁ : AddrSet} {s s' s₁ : Shared} {A : Around} {d : Nat}
def expandF (l : List AV) : Option AV := arg2 l fun a b => a.str? >>= fun x => b.int? >>= fun n => if -1000000 < n ∧ n < 1000000 ∧ (x.cps.toList.foldl (expStep n) (#[], 0)).1.size ≤ 16777216 then some (.str (expandT n x)) else none
theorem spec_expand : FSpec W d (.builtin "str.expandtabs") expandF := by
  intro A Z s vals args av R I r h
  obtain ⟨a, b, v, w, rfl, r1, r2, h⟩ := arg2_rep h r
  obtain ⟨x, hx, h⟩ := bindO h
  obtain ⟨n, hn, h⟩ := bindO h
  obtain ⟨⟨h1, h2, h3⟩, h⟩ := iteO h
  cases h
  obtain ⟨t, rfl⟩ := str?_rep hx r1
  obtain ⟨u, rfl⟩ := int?_rep hn r2
  refine .val I fun Q E' q => call_gives PySem.F.slot_str_expandtabs (typeIs_str _ _ _) PySem.F.entry_str_expandtabs (PySem.F.args_str_expandtabs_2 _ _) (gives_expand x t u n (by rw [decide_eq_false (by (first | lia | omega)), decide_eq_false (by (first | lia | omega))]; rfl) h3) ?_
  unfold expandT at q
  cases h9 : (!x.cps.contains 9)
  · rw [h9] at q
    exact ⟨h3, q _ _ (.str _ _)⟩
  · rw [h9] at q
    exact q _ s.toks (.str _ _)
end
end Mine
end
section
set_option linter.unusedVariables false
namespace Mine
section
variable {W : Wd} {Z Z' Z₁ : AddrSet} {s s' s₁ : Shared} {env : Env} {sc : Scope} {ρ ρ' : Slots} {α α' : Str → Addr} {A : Around} {d : Nat}
theorem execs_app (a b : List Stmt) : execs (a ++ b) env = (execs a env >>= fun f => match f with | .next => execs b env | f => pure f) := by
  induction a with
  | nil => show execs b env = (pure Flow.next >>= _); rw [pure_bind]
  | cons x a ih =>
    show execs (x :: (a ++ b)) env = _
    rw [execs_cons, execs_cons, bind_assoc]
    congr 1
    funext f
    cases f
    · exact ih
    all_goals (show pure _ = (pure _ >>= _); rw [pure_bind])
theorem wpAny_execs_app {a b : List Stmt} {Q : Flow → Shared → Prop} {E' : Value → Shared → Prop} (h : wpAny W.M A (execs a env) (fun f s' => match f with | .next => wpAny W.M A (execs b env) Q E' s' | f => Q f s') E' s) : wpAny W.M A (execs (a ++ b) env) Q E' s := by
  rw [execs_app]
  refine wpAny_bind (wpAny_mono h (fun f s' h' => ?_) fun _ _ x => x)
  cases f
  · exact h'
  all_goals exact wpAny_pure h'
structure Jump (P : Addr) (Z : AddrSet) (s : Shared) (Z' : AddrSet) (s' : Shared) : Prop where
  keep : ∀ b o, b ≠ P → s.heap.get? b = some o → s'.heap.get? b = some o
  zsub : ∀ a, Z a → Z' a
  znew : ∀ a, Z' a → Z a ∨ s.heap.get? a = none
  zin : ∀ a, Z' a → ∃ o, s'.heap.get? a = some o
  os : s'.os = s.os
  bare : AllBare s'.gens
  tk : 1 ≤ s'.toks
  tab : ∃ ps, s'.heap.get? P = some (tabObj ps)
theorem Jump.inv {P : Addr} {own : Addr → Prop} (j : Jump P Z s Z' s') (I : Inv W Z s) (hX : ∀ a, W.X a ↔ a = P) (hown : ∀ a, own a → W.h₀.get? a = none) : Inv (W.from s'.heap own Z') Z' s' :=
  ⟨Wd.from_ok I.ok hX (fun b o hne e => j.keep b o hne (I.base b o e fun h => hne ((hX b).mp h))) hown, fun b o e _ => (maskH_some e).2, fun _ h => h.elim, j.zin, j.os.trans I.os, j.bare, fun _ _ h => h, fun _ h => h, j.tk⟩
theorem Loc.more {W₂ : Wd} {h : Heap} (L : Loc W Z h env ρ α) (h0 : W₂.h₀ = W.h₀) (hx : W₂.X = W.X) (hz : ∀ a, Z a → Z' a) (hn : ∀ a, FOwn env ρ α a → ¬ Z' a) : Loc W₂ Z' h env ρ α := by
  obtain ⟨m, ns, hv⟩ := L.ns
  refine ⟨⟨m, ns, fun x sv hx => ?_⟩, hn, fun a f => by rw [h0, hx]; exact L.nb a f, L.fix, L.inj, L.cell, L.cinj, fun c hc => hz c (L.slf c hc)⟩
  obtain ⟨v, a, r⟩ := hv x sv hx
  refine ⟨v, a, ?_⟩
  cases sv with
  | val av => exact RepV.mono hz (fun _ _ _ e => e) r
  | own l => obtain ⟨e, vs, hp, rs⟩ := r; exact ⟨e, vs, hp, rs.mono hz fun _ _ _ e => e⟩
theorem Jump.loc {P : Addr} (j : Jump P Z s Z' s') (I : Inv W Z s) (L : Loc W Z s.heap env ρ α) (hX : ∀ a, W.X a ↔ a = P) : Loc (W.from s'.heap (FOwn env ρ α) Z') Z' s'.heap env ρ α :=
  (Loc.rebase (g := s'.heap) (own := FOwn env ρ α) I L hX j.keep fun _ f => f).more rfl rfl j.zsub fun a f z => by
    rcases j.znew a z with z | z
    · exact L.nz a f z
    · obtain ⟨o, e⟩ := L.alive f; rw [e] at z; cases z
def JSpec (W : Wd) (P : Addr) (d : Nat) (f : Value) (G : List AV → Option AV) : Prop :=
  ∀ (A : Around) (Z : AddrSet) (s : Shared) (vals : List Value) (args : List AV) (av : AV), Room A d → Inv W Z s → s.heap.get? P = some (tabObj #[]) → RepVs Z s.heap vals args → G args = some av →
    ∀ (Q : Value → Shared → Prop) (E' : Value → Shared → Prop), (∀ rv s' Z', Jump P Z s Z' s' → RepV Z' s'.heap rv av → Q rv s') → wpAny W.M A (call f vals) Q E' s
theorem Loc.nofields {h : Heap} (L : Loc W Z h env ρ α) {a : Addr} {o : Obj} {vs : Array Value} (f : FOwn env ρ α a) (e : h.get? a = some o) (hd : o.data = .fields vs) : False := by
  obtain ⟨m, ⟨o', es, ep, e', d', _⟩, hv⟩ := L.ns
  rcases f with rfl | ⟨x, _, hx⟩ | ⟨x, l, hx, rfl⟩
  · rw [e'] at e; cases e; rw [hd] at d'; cases d'
  · obtain ⟨v, o₂, e₂, d₂⟩ := L.cell _ _ hx
    rw [e₂] at e; cases e; rw [hd] at d₂; cases d₂
  · obtain ⟨v, _, _, vs', ⟨n, hn⟩, _⟩ := hv x _ hx
    rw [hn] at e; cases e; cases hd
def Wd.at (W : Wd) (h₀ : Heap) (Z₀ : AddrSet) : Wd := { W with h₀ := h₀, X := fun _ => False, Z₀ := Z₀ }
structure MakerOk (W : Wd) (f c P : Addr) (fd : FuncData) (names : List Str) (name : Str) (params : Arguments) (ibody : List Stmt) (iscope : Scope) (pos : Pos) (rest : List Stmt) (inames : List Str) : Prop where
  fn : FnC W f fd (.FunctionDef name params ibody [] none [] iscope none name pos :: rest)
  bind : ∀ (vals : List Value), vals.length = names.length → bindArgs fd ⟨vals, []⟩ = pure (names.zip vals)
  loc : ∀ x ∈ names, fd.scope.names.lookup x = some .local ∨ fd.scope.names.lookup x = some .cell
  self : fd.scope.names.lookup frz = some .cell
  x : ∀ a, W.X a ↔ a = P
  code : fd.code = .ref c
  codeHd : codeHdIn W.K c P = true
  built : W.h₀.BuiltinsAt W.mg P
  d0 : params.defaults = []
  k0 : params.kw_defaults = []
  ann : ∀ env, annTrees params none env = []
  kd : Kd fd.scope name
  inocell : ∀ x ∈ iscope.names, x.2 ≠ .cell
  ifree : ∀ x, iscope.names.lookup x = some .free → x = frz
  ihfree : iscope.names.lookup frz = some .free
  ifrees : iscope.names.filter (fun x => x.2 == .free) = [(frz, .free)]
  ikind : iscope.kind = .function
  ico : iscope.isCoroutine = false
  igen : iscope.isGenerator = false
  ibind : ∀ (qual : Str) (clos : List (Str × Addr)) (doc pm : Value) (c' : Addr) (ctv : Value) (s : Shared) (vals : List Value), vals.length = inames.length → BindsTo s (fnX name qual params ibody iscope clos .none .none doc pm none (.ref c') ctv) ⟨vals, []⟩ (inames.zip vals)
  iloc : ∀ x ∈ inames, iscope.names.lookup x = some .local
  inot : frz ∉ inames
theorem closeL_filter (env : Env) : ∀ (names : List (Str × NameKind)) (cs : List (Str × Addr)), closeL env names cs = closeL env (names.filter fun x => x.2 == .free) cs
  | [], cs => rfl
  | (n, k) :: r, cs => by
    rw [List.filter_cons]
    by_cases hk : (k == NameKind.free) = true
    · rw [if_pos hk]; unfold closeL; rw [if_pos hk, if_pos hk]; exact closeL_filter env r _
    · rw [if_neg hk]; rw [show closeL env ((n, k) :: r) cs = closeL env r cs by rw [closeL, if_neg hk]]; exact closeL_filter env r _
end
end Mine
end
section
set_option linter.unusedVariables false
namespace Mine
theorem newEnv1 {M : Model} {A : Around} {E : Value → Shared → Prop} {s : Shared} {scope : Scope} {globals : Addr} {n : Str} {v : Value} {qual : Str} {func : Option Addr} {code : Value} {builtins : Addr} {Q : Env → Shared → Prop} (hk : scope.kind = .function) (hl : scope.names.lookup n = some .local)
    (hQ : ∀ env, env = newEnv scope s.heap.objs.size globals (cellsFrom (s.heap.objs.size + 1) scope.names []) qual func code none builtins →
      ∀ s', s.toks + 1 ≤ s'.toks → InCallC s env.locals (bindL env.kindOf [(n, v)] fun _ => none) env.cells (bindC env.kindOf [(n, v)] fun _ => none) s' → Q env s') :
    wpAny M A (newFunctionEnv scope globals [] [(n, v)] qual func code none builtins) Q E s := by
  simp only [newFunctionEnv, Option.isSome_none, Bool.false_eq_true, if_false]
  refine wpAny_bind (wpAny_alloc ?_)
  refine wpAny_bind (wpAny_layCells _ (fun name kind cells => by cases hkc : kind == NameKind.cell <;> simp [hkc]) _ _ _ _ ?_)
  have ok := cellsFrom_ok scope.names (s.heap.push { cls := .type "frame", data := .dict #[] }) (s.heap.objs.size + 1) [] ⟨fun _ _ hm => (nomatch hm), List.Pairwise.nil⟩ (by rw [Heap.size_push]; exact Nat.le_refl _)
  rw [Heap.size_push] at ok
  rw [show ({ s with heap := s.heap.push { cls := .type "frame", data := .dict #[] } } : Shared).heap.objs.size = s.heap.objs.size + 1 from Heap.size_push ..]
  have x : InCallC s (newEnv scope s.heap.objs.size globals (cellsFrom (s.heap.objs.size + 1) scope.names []) qual func code none builtins).locals (fun _ => none) (newEnv scope s.heap.objs.size globals (cellsFrom (s.heap.objs.size + 1) scope.names []) qual func code none builtins).cells (fun _ => none) { s with heap := pushCells (s.heap.push { cls := .type "frame", data := .dict #[] }) scope.names } :=
    ⟨⟨⟨_, _, rfl⟩, (Heap.Ns.new s.heap (.type "frame")).keeps (pushCells_keeps _ _), fun b o e => pushCells_keeps _ _ b o (Heap.get?_push_of_some _ e), Nat.le_refl _⟩,
      fun n c hc => (ok.empty n c (mem_of_lookup hc)).1, ok.apart, fun n c hm => (ok.empty n c hm).2⟩
  have hl' : (newEnv scope s.heap.objs.size globals (cellsFrom (s.heap.objs.size + 1) scope.names []) qual func code none builtins).kindOf n = some .local := hl
  refine wpAny_bind ?_
  rw [List.forIn_cons]
  refine wpAny_bind (wpAny_bind (wpAny_storeName_local hl' x.toInCall.ns (fun h' hn' hs' => wpAny_pure ?_) (by show (scope.kind == .class || _) = false; rw [hk]; rfl)))
  show wpAny _ _ (forIn [] _ _) _ _ _
  rw [List.forIn_nil]
  refine wpAny_pure (wpAny_pure (hQ _ rfl _ (Nat.le_refl _) ?_))
  have eL : (bindL (newEnv scope s.heap.objs.size globals (cellsFrom (s.heap.objs.size + 1) scope.names []) qual func code none builtins).kindOf [(n, v)] fun _ => none) = fun y => if y = n then some v else none := by
    unfold bindL; rw [if_pos hl']; rfl
  have eC : (bindC (newEnv scope s.heap.objs.size globals (cellsFrom (s.heap.objs.size + 1) scope.names []) qual func code none builtins).kindOf [(n, v)] fun _ => none) = fun _ => none := by
    unfold bindC; rw [if_pos hl']; rfl
  rw [eL, eC]
  refine ⟨⟨⟨h', _, rfl⟩, hn', fun b o e => ?_, x.toInCall.fresh⟩, fun k c hc => ?_, x.apart, x.above⟩
  · exact hs'.extBut b o (Nat.ne_of_lt (Nat.lt_of_lt_of_le (Heap.lt_size e) x.toInCall.fresh)) (x.toInCall.keep b o e)
  · exact (x.cell k c hc).sameBut hs' (Nat.ne_of_gt (x.above k c (mem_of_lookup hc)))
section
variable {W : Wd} {Z Z' Z₁ : AddrSet} {s s' s₁ : Shared} {env : Env} {sc : Scope} {ρ ρ' : Slots} {α α' : Str → Addr} {A : Around} {d : Nat} {P : Addr} {ps : Array Value}
structure Stage (P : Addr) (s₁ : Shared) (ps : Array Value) (W : Wd) (env : Env) (Z : AddrSet) (s : Shared) (ρ : Slots) (α : Str → Addr) : Prop where
  inv : Inv W Z s
  loc : Loc W Z s.heap env ρ α
  keep : ∀ b o, b ≠ P → s₁.heap.get? b = some o → s.heap.get? b = some o
  own : ∀ a, FOwn env ρ α a → s₁.heap.get? a = none
  os : s.os = s₁.os
  tab : s.heap.get? P = some (tabObj ps)
  tab₁ : s₁.heap.get? P = some (tabObj #[])
theorem Stage.back (t : Stage P s₁ ps W env Z s ρ α) {a : Addr} (h : s.heap.get? a = none) : s₁.heap.get? a = none := by
  cases e : s₁.heap.get? a with
  | none => rfl
  | some o =>
    by_cases hp : a = P
    · rw [hp, t.tab] at h; cases h
    · rw [t.keep a o hp e] at h; cases h
theorem Stage.step (t : Stage P s₁ ps W env Z s ρ α) (p : FStep W env Z s ρ α Z' s' ρ' α') : Stage P s₁ ps W env Z' s' ρ' α' :=
  ⟨p.step.inv, p.loc, fun b o hne e => p.step.keep b o (fun f => by rw [t.own b f] at e; cases e) (t.keep b o hne e), fun a f => (p.fo a f).elim (t.own a) t.back, (p.step.inv.os.trans t.inv.os.symm).trans t.os,
    p.step.keep P _ (fun f => by have := t.own P f; rw [t.tab₁] at this; cases this) t.tab, t.tab₁⟩
theorem Stage.jump (t : Stage P s₁ ps W env Z s ρ α) (j : Jump P Z s Z' s') (hX : ∀ a, W.X a ↔ a = P) : ∃ ps', Stage P s₁ ps' (W.at (maskH s'.heap (FOwn env ρ α)) Z') env Z' s' ρ α := by
  obtain ⟨ps', hps⟩ := j.tab
  exact ⟨ps', j.inv t.inv hX fun a f => (t.loc.nb a f).1, j.loc t.inv t.loc hX, fun b o hne e => j.keep b o hne (t.keep b o hne e), t.own, j.os.trans t.os, hps, t.tab₁⟩
theorem Stage.old {c : Addr} (t : Stage P s₁ ps W env Z s ρ α) (hK : W.K.In s₁.heap) (hc : codeHdIn W.K c P = true) (hP : P ≠ cStatics) : OldK s₁.heap s.heap :=
  (OldK.refl s₁.heap).step_table ((codeHd_of_K hK hc).tab t.tab₁) ((codeHd_of_K hK hc).tab t.tab₁) (by rw [Array.empty_append]; exact (codeHd_of_K t.inv.kin hc).tab t.tab) (fun b o hne e => t.keep b o hne e) hP
theorem law_start {fa : Addr} {o : Obj} {fd : FuncData} {body : List Stmt} {a : Addr} {vals : List Value} {ns : List Int} {R : Result → Shared → Prop} (ok : W.Ok) (hh : W.h₀ = s₁.heap) (hos : W.os = s₁.os) (hX : ∀ a, W.X a ↔ a = P) (hZ : ∀ a, ¬ W.Z₀ a) (hP : s₁.heap.get? P = some (tabObj #[])) (hg : s₁.gens = #[])
    (hroom : A.depth < recursionLimit) (ho : s₁.heap.get? fa = some o) (hd : o.data = .func fd) (hlim : s₁.heap.NoLimit) (hcd : s₁.heap.CodeRec fd.code fd.qualname) (hbody : fd.body = .stmts body) (hbind : bindArgs fd ⟨[Value.ref a], []⟩ = pure [(("script" : Str), Value.ref a)]) (hclo : fd.closure = [])
    (hsc : fd.scope.names.lookup ("script" : Str) = some .local) (hnf : ∀ x, fd.scope.names.lookup x ≠ some .free) (hgl : fd.globals = mainGlobals) (hbl : fd.builtins = builtinsNs) (hk : fd.scope.kind = .function) (hco : fd.scope.isCoroutine = false) (hgen : fd.scope.isGenerator = false)
    (hl : s₁.heap.IsList a vals.toArray) (hi : IntsAre vals ns)
    (h : ∀ env Z s α, EnvOk env fd.scope → Stage P s₁ #[] W env Z s (script0 ns) α → wpAny W.M (A.deeper env) (execs body env) (fun f s' => R (.ok (.ret (match f with | .ret v => v | _ => .none))) s') (fun _ _ => False) s) :
    codeAny W.M A (.call (.ref fa) ⟨[.ref a], []⟩) R s₁ := by
  refine codeAny_call_function hroom ho hd hco hgen hbody hcd ?_
  rw [hbind, hclo]
  refine wpAny_pure (newEnv1 hk hsc fun env he s' htk x => ?_)
  subst he
  refine ⟨hlim.keeps x.toInCall.keep, codeAny_func ?_⟩
  obtain ⟨oa, ha, hr⟩ := hl
  have haP : a ≠ P := fun e => by rw [e, hP] at ha; cases ha; cases hr.1
  have I : Inv W (· = a) { s₁ with toks := s₁.toks + 1 } := ⟨ok, fun b o e _ => hh ▸ e, fun b x => ⟨tabObj #[], by rw [(hX b).mp x]; exact hP⟩, fun b z => ⟨oa, by rw [show b = a from z]; exact ha⟩, hos.symm, .of_eq hg, fun b z x => haP ((show b = a from z).symm.trans ((hX b).mp x)), fun b h => (hZ b h).elim, Nat.le_add_left _ _⟩
  have x' : InCallC { s₁ with toks := s₁.toks + 1 } (callEnvC fd s₁.heap.objs.size fa).locals (bindL (callEnvC fd s₁.heap.objs.size fa).kindOf [("script", .ref a)] fun _ => none) (callEnvC fd s₁.heap.objs.size fa).cells (bindC (callEnvC fd s₁.heap.objs.size fa).kindOf [("script", .ref a)] fun _ => none) s' :=
    ⟨⟨let ⟨h, tk, e⟩ := x.toInCall.same; ⟨h, tk, e⟩, x.toInCall.ns, x.toInCall.keep, x.toInCall.fresh⟩, x.cell, x.apart, x.above⟩
  obtain ⟨p₁, L₁, fo₁⟩ := enter_loc (s := { s₁ with toks := s₁.toks + 1 }) (ρ := script0 ns) (α := fun _ => 0) I (fun y hy => by cases List.mem_singleton.mp hy; exact .inl hsc) (fun y sv hy => by
    unfold script0 at hy
    split at hy
    · rename_i e; cases hy; subst e
      exact ⟨.ref a, _, by simp, rfl, .lst rfl ⟨oa, ha, hr⟩ (reps_ints hi)⟩
    · cases hy) htk x'
  exact wpAny_mono (h _ _ _ _ (enter_env hgl hbl hnf hk) ⟨p₁.inv, L₁, fun b o _ e => p₁.keep b o id e, fo₁, p₁.inv.os.trans hos, p₁.keep P _ id hP, hP⟩) (fun _ _ x => x) fun _ _ x => x.elim
theorem Jump.of_step (I : Inv W Z s) (p : Step W .none Z s Z₁ s₁) (j : Jump P Z₁ s₁ Z' s') : Jump P Z s Z' s' where
  keep b o hne e := j.keep b o hne (p.keep b o id e)
  zsub a z := j.zsub a (p.zsub a z)
  znew a z := by
    rcases j.znew a z with z | z
    · rcases p.znew a z with z | z | z
      · exact .inl z
      · exact z.elim
      · exact .inr z
    · exact (p.none_back z).elim (fun h => h.elim) .inr
  zin := j.zin
  os := j.os.trans (p.inv.os.trans I.os.symm)
  bare := j.bare
  tk := j.tk
  tab := j.tab
theorem Stage.assign {told meth : Str} {o : Expr} {es : List Expr} {p apos pos pos' : Pos} {f : Slots → Option AV} {fs : Slots → Option (List AV)} {C m : Addr} {G : List AV → Option AV} {fl : List (Str × AV)} {l : List AV} {av : AV}
    (t : Stage P s₁ #[] W env Z s ρ α) (hE : EnvOk env sc) (R : Room A d) (hX : ∀ a, W.X a ↔ a = P)
    (ho : DenP W d sc o f) (hov : f ρ = some (.inst C fl)) (hlk : fl.lookup meth = none) (ha : DenPs W d sc es fs) (hl : fs ρ = some l) (hns : ∀ env pos, (backTo pos (starEach es env)).any (·.1) = false)
    (hg : plainGet W.K C meth = true) (hfi : findIn W.K (.ref C) meth = some (some (.ref m))) (hfn : isFn W.K (.ref m) = true) (hko : KeepOk W (.ref m))
    (pl : Env → Value → Sem Bool) (he : ∀ env, eval (.Call (.Attribute o meth apos) es [] pos) env = (do
      let ov ← eval o env
      standAt apos.atName
      let (f, first) ← holding [ov] (getMethod ov meth (pl env ov))
      callWith pos f first (backTo pos (starEach es env)) []))
    (hs : ∀ env, swapsWith (.Call (.Attribute o meth apos) es [] pos) (some (.Name told p)) pos'.line env = pure false) (hk : Kd sc told)
    (hJ : JSpec W P d (.ref m) G) (hG : G (.inst C fl :: l) = some av) {Q : Flow → Shared → Prop} {E' : Value → Shared → Prop}
    (q : ∀ W' Z' s' α' ps', (∃ h₀ Z₀, W' = W.at h₀ Z₀) → Stage P s₁ ps' W' env Z' s' (ρ.set told (.val av)) α' → Q .next s') :
    wpAny W.M A (exec (.Assign [.Name told p] (.Call (.Attribute o meth apos) es [] pos) pos') env) Q E' s := by
  have I := t.inv
  have L := t.loc
  refine wpAny_Assign_Name ?_ (hs env)
  rw [he env]
  refine wpAny_bind (ho A env Z s ρ α _ R hE I L hov _ _ fun v s₂ Z₂ p₂ r₂ => ?_)
  have r' := r₂
  cases r' with | inst z1 z2 o1 o2 rs =>
  rename_i x' dx ess n
  refine wpAny_bind (wpAny_standAt (wpAny_bind (wpAny_holding (method_fn p₂.inv.kin (od := some (dictOf ess n)) ⟨o1, rfl, rfl, o2⟩ (plainGet_of hg).1 (plainGet_of hg).2 hfi (beq_iff_eq.mp hfn) (by
    show (lookIn meth (dictOf ess n)).map _ = _
    rw [lookIn_dict, rs.no hlk]; rfl) ?_))))
  refine callWith_den (first := [.ref x']) hko ha hns R hE p₂.inv (L.step0 p₂) hl fun vs s₃ Z₃ p₃ r₃ => ?_
  have p := p₂.tr p₃
  refine hJ A Z₃ s₃ (.ref x' :: vs) (.inst C fl :: l) av R p.inv (p.keep P _ id t.tab) (.cons (p₃.rep0 r₂) r₃) hG _ _ fun rv s₄ Z₄ j r₄ => ?_
  have j' := Jump.of_step I p j
  obtain ⟨ps', t'⟩ := t.jump j' hX
  have hw : (W.at (maskH s₄.heap (FOwn env ρ α)) Z₄).M = W.M := rfl
  rw [← hw]
  exact Loc.storeV t'.inv t'.loc hE hk r₄ fun s₅ α₅ p₅ => q _ Z₄ s₅ α₅ ps' ⟨_, _, rfl⟩ (t'.step p₅)
end
end Mine
end
section
set_option linter.unusedVariables false
namespace Mine
section
variable {W : Wd} {Z Z' Z₁ : AddrSet} {s s' s₁ : Shared} {env : Env} {sc : Scope} {ρ ρ' : Slots} {α α' : Str → Addr} {A : Around} {d : Nat}
def locA (f : Addr) (v : AV) (x : Option AV) : Option AV := match v with | .raw (.ref a) => if a = f then x else none | _ => none
theorem locA_hit (f : Addr) (x : Option AV) : locA f (.raw (.ref f)) x = x := if_pos rfl
theorem den_call_localx {x : Str} {np pos : Pos} {es : List Expr} {fs : Slots → Option (List AV)} {f : Addr} {G : List AV → Option AV} (h1 : (x == ("__debug__" : Str)) = false) (hn : (x == ("__classdict__" : Str)) = false) (hfa : ∀ Z s, Inv W Z s → FnAt f s.heap) (ha : DenPs W d sc es fs) (hns : ∀ env pos, (backTo pos (starEach es env)).any (·.1) = false) (hF : FSpec W d (.ref f) G)
    (he : ∀ env, eval (.Call (.Name x np) es [] pos) env = (do callWith pos (← eval (.Name x np) env) [] (backTo pos (starEach es env)) (backToKw pos (keywordEach [] env)))) :
    DenP W d sc (.Call (.Name x np) es [] pos) fun ρ => getV ρ x >>= fun v => locA f v (fs ρ >>= G) := by
  have h := den_call_local (np := np) (pos := pos) h1 hn hfa ha hns hF he
  have e : (fun ρ => getV ρ x >>= fun v => locA f v (fs ρ >>= G)) = fun ρ => getV ρ x >>= fun v => match v with | .raw (.ref a) => if a = f then fs ρ >>= G else none | _ => none := by
    funext ρ
    congr 1
  rw [e]
  exact h
end
end Mine
end
section
set_option linter.unusedVariables false
namespace Mine
section
variable {W : Wd} {Z Z' Z₁ : AddrSet} {s s' s₁ : Shared} {env : Env} {sc : Scope} {ρ ρ' : Slots} {α α' : Str → Addr} {A : Around} {d : Nat}
theorem RepVs.set {h : Heap} {v : Value} {a : AV} (q : RepV Z h v a) : ∀ {vs : List Value} {l : List AV} (n : Nat), RepVs Z h vs l → RepVs Z h (vs.set n v) (l.set n a)
  | vs, [], n, r => by rw [r.nil']; exact .nil
  | vs, b :: l, 0, r => by obtain ⟨u, us, rfl, r, rs⟩ := r.cons'; exact .cons q rs
  | vs, b :: l, n + 1, r => by obtain ⟨u, us, rfl, r, rs⟩ := r.cons'; exact .cons r (rs.set q n)
def putL (l : List AV) (k : Int) (a : AV) : Option (List AV) := if 0 ≤ k then (if k < l.length ∧ l.length ≤ 1000000 then some (l.set k.toNat a) else none) else if -(l.length : Int) ≤ k ∧ l.length ≤ 1000000 then some (l.set (k + l.length).toNat a) else none
theorem put_own {x : Str} {l : OL} {l' : List AV} {k : Int} {t : Tok} {v : Value} {a : AV} (I : Inv W Z s) (L : Loc W Z s.heap env ρ α) (hx : ρ x = some (.own l)) (r : RepV Z s.heap v a) (hp : putL l.items k a = some l') {Q : Unit → Shared → Prop} {E' : Value → Shared → Prop}
    (q : ∀ s', FStep W env Z s ρ α Z s' (ρ.set x (.own ⟨l.place, l'⟩)) α → Q () s') : wpAny W.M A (setItem (.ref (α x)) (.int k t) v) Q E' s := by
  obtain ⟨m, ns, hv⟩ := L.ns
  obtain ⟨_, _, _, vs, ⟨n, hn⟩, rs⟩ := hv x _ hx
  have hlen : vs.toArray.size = l.items.length := by rw [List.size_toArray, rs.length]
  have fin : ∀ j : Nat, l' = l.items.set j a → Q () { s with heap := s.heap.update (α x) (Obj.mapSeq (·.setIfInBounds j v)) } := fun j hj => by
    have h1 := PySem.IsL.update hn (·.setIfInBounds j v)
    have e1 : vs.toArray.setIfInBounds j v = (vs.set j v).toArray := by simp
    refine q _ (L.upd (tk := s.toks) (vs' := vs.set j v) I hx (Heap.SameBut.update ..) ⟨_, by rw [← e1]; exact h1⟩ ?_)
    rw [hj]; exact rs.set r j
  unfold putL at hp
  by_cases h0 : 0 ≤ k
  · rw [if_pos h0] at hp
    obtain ⟨hc, hp⟩ := iteO hp
    exact ki_setAt hn h0 (by (first | lia | omega)) (by (first | lia | omega)) (fin _ (Option.some.inj hp).symm)
  · rw [if_neg h0] at hp
    obtain ⟨hc, hp⟩ := iteO hp
    refine ki_setBack hn (by (first | lia | omega)) (by (first | lia | omega)) (by (first | lia | omega)) ?_
    rw [hlen]
    exact fin _ (Option.some.inj hp).symm
theorem den_augsub {x : Str} {p pos' pos : Pos} {op : Operator} {i value : Expr} {f g : Slots → Option AV} (hv : DenP W d sc value f) (hi : DenP W d sc i g) (h1 : (x == ("__debug__" : Str)) = false) (hn : (x == ("__classdict__" : Str)) = false)
    (ha : ∀ ov iv new, augStore i ov iv new = (do holding [new, ov, iv] (setItem ov iv new); release [new, ov, iv] []; pure .next)) :
    DenS W d sc (.AugAssign (.Subscript (.Name x p) i pos') op value pos) fun ρ => getO ρ x >>= fun l => g ρ >>= fun i => i.int? >>= fun k => idxA (.lst l.items) i >>= fun b => f ρ >>= fun a => augA op b a >>= fun c => putL l.items k c >>= fun l' => some (.next, ρ.set x (.own ⟨l.place, l'⟩)) := by
  intro A env Z s ρ α fl ρ' R hE I L hf Q E' q
  obtain ⟨l, hl, hf⟩ := bindO hf
  obtain ⟨iv, hi', hf⟩ := bindO hf
  obtain ⟨k, hk, hf⟩ := bindO hf
  obtain ⟨b, hb, hf⟩ := bindO hf
  obtain ⟨a, ha', hf⟩ := bindO hf
  obtain ⟨c, hc, hf⟩ := bindO hf
  obtain ⟨l', hp, hf⟩ := bindO hf
  cases hf
  have hx := getO_eq hl
  refine wpAny_AugAssign_Subscript_any (wpAny_Name (L.load hE hx (fun w rw' => ?_) hn) h1) ha
  obtain ⟨rfl, vs, hpl, rs⟩ := rw'
  refine hi A env Z s ρ α iv R hE I L hi' _ _ fun vi s₁ Z₁ p₁ r₁ => ?_
  obtain ⟨t, rfl⟩ := int?_rep hk r₁
  have hki := int?_eq hk
  subst hki
  rw [idxA_lst] at hb
  obtain ⟨hkb, hb⟩ := iteO hb
  have hl₁ : s₁.heap.IsList (α x) vs.toArray := (hpl.at fun o e => p₁.keep _ o id e).isList
  obtain ⟨v, rv, gg⟩ := list_item_gives (W := W) (A := A) (t := t) p₁.inv hl₁ (p₁.reps0 rs) hkb hb
  refine gg _ _ (hv A env Z₁ s₁ ρ α a R hE p₁.inv (L.step0 p₁) ha' _ _ fun va s₂ Z₂ p₂ r₂ => augA_ok p₂.inv (p₂.rep0 rv) r₂ hc _ _ fun vc s₃ Z₃ p₃ r₃ => ?_)
  exact put_own p₃.inv (((L.step0 p₁).step0 p₂).step0 p₃) hx r₃ hp fun s₄ p₄ => q .next s₄ Z₃ α ((FStep.pure L (p₁.tr (p₂.tr p₃))).trans p₄) trivial
end
end Mine
end
section
set_option linter.unusedVariables false
namespace Mine
section
variable {W : Wd} {Z Z' Z₁ Z₀ : AddrSet} {s s' s₁ s₀ : Shared} {env : Env} {sc : Scope} {ρ ρ' ρ₀ : Slots} {α α' α₀ : Str → Addr} {A : Around} {d : Nat}
def IterT (W : Wd) (A : Around) (Z : AddrSet) (s₀ s : Shared) (it : Value) (items : List AV) : Prop :=
  ∃ (I : Addr) (fp wr : List Addr) (P : Nat → Array Value → Prop) (St : Nat → Heap → Prop) (Mid : Nat → Addr → Heap → Prop), it = .ref I ∧ WalksT W.prog W.w A I fp wr items.length P St Mid ∧ St 0 s.heap ∧
    (∀ i vals, P i vals → ∃ l, items[i]? = some (.tup l) ∧ RepVs Z s.heap vals.toList l) ∧ (∀ b ∈ wr, s₀.heap.get? b = none ∧ ¬ Z b) ∧ (∀ b ∈ fp, b ∈ wr ∨ Z b ∨ (s₀.heap.get? b = none ∧ ¬ Z b)) ∧ (∀ i h, St i h → ∀ b ∈ fp, ∃ o, h.get? b = some o)
def DenItT (W : Wd) (d : Nat) (sc : Scope) (e : Expr) (g : Slots → Option (List AV)) : Prop :=
  ∀ (A : Around) (env : Env) (Z : AddrSet) (s : Shared) (ρ : Slots) (α : Str → Addr) (items : List AV), Room A d → EnvOk env sc → Inv W Z s → Loc W Z s.heap env ρ α → g ρ = some items →
    ∀ (Q : Value → Shared → Prop) (E' : Value → Shared → Prop), (∀ x s₁ Z₁, Step W .none Z s Z₁ s₁ → (∀ (Q' : Value → Shared → Prop) (E'' : Value → Shared → Prop), (∀ it s₂ Z₂, Step W .none Z₁ s₁ Z₂ s₂ → IterT W A Z₂ s s₂ it items → Q' it s₂) → wpAny W.M A (pyIter x) Q' E'' s₁) → Q x s₁) →
      wpAny W.M A (eval e env) Q E' s
theorem Step.writes1 (I : Inv W Z s) {wr : List Addr} {h' : Heap} {tk : Nat} {T : Addr} {oT : Obj} (hk : ∀ b o, b ∉ wr → s.heap.get? b = some o → h'.get? b = some o) (hw : ∀ b ∈ wr, W.h₀.get? b = none ∧ ¬ W.X b ∧ ¬ Z b) (hT : s.heap.get? T = none) (hT' : h'.get? T = some oT) (htk : s.toks ≤ tk) : Step W (.addrs (· ∈ wr)) Z s (fun b => Z b ∨ b = T) { s with heap := h', toks := tk } :=
  ⟨⟨I.ok, fun b o e x => hk b o (fun hb => by rw [(hw b hb).1] at e; cases e) (I.base b o e x), fun b x => let ⟨o, e⟩ := I.xs b x; ⟨o, hk b o (fun hb => (hw b hb).2.1 x) e⟩, fun b z => z.elim (fun z => let ⟨o, e⟩ := I.zin b z; ⟨o, hk b o (fun hb => (hw b hb).2.2 z) e⟩) fun e => ⟨oT, e ▸ hT'⟩, I.os, I.bare, fun b z => z.elim (I.zx b) fun e => e ▸ I.fresh_x hT, fun b h => .inl (I.z0 b h), Nat.le_trans I.tk htk⟩,
    fun b o hb e => hk b o hb e, fun _ z => .inl z, fun _ z => z.elim .inl fun e => .inr (.inr (e ▸ hT)), fun _ _ _ e => e⟩
structure ForAtT (W : Wd) (A : Around) (env : Env) (Z : AddrSet) (s : Shared) (fp wr : List Addr) (St : Nat → Heap → Prop) (Mid : Nat → Addr → Heap → Prop) (P : Nat → Array Value → Prop) (n : Nat) (J : Addr) (Z₂ : AddrSet) : Prop where
  I : Inv W Z s
  Wk : WalksT W.prog W.w A J fp wr n P St Mid
  hw : ∀ b ∈ wr, s.heap.get? b = none ∧ ¬ Z₂ b
  hf : ∀ b ∈ fp, b ∈ wr ∨ Z₂ b ∨ (s.heap.get? b = none ∧ ¬ Z₂ b)
  ob : ∀ i h, St i h → ∀ b ∈ fp, ∃ o, h.get? b = some o
structure ForInvT (W : Wd) (env : Env) (Z : AddrSet) (s : Shared) (ρ : Slots) (α : Str → Addr) (fp wr : List Addr) (St : Nat → Heap → Prop) (Z₂ : AddrSet) (s₂ s' : Shared) (i : Nat) (Z' : AddrSet) (ρ₁ : Slots) (α' : Str → Addr) : Prop where
  f : FStep W env Z s ρ α Z' s' ρ₁ α'
  st : St i s'.heap
  w : ∀ b ∈ wr, ¬ FOwn env ρ₁ α' b ∧ ¬ Z' b
  p : ∀ b ∈ fp, ¬ FOwn env ρ₁ α' b
  z : ∀ b o, Z₂ b → s₂.heap.get? b = some o → s'.heap.get? b = some o
  zz : ∀ b, Z₂ b → Z' b
section
variable {fp wr : List Addr} {St : Nat → Heap → Prop} {Mid : Nat → Addr → Heap → Prop} {P : Nat → Array Value → Prop} {n i : Nat} {J : Addr} {Z₂ Z₃ Z₆ : AddrSet} {s₂ s₃ s₆ : Shared} {ρ₃ ρ₆ : Slots} {α₃ α₆ : Str → Addr}
theorem ForInvT.drawn (k : ForAtT W A env Z s fp wr St Mid P n J Z₂) (c : ForInvT W env Z s ρ α fp wr St Z₂ s₂ s₃ i Z₃ ρ₃ α₃) {h' : Heap} {tk : Nat} {j : Nat} {T : Addr} {oT : Obj} (st : St j h') (hk : ∀ b o, b ∉ wr → s₃.heap.get? b = some o → h'.get? b = some o) (htk : s₃.toks ≤ tk) (hT : s₃.heap.get? T = none) (hT' : h'.get? T = some oT) (hTw : T ∉ wr) :
    ForInvT W env Z s ρ α fp wr St Z₂ s₂ { s₃ with heap := h', toks := tk } j (fun b => Z₃ b ∨ b = T) ρ₃ α₃ := by
  have p₄ := Step.writes1 (W := W) c.f.step.inv hk (fun b hb => ⟨k.I.fresh_b (k.hw b hb).1, k.I.fresh_x (k.hw b hb).1, (c.w b hb).2⟩) hT hT' htk
  exact ⟨c.f.other p₄ (fun a ha => ⟨(k.hw a ha).1, c.w a ha⟩) (fun _ h => h), st, fun b hb => ⟨(c.w b hb).1, fun z => z.elim (c.w b hb).2 fun e => hTw (e ▸ hb)⟩, c.p, fun b o z e => hk b o (fun hb => (c.w b hb).2 (c.zz b z)) (c.z b o z e), fun b z => .inl (c.zz b z)⟩
theorem ForInvT.step (k : ForAtT W A env Z s fp wr St Mid P n J Z₂) (c : ForInvT W env Z s ρ α fp wr St Z₂ s₂ s₃ i Z₃ ρ₃ α₃) (p : FStep W env Z₃ s₃ ρ₃ α₃ Z₆ s₆ ρ₆ α₆) : ForInvT W env Z s ρ α fp wr St Z₂ s₂ s₆ i Z₆ ρ₆ α₆ := by
  have hfo : ∀ b ∈ fp, ¬ FOwn env ρ₆ α₆ b := fun b hb fo => by
    obtain ⟨o, e⟩ := k.ob _ _ c.st b hb
    rcases p.fo b fo with h | h
    · exact c.p b hb h
    · rw [e] at h; cases h
  refine ⟨c.f.trans p, k.Wk.frame _ _ _ c.st fun b hb o e => p.step.keep b o (c.p b hb) e, fun b hb => ?_, hfo, fun b o z e => p.step.keep b o (fun fo => c.f.loc.nz b fo (c.zz b z)) (c.z b o z e), fun b z => p.step.zsub b (c.zz b z)⟩
  obtain ⟨o, e⟩ := k.ob _ _ c.st b (k.Wk.sub b hb)
  refine ⟨hfo b (k.Wk.sub b hb), fun z => ?_⟩
  rcases p.step.znew b z with h | h | h
  · exact (c.w b hb).2 h
  · exact (c.w b hb).1 h
  · rw [e] at h; cases h
end
theorem for_loopT {elts : List Expr} {kk : Nat} {tpos : Pos} {body : List Stmt} {T : AV → Slots → Option Slots} {B : Slots → Option (AFlow × Slots)} {items : List AV} {fl : AFlow} {fp wr : List Addr} {St : Nat → Heap → Prop} {Mid : Nat → Addr → Heap → Prop} {P : Nat → Array Value → Prop} {J : Addr} {Z₂ : AddrSet} {s₂ : Shared} {Rr : Result → Shared → Prop}
    (ht : DenTg W d sc (.Tuple elts kk tpos) T) (hb : DenSs W d sc body B) (R : Room A d) (hE : EnvOk env sc) (k : ForAtT W A env Z s fp wr St Mid P items.length J Z₂) (c : ForInvT W env Z s ρ α fp wr St Z₂ s₂ s₂ 0 Z₂ ρ α) (hP : ∀ i vals, P i vals → ∃ l, items[i]? = some (.tup l) ∧ RepVs Z₂ s₂.heap vals.toList l)
    (hf : forA T B items ρ = some (fl, ρ'))
    (q : ∀ f s' Z' α', FStep W env Z s ρ α Z' s' ρ' α' → FlowRep Z' s'.heap f fl → Rr (.ok f) s') : codeAny W.M A (.forLoop (.Tuple elts kk tpos) (.ref J) body [] env) Rr s₂ := by
  refine codeAny_forLoop_any (fun k s' => ∃ Z' ρ₁ α' i, ForInvT W env Z s ρ α fp wr St Z₂ s₂ s' i Z' ρ₁ α' ∧ k = items.length - i ∧ i ≤ items.length ∧ forA T B (items.drop i) ρ₁ = some (fl, ρ')) ?_ items.length ⟨Z₂, ρ, α, 0, c, rfl, Nat.zero_le _, hf⟩
  clear c hf
  rintro _ s₃ ⟨Z₃, ρ₃, α₃, i, c, rfl, hi', hfa⟩
  by_cases hlt : i < items.length
  · refine wpAny_with_toks (Nat.le_refl _) (k.Wk.item i s₃ _ _ hlt c.st fun Tu vals h₁ tk hv hge hTu hmid hk₁ => fun (htk : s₃.toks ≤ tk) => ?_)
    have hTw := k.Wk.apart _ _ _ hmid
    refine k.Wk.go elts kk tpos i Tu _ _ _ hmid fun h' st₄ hk₂ => ?_
    obtain ⟨oT, hoT, hcT, nT, hdT⟩ := hTu
    have hoT' : h'.get? Tu = some oT := hk₂ Tu oT hTw hoT
    have hTn : s₃.heap.get? Tu = none := Heap.get?_none_of_le hge
    have c4 := c.drawn (tk := tk) k st₄ (fun b o hb e => hk₂ b o hb (hk₁ b o hb e)) htk hTn hoT' hTw
    clear c
    obtain ⟨l, ha, ra⟩ := hP i vals hv
    have rT : RepV (fun b => Z₃ b ∨ b = Tu) h' (.ref Tu) (.tup l) := .tup (.inr rfl) ⟨oT, hoT', hcT, nT, hdT⟩ (ra.mono c4.zz c4.z)
    rw [List.drop_eq_getElem_cons hlt, Option.some.inj ((List.getElem?_eq_getElem hlt).symm.trans ha)] at hfa
    unfold forA at hfa
    obtain ⟨ρ₅, h₅, hfa⟩ := bindO hfa
    obtain ⟨⟨fl₆, ρ₆⟩, h₆, hfa⟩ := bindO hfa
    refine ht A env _ _ ρ₃ α₃ _ _ ρ₅ R hE c4.f.step.inv c4.f.loc rT h₅ _ _ fun s₅ Z₅ α₅ f₅ => ?_
    have c5 := c4.step k f₅
    clear c4 f₅ h₅
    refine hb A env Z₅ s₅ ρ₅ α₅ fl₆ ρ₆ R hE c5.f.step.inv c5.f.loc h₆ _ _ fun f s₆ Z₆ α₆ f₆ r₆ => ?_
    have c6 := c5.step k f₆
    have hlt' : items.length - (i + 1) < items.length - i := Nat.sub_lt_sub_left hlt (Nat.lt_succ_self i)
    clear h₆ f₆ c5
    revert hfa
    apply flow_cases r₆
    · exact fun hfa => ⟨items.length - (i + 1), hlt', Z₆, ρ₆, α₆, i + 1, c6, rfl, hlt, hfa⟩
    · intro hfa; cases hfa; exact q .next s₆ Z₆ α₆ c6.f trivial
    · exact fun hfa => ⟨items.length - (i + 1), hlt', Z₆, ρ₆, α₆, i + 1, c6, rfl, hlt, hfa⟩
    · intro v a r hfa; cases hfa; exact q _ s₆ Z₆ α₆ c6.f r
  · have hin : i = items.length := Nat.le_antisymm hi' (Nat.le_of_not_lt hlt)
    rw [hin, List.drop_length] at hfa
    cases hfa
    have hst : St items.length s₃.heap := hin ▸ c.st
    refine wpAny_with_toks (Nat.le_refl _) (k.Wk.done s₃ _ _ hst fun h' tk hk => fun (htk : s₃.toks ≤ tk) => ?_)
    have p₄ : Step W (.addrs (· ∈ wr)) Z₃ s₃ Z₃ { s₃ with heap := h', toks := tk } := .writes c.f.step.inv hk fun b hb => ⟨k.I.fresh_b (k.hw b hb).1, k.I.fresh_x (k.hw b hb).1, (c.w b hb).2⟩
    exact wpAny_execs_nil (q .next _ Z₃ α₃ (c.f.other p₄ (fun a ha => ⟨(k.hw a ha).1, c.w a ha⟩) (fun _ h => h)) trivial)
theorem den_forT {elts : List Expr} {kk : Nat} {tpos : Pos} {iter : Expr} {body : List Stmt} {pos : Pos} {g : Slots → Option (List AV)} {T : AV → Slots → Option Slots} {B : Slots → Option (AFlow × Slots)} (hi : DenItT W d sc iter g) (ht : DenTg W d sc (.Tuple elts kk tpos) T) (hb : DenSs W d sc body B) (hs : ∀ env x, foldedSetIterable iter env x = pure x) :
    DenS W d sc (.For (.Tuple elts kk tpos) iter body [] pos) fun ρ => g ρ >>= fun items => forA T B items ρ := by
  intro A env Z s ρ α fl ρ' R hE I L hf Q E' q
  obtain ⟨items, hit, hf⟩ := bindO hf
  refine wpAny_For (hi A env Z s ρ α items R hE I L hit _ _ fun x s₁ Z₁ p₁ hx => hx _ _ fun it s₂ Z₂ p₂ hI => ?_) (hs env)
  obtain ⟨J, fp, wr, P, St, Mid, rfl, Wk, st, hP, hwr, hfp, hob⟩ := hI
  have fs := (FStep.pure L p₁).trans (FStep.pure (L.step0 p₁) p₂)
  have hn : ∀ b, s.heap.get? b = none → ¬ FOwn env ρ α b := fun b h f => by obtain ⟨o, e⟩ := L.alive f; rw [h] at e; cases e
  refine for_loopT ht hb R hE ⟨I, Wk, hwr, hfp, hob⟩ ⟨fs, st, fun b hb => ⟨hn b (hwr b hb).1, (hwr b hb).2⟩, fun b hb => ?_, fun _ _ _ e => e, fun _ z => z⟩ hP hf q
  rcases hfp b hb with h | h | h
  · exact hn b (hwr b h).1
  · exact fun f => fs.loc.nz b f h
  · exact hn b h.1
def zipA : List AV → List AV → List AV
  | a :: l, b :: m => .tup [a, b] :: zipA l m
  | _, _ => []
theorem zipA_get : ∀ (l m : List AV) (i : Nat) {a b : AV}, l[i]? = some a → m[i]? = some b → (zipA l m)[i]? = some (.tup [a, b])
  | [], _, _, _, _, h, _ => by simp at h
  | _ :: _, [], _, _, _, _, h => by simp at h
  | a :: l, b :: m, 0, _, _, h, h' => by simp at h h'; subst h h'; rfl
  | a :: l, b :: m, i + 1, _, _, h, h' => by simpa [zipA] using zipA_get l m i (by simpa using h) (by simpa using h')
theorem zipA_length : ∀ (l m : List AV), (zipA l m).length = min l.length m.length
  | [], _ => by simp [zipA]
  | _ :: _, [] => by simp [zipA]
  | a :: l, b :: m => by simp only [zipA, List.length_cons, zipA_length l m]; (first | lia | omega)
def zipF (l : List AV) : Option (List AV) := match l with
  | [.lst a, .lst b] => some (zipA a b)
  | _ => none
theorem it_zip {np pos : Pos} {es : List Expr} {fs : Slots → Option (List AV)} (hg : W.Glob "zip" (.type "zip")) (hk : sc.names.lookup ("zip" : Str) = some .globalImplicit) (ha : DenPs W d sc es fs) (hns : ∀ env pos, (backTo pos (starEach es env)).any (·.1) = false) :
    DenItT W d sc (.Call (.Name "zip" np) es [] pos) fun ρ => fs ρ >>= zipF := by
  intro A env Z s ρ α items R hE I L hf Q E' q
  obtain ⟨l, hl, hf⟩ := bindO hf
  show wpAny _ _ (do callWith pos (← eval (.Name "zip" np) env) [] (backTo pos (starEach es env)) (backToKw pos (keywordEach [] env))) _ _ _
  refine wpAny_bind (load_glob hE I hg hk (by decide) (callWith_den (keep_type "zip") ha hns R hE I L hl fun vs s₁ Z₁ p₁ r₁ => ?_))
  unfold zipF at hf
  split at hf
  · rename_i a b
    cases hf
    obtain ⟨v1, v2, rfl, ra, rb⟩ := r₁.two
    obtain ⟨l1, xs, rfl, z1, hl1, rx⟩ := ra.lst'
    obtain ⟨l2, ys, rfl, z2, hl2, ry⟩ := rb.lst'
    refine call_zip_2 hl1 hl2 fun h' hz hTI hTO hi1 hi2 hsz hk' => ?_
    have p₂ : Step W .none Z₁ s₁ Z₁ { s₁ with heap := h' } := .grow p₁.inv (tk := s₁.toks) hk'
    have hlt1 : l1 < s₁.heap.objs.size := by obtain ⟨o, ho, _⟩ := hl1; exact Heap.lt_size ho
    have hlt2 : l2 < s₁.heap.objs.size := by obtain ⟨o, ho, _⟩ := hl2; exact Heap.lt_size ho
    refine q _ _ Z₁ (p₁.tr p₂) fun Q' E'' q' => wpAny_pyIter_zip hz (q' _ _ Z₁ (.id p₂.inv) ?_)
    have hn : ∀ b, s₁.heap.objs.size ≤ b → s.heap.get? b = none ∧ ¬ Z₁ b := fun b hb => ⟨(p₁.none_back (Heap.get?_none_of_le hb)).resolve_left id, p₁.inv.fresh_z (Heap.get?_none_of_le hb)⟩
    have Wk := WalksT.zip2 (prog := W.prog) (w := W.w) R.handled _ _ _ _ _ _ _ (ktu_apart _ _ _ hlt1 hlt2) xs.toArray ys.toArray
    rw [show min xs.toArray.size ys.toArray.size = (zipA a b).length by rw [zipA_length, List.size_toArray, List.size_toArray, rx.length, ry.length]] at Wk
    refine ⟨_, _, _, _, _, _, rfl, Wk, ⟨hz, hTI, ⟨_, _, hTO⟩, hi1, hi2, hl1.at fun o e => hk' _ o e, hl2.at fun o e => hk' _ o e⟩, ?_, ?_, ?_, ?_⟩
    · rintro i vals ⟨x, y, hx, hy, rfl⟩
      obtain ⟨a', ha', ra'⟩ := rx.back hx
      obtain ⟨b', hb', rb'⟩ := ry.back hy
      exact ⟨[a', b'], zipA_get _ _ i ha' hb', .cons (p₂.rep0 ra') (.cons (p₂.rep0 rb') .nil)⟩
    · intro b hb
      refine hn b ?_
      simp only [List.mem_cons, List.not_mem_nil, or_false] at hb
      rcases hb with rfl | rfl | rfl | rfl <;> first | exact Nat.le_add_right _ _ | exact Nat.le_refl _
    · intro b hb
      simp only [List.mem_cons, List.not_mem_nil, or_false] at hb
      rcases hb with rfl | rfl | rfl | rfl | rfl | rfl | rfl
      · exact .inl (by simp)
      · exact .inr (.inr (hn _ (Nat.le_add_right _ _)))
      · exact .inl (by simp)
      · exact .inl (by simp)
      · exact .inl (by simp)
      · exact .inr (.inl z1)
      · exact .inr (.inl z2)
    · rintro i h ⟨g1, g2, ⟨_, _, g3⟩, ⟨o4, g4, _⟩, ⟨o5, g5, _⟩, ⟨o6, g6, _⟩, ⟨o7, g7, _⟩⟩ b hb
      simp only [List.mem_cons, List.not_mem_nil, or_false] at hb
      rcases hb with rfl | rfl | rfl | rfl | rfl | rfl | rfl
      · exact ⟨_, g1⟩
      · exact ⟨_, g2⟩
      · exact ⟨_, g3⟩
      · exact ⟨_, g4⟩
      · exact ⟨_, g5⟩
      · exact ⟨_, g6⟩
      · exact ⟨_, g7⟩
  · cases hf
end
end Mine
end
section
set_option linter.unusedVariables false
namespace Mine
section
variable {W : Wd} {Z Z' Z₁ : AddrSet} {s s' s₁ : Shared} {env : Env} {sc : Scope} {ρ ρ' : Slots} {α α' : Str → Addr} {A : Around} {d : Nat}
def TabAt (P : Addr) (pos : Pos) (q : Str) (h : Heap) : Prop := ∃ c', h.get? P = some (tabObj #[rawInt pos.line, rawInt pos.col, .ref c']) ∧ h.CodeRec (.ref c') q
theorem codeRec_keep {h h' : Heap} {c : Value} {q : Str} (r : h.CodeRec c q) (hk : ∀ b o vs, o.data = .fields vs → h.get? b = some o → h'.get? b = some o) : h'.CodeRec c q := by
  obtain ⟨c₂, oc, vs, t, e2, hoc, hd, hv⟩ := r
  exact ⟨c₂, oc, vs, t, e2, hk _ _ _ hd hoc, hd, hv⟩
theorem TabAt.keep {P : Addr} {pos : Pos} {q : Str} {h h' : Heap} (t : TabAt P pos q h) (hk : ∀ b o vs, o.data = .fields vs → h.get? b = some o → h'.get? b = some o) : TabAt P pos q h' :=
  let ⟨c', e, r⟩ := t; ⟨c', hk _ _ _ rfl e, codeRec_keep r hk⟩
theorem Wd.from_ok' {g : Heap} {own : Addr → Prop} (ok : W.Ok) (hkeep : ∀ b o, ¬ W.X b → W.h₀.get? b = some o → g.get? b = some o) (hown : ∀ a, own a → W.h₀.get? a = none) : (W.at (maskH g own) Z).Ok := by
  have hx : ∀ {a : Addr} {o : Obj}, ¬ W.X a → W.h₀.get? a = some o → (maskH g own).get? a = some o := fun {a o} hne e => by
    rw [maskH_out fun h => by rw [hown a h] at e; cases e]
    exact hkeep a o hne e
  have nsx : ∀ {a : Addr} {m : Str → Option Value}, ¬ W.X a → W.h₀.Ns a m → (maskH g own).Ns a m := fun {a m} hne ⟨o, es, ep, e, r⟩ => ⟨o, es, ep, hx hne e, r⟩
  refine ⟨nsx (fun e => (ok.xk _ e).2.1 rfl) ok.g, nsx (fun e => (ok.xk _ e).2.2.1 rfl) ok.b, ?_, ?_, ok.builtins, fun a o e => hx (fun q => by have e' : W.K.lookup a = some o := e; rw [(ok.xk a q).1] at e'; cases e') (ok.kin a o e), fun a h => h.elim⟩
  · obtain ⟨mc, h1, h2⟩ := ok.nolimit
    exact ⟨mc, nsx (fun e => (ok.xk _ e).2.2.2 rfl) h1, h2⟩
  · obtain ⟨mc, h1, h2⟩ := ok.nodigits
    exact ⟨mc, nsx (fun e => (ok.xk _ e).2.2.2 rfl) h1, h2⟩
theorem Inv.rebase' {g : Heap} {own : Addr → Prop} {tk : Nat} (I : Inv W Z s) (hkeep : ∀ b o, ¬ W.X b → s.heap.get? b = some o → g.get? b = some o) (hown : ∀ a, own a → W.h₀.get? a = none) (htk : s.toks ≤ tk) : Inv (W.at (maskH g own) Z) Z { s with heap := g, toks := tk } :=
  ⟨Wd.from_ok' I.ok (fun b o hne e => hkeep b o hne (I.base b o e hne)) hown, fun b o e _ => (maskH_some e).2, fun _ h => h.elim, fun a z => let ⟨o, e⟩ := I.zin a z; ⟨o, hkeep a o (I.zx a z) e⟩, I.os, I.bare, fun _ _ h => h, fun _ h => h, Nat.le_trans I.tk htk⟩
theorem Loc.rebase' {g : Heap} {own : Addr → Prop} (I : Inv W Z s) (L : Loc W Z s.heap env ρ α) (hkeep : ∀ b o, ¬ W.X b → s.heap.get? b = some o → g.get? b = some o) (hown : ∀ a, FOwn env ρ α a → own a) : Loc (W.at (maskH g own) Z) Z g env ρ α := by
  have kz : ∀ c o, Z c → s.heap.get? c = some o → g.get? c = some o := fun c o z e => hkeep c o (I.zx c z) e
  have kf : ∀ c o, FOwn env ρ α c → s.heap.get? c = some o → g.get? c = some o := fun c o f e => hkeep c o (L.nb c f).2 e
  have kc : ∀ x c o, env.cells.lookup x = some c → s.heap.get? c = some o → g.get? c = some o := fun x c o hc e => by
    by_cases q : x = frz
    · exact kz c o (L.slf c (q ▸ hc)) e
    · exact kf c o (.inr (.inl ⟨x, q, hc⟩)) e
  obtain ⟨m, ⟨o, es, ep, e, r⟩, hv⟩ := L.ns
  refine ⟨⟨m, ⟨o, es, ep, kf _ _ (.inl rfl) e, r⟩, fun x sv hx => ?_⟩, L.nz, fun a f => ⟨maskH_in (hown a f), id⟩, L.fix, L.inj, fun x c hc => ?_, L.cinj, L.slf⟩
  · obtain ⟨v, a, r⟩ := hv x sv hx
    refine ⟨v, a.mono kc, ?_⟩
    cases sv with
    | val av => exact RepV.mono (fun _ z => z) kz r
    | own l => obtain ⟨e, vs, ⟨n, hn⟩, rs⟩ := r; exact ⟨e, vs, ⟨n, kf _ _ (.inr (.inr ⟨x, l, hx, rfl⟩)) hn⟩, rs.mono (fun _ z => z) kz⟩
  · obtain ⟨v, o, e, dd⟩ := L.cell x c hc; exact ⟨v, o, kc x c o hc e, dd⟩
theorem exec_inner {name : Str} {params : Arguments} {body : List Stmt} {scope : Scope} {pos : Pos} {c P : Addr} {clos : List (Str × Addr)} {qual : Str} (I : Inv W Z s) (L : Loc W Z s.heap env ρ α) (hE : EnvOk env sc) (hX : ∀ a, W.X a → a = P) (hq : qualnameIn env name name = qual)
    (hd0 : params.defaults = []) (hk0 : params.kw_defaults = []) (ha : annTrees params none env = []) (hcl : closureFor scope env = pure clos) (hcode : env.code = .ref c) (C : CodeHd s.heap c P) (hT : (W.X P ∧ s.heap.get? P = some (tabObj #[])) ∨ TabAt P pos qual s.heap) (hb : s.heap.BuiltinsAt W.mg P) (hgP : mainGlobals ≠ P)
    (hk : Kd sc name) {Q : Flow → Shared → Prop} {E' : Value → Shared → Prop}
    (q : ∀ (fn c' : Addr) (ctv doc : Value) (g : Heap) (tk : Nat) (s' : Shared) (α' : Str → Addr), (∀ b o, ¬ W.X b → s.heap.get? b = some o → g.get? b = some o) → (∀ a, g.get? a = none → s.heap.get? a = none) → s.heap.get? fn = none → TabAt P pos qual g →
      g.get? fn = some (fnMade name qual params body scope clos doc ((W.mg "__name__").getD .none) c' ctv) → g.CodeRec (.ref c') qual → ¬ FOwn env ρ α fn →
      FStep (W.at (maskH g (FOwn env ρ α)) Z) env Z { s with heap := g, toks := tk } ρ α Z s' (ρ.set name (.val (.raw (.ref fn)))) α' → Q .next s') :
    wpAny W.M A (exec (.FunctionDef name params body [] none [] scope none name pos) env) Q E' s := by
  have fin : ∀ (c' : Addr) (ctv doc : Value) (h' : Heap) (tk : Nat), s.toks ≤ tk → (∀ b o, ¬ W.X b → s.heap.get? b = some o → h'.get? b = some o) → (∀ a, h'.get? a = none → s.heap.get? a = none) → s.heap.objs.size ≤ h'.objs.size → h'.CodeRec (.ref c') qual → TabAt P pos qual h' →
      wpAny W.M A (storeName env name (.ref h'.objs.size)) (fun _ s'' => Q .next s'') E' { s with heap := h'.push (fnMade name qual params body scope clos doc ((W.mg "__name__").getD .none) c' ctv), toks := tk } := fun c' ctv doc h' tk htk hx hx0 hsz hrec htb => by
    have hkeep : ∀ b o, ¬ W.X b → s.heap.get? b = some o → (h'.push (fnMade name qual params body scope clos doc ((W.mg "__name__").getD .none) c' ctv)).get? b = some o := fun b o hne e => Heap.get?_push_of_some _ (hx b o hne e)
    have hown : ∀ a, FOwn env ρ α a → W.h₀.get? a = none := fun a f => (L.nb a f).1
    have hfn : s.heap.get? h'.objs.size = none := Heap.get?_none_of_le hsz
    have hnf : ¬ FOwn env ρ α h'.objs.size := fun f => by obtain ⟨o, e⟩ := L.alive f; rw [hfn] at e; cases e
    have I' := I.rebase' (g := h'.push (fnMade name qual params body scope clos doc ((W.mg "__name__").getD .none) c' ctv)) (own := FOwn env ρ α) (tk := tk) hkeep hown htk
    have L' := Loc.rebase' (g := h'.push (fnMade name qual params body scope clos doc ((W.mg "__name__").getD .none) c' ctv)) (own := FOwn env ρ α) I L hkeep fun _ f => f
    have hw : (W.at (maskH (h'.push (fnMade name qual params body scope clos doc ((W.mg "__name__").getD .none) c' ctv)) (FOwn env ρ α)) Z).M = W.M := rfl
    rw [← hw]
    refine Loc.storeV I' L' hE hk (.raw (.ref h'.objs.size)) fun s' α' p => ?_
    refine q h'.objs.size c' ctv doc _ tk s' α' hkeep (fun a e => hx0 a ?_) hfn (htb.keep fun b o _ _ e => Heap.get?_push_of_some _ e) (Heap.get?_push_size _ rfl) (codeRec_keep hrec fun b o _ _ e => Heap.get?_push_of_some _ e) hnf p
    cases e' : h'.get? a with
    | none => rfl
    | some o => rw [Heap.get?_push_of_some _ e'] at e; cases e
  rcases hT with ⟨hxP, hP⟩ | ⟨c', hP, hrec⟩
  · refine nestDef_K hd0 hk0 ha (wpAny_with_toks (Nat.le_refl _) (makeFunction_K (mg := W.mg) hcl hE.globals I.g hcode C hP trivial rfl hgP hb fun c' ctv doc h' tk hx hge hlt hrec htb => fun (htk : s.toks ≤ tk) => ?_))
    rw [hq] at hrec ⊢
    have htb' : h'.get? P = some (tabObj #[rawInt pos.line, rawInt pos.col, .ref c']) := by rw [htb, Array.empty_append]
    refine fin c' ctv doc h' tk htk (fun b o hne e => hx b o (fun e' => hne (e' ▸ hxP)) e) (fun a e => ?_) (Nat.le_of_lt (Nat.lt_of_le_of_lt hge hlt)) hrec ⟨c', htb', hrec⟩
    cases e' : s.heap.get? a with
    | none => rfl
    | some o =>
      by_cases hp : a = P
      · rw [hp, htb'] at e; cases e
      · rw [hx a o hp e'] at e; cases e
  · refine nestDef_K hd0 hk0 ha (wpAny_with_toks (Nat.le_refl _) (makeFunction_hit (mg := W.mg) (cv := .ref c') hcl hE.globals I.g hcode C hP trivial (codeAmong_snoc [] trivial rfl) hb fun ctv doc h' tk hx hsz => fun (htk : s.toks ≤ tk) => ?_))
    rw [hq]
    refine fin c' ctv doc h' tk htk (fun b o _ e => hx b o e) (fun a e => ?_) hsz (codeRec_keep hrec fun b o _ _ e => hx b o e) ⟨c', hx _ _ hP, codeRec_keep hrec fun b o _ _ e => hx b o e⟩
    cases e' : s.heap.get? a with
    | none => rfl
    | some o => rw [hx a o e'] at e; cases e
structure MakerF (W : Wd) (f c P : Addr) (qual : Str) (fd : FuncData) (names : List Str) (name : Str) (params : Arguments) (ibody : List Stmt) (iscope : Scope) (pos : Pos) (rest : List Stmt) (inames : List Str) : Prop where
  fn : FnC W f fd (.FunctionDef name params ibody [] none [] iscope none name pos :: rest)
  bind : ∀ (vals : List Value), vals.length = names.length → bindArgs fd ⟨vals, []⟩ = pure (names.zip vals)
  loc : ∀ x ∈ names, fd.scope.names.lookup x = some .local ∨ fd.scope.names.lookup x = some .cell
  self : fd.scope.names.lookup frz = some .cell
  qual : ∀ L, qualnameIn (callEnvC fd L f) name name = qual
  code : fd.code = .ref c
  codeHd : codeHdIn W.K c P = true
  d0 : params.defaults = []
  k0 : params.kw_defaults = []
  ann : ∀ env, annTrees params none env = []
  kd : Kd fd.scope name
  inocell : ∀ x ∈ iscope.names, x.2 ≠ .cell
  ifree : ∀ x, iscope.names.lookup x = some .free → x = frz
  ihfree : iscope.names.lookup frz = some .free
  ifrees : iscope.names.filter (fun x => x.2 == .free) = [(frz, .free)]
  ikind : iscope.kind = .function
  ico : iscope.isCoroutine = false
  igen : iscope.isGenerator = false
  ibind : ∀ (qual : Str) (clos : List (Str × Addr)) (doc pm : Value) (c' : Addr) (ctv : Value) (s : Shared) (vals : List Value), vals.length = inames.length → BindsTo s (fnX name qual params ibody iscope clos .none .none doc pm none (.ref c') ctv) ⟨vals, []⟩ (inames.zip vals)
  iloc : ∀ x ∈ inames, iscope.names.lookup x = some .local
  inot : frz ∉ inames
structure Leap (W : Wd) (Z : AddrSet) (s : Shared) (Z' : AddrSet) (s' : Shared) : Prop where
  keep : ∀ b o, ¬ W.X b → s.heap.get? b = some o → s'.heap.get? b = some o
  zsub : ∀ a, Z a → Z' a
  znew : ∀ a, Z' a → Z a ∨ s.heap.get? a = none
  zin : ∀ a, Z' a → ∃ o, s'.heap.get? a = some o
  os : s'.os = s.os
  bare : AllBare s'.gens
  tk : 1 ≤ s'.toks
  gens : ∀ (i : Nat) x, s.gens[i]? = some x → s'.gens[i]? = some x
theorem enter_maker {f c P : Addr} {qual : Str} {fd : FuncData} {names : List Str} {name : Str} {params : Arguments} {ibody : List Stmt} {iscope : Scope} {pos : Pos} {rest : List Stmt} {inames : List Str} {vals : List Value} {args : List AV} {me : AV}
    (k : MakerF W f c P qual fd names name params ibody iscope pos rest inames) (hX : ∀ a, W.X a → a = P) (hroom : A.depth < recursionLimit) (I : Inv W Z s) (hT : (W.X P ∧ s.heap.get? P = some (tabObj #[])) ∨ TabAt P pos qual s.heap) (hbu : s.heap.BuiltinsAt W.mg P) (hPg : mainGlobals ≠ P) (r : RepVs Z s.heap vals args) (hlen : args.length = names.length) (hme : bindA names args frz = some (.val me))
    {Q : Value → Shared → Prop} {E' : Value → Shared → Prop}
    (h : ∀ (env : Env) (h₀ : Heap) (Z₁ : AddrSet) (fn cs : Addr) (v : Value) (fdI : FuncData) (s₂ : Shared) (α₂ : Str → Addr), EnvOk env fd.scope → FnS (W.at h₀ Z₁) fn cs fdI ibody v me → fdI.scope = iscope → (∀ s (vals : List Value), vals.length = inames.length → BindsTo s fdI ⟨vals, []⟩ (inames.zip vals)) →
      (∀ Z s, Inv (W.at h₀ Z₁) Z s → FnAt fn s.heap) → Inv (W.at h₀ Z₁) Z₁ s₂ → Loc (W.at h₀ Z₁) Z₁ s₂.heap env ((bindA names args).set name (.val (.raw (.ref fn)))) α₂ → (∀ a, Z a → Z₁ a) → (∀ a o, Z a → s.heap.get? a = some o → s₂.heap.get? a = some o) →
      (∀ s₃ Z₃, Step (W.at h₀ Z₁) (.addrs (FOwn env ((bindA names args).set name (.val (.raw (.ref fn)))) α₂)) Z₁ s₂ Z₃ s₃ → Leap W Z s Z₃ s₃ ∧ TabAt P pos qual s₃.heap) →
      wpAny W.M (A.deeper env) (execs rest env) (fun f s' => Q (match f with | .ret v => v | _ => .none) s') (fun e s' => wpAny W.M (A.deeper env) (leaving env e) (fun _ s'' => E' e s'') (fun e' s'' => E' e' s'') s') s₂) :
    wpAny W.M A (call (.ref f) vals) Q E' s := by
  obtain ⟨o, hk, hd⟩ := k.fn.look
  have hz : ∀ x ∈ names.zip vals, fd.scope.names.lookup x.1 = some .local ∨ fd.scope.names.lookup x.1 = some .cell := fun x hx => k.loc _ (List.of_mem_zip (show (x.1, x.2) ∈ _ from hx)).1
  refine wpAny_call (call_cells hroom (I.kin _ _ hk) hd I.nolimit (codeRec_of I.kin k.fn.code) k.fn.body (k.bind vals (r.length.trans hlen)) k.fn.closure (fun x hx => (hz x hx).imp id fun h => ⟨h, cells_acc _ _ _ (.inr h)⟩) (fun s₁ htk x => ?_) k.fn.co k.fn.gen k.fn.kind)
  obtain ⟨p₁, L₁, fo₁⟩ := enter_loc (ρ := bindA names args) (α := fun _ => 0) I hz (fun y sv hy => by
    obtain ⟨b, hb1, e⟩ := Option.map_eq_some_iff.mp hy
    obtain ⟨v, hv, rv⟩ := (zip_look r names y).1 b hb1
    exact ⟨v, b, hv, e.symm, rv⟩) htk x
  have hE := enter_env (f := f) (L := s.heap.objs.size) k.fn.globals k.fn.builtins k.fn.nofree k.fn.kind
  have hcode : (callEnvC fd s.heap.objs.size f).code = .ref c := k.code
  have hq := k.qual s.heap.objs.size
  obtain ⟨cs, hcs⟩ := Option.isSome_iff_exists.mp (cells_acc (x := frz) fd.scope.names (s.heap.objs.size + 1) [] (.inr k.self))
  have hcs : (callEnvC fd s.heap.objs.size f).cells.lookup frz = some cs := hcs
  have hkf : (callEnvC fd s.heap.objs.size f).kindOf frz = some .cell := k.self
  clear x hz
  generalize callEnvC fd s.heap.objs.size f = env at *
  have hcl : closureFor iscope env = pure [(frz, cs)] := by
    rw [closureFor_eq fun n hn => ?_, closeL_filter, k.ifrees]
    · show pure [(frz, (env.cells.lookup frz).getD 0)] = _; rw [hcs]; rfl
    · have : (n, NameKind.free) ∈ iscope.names.filter (fun x => x.2 == .free) := List.mem_filter.mpr ⟨hn, rfl⟩
      rw [k.ifrees] at this
      cases List.mem_singleton.mp this
      exact ⟨cs, hcs⟩
  have hT₁ : (W.X P ∧ s₁.heap.get? P = some (tabObj #[])) ∨ TabAt P pos qual s₁.heap := hT.imp (fun h => ⟨h.1, p₁.keep P _ id h.2⟩) fun h => h.keep fun b o _ _ e => p₁.keep b o id e
  refine wpAny_execs_cons (exec_inner p₁.inv L₁ hE hX hq k.d0 k.k0 (k.ann _) hcl hcode (codeHd_of_K p₁.inv.kin k.codeHd) hT₁ (hbu.keeps fun b o e => p₁.keep b o id e) hPg k.kd fun fn c' ctv doc g tk s₂ α₂ hkeep hgn hfn htab hfnobj hcr hnf p₂ => ?_)
  have hzs : withSelf Z env cs := .inr hcs
  have Lg := Loc.rebase' (g := g) (own := FOwn env (bindA names args) fun _ => 0) p₁.inv L₁ hkeep fun _ f => f
  obtain ⟨m, ns, hv⟩ := L₁.ns
  obtain ⟨v, hat, rv⟩ := hv frz _ hme
  have rv : RepV (withSelf Z env) s₁.heap v me := rv
  have hcell : s₁.heap.IsCell cs (some v) := by
    rcases hat with ⟨e, _⟩ | ⟨_, c₂, e2, e3⟩
    · rw [hkf] at e; cases e
    · rw [hcs] at e2; cases e2; exact e3
  have km : ∀ a o, withSelf Z env a → s₁.heap.get? a = some o → (maskH g (FOwn env (bindA names args) fun _ => 0)).get? a = some o := fun a o z e => by
    rw [maskH_out fun f => L₁.nz a f z]; exact hkeep a o (p₁.inv.zx a z) e
  have kS : FnS (W.at (maskH g (FOwn env (bindA names args) fun _ => 0)) (withSelf Z env)) fn cs (fnX name qual params ibody iscope [(frz, cs)] .none .none doc ((W.mg "__name__").getD .none) none (.ref c') ctv) ibody v me := by
    refine ⟨⟨_, (maskH_out hnf).trans hfnobj, rfl⟩, fun _ h => h, ?_, rfl, rfl, rfl, rfl, k.inocell, k.ifree, k.ihfree, k.ikind, k.ico, k.igen, hzs, ?_, ?_⟩
    · obtain ⟨c₂, oc, vs, t, e2, hoc, hd', hv'⟩ := hcr
      exact ⟨c₂, oc, vs, t, e2, (maskH_out fun f => Lg.nofields f hoc hd').trans hoc, hd', hv'⟩
    · obtain ⟨o, e, d'⟩ := hcell; exact ⟨o, km _ _ hzs e, d'⟩
    · exact rv.mono (fun _ z => z) km
  have gn : ∀ a, g.get? a = none → s.heap.get? a = none := fun a e => by
    cases e' : s.heap.get? a with
    | none => rfl
    | some o => have := hgn a e; rw [p₁.keep a o id e'] at this; cases this
  have fo₂ : ∀ a, FOwn env ((bindA names args).set name (.val (.raw (.ref fn)))) α₂ a → s.heap.get? a = none := fun a f => (p₂.fo a f).elim (fo₁ a) (gn a)
  refine h env _ _ fn cs v _ s₂ α₂ hE kS rfl (fun s vals hv => k.ibind _ _ _ _ _ _ s vals hv) (fun Z s I' => ⟨_, _, _, _, I'.base fn _ ((maskH_out hnf).trans hfnobj) id⟩) p₂.step.inv p₂.loc (fun a z => .inl z) (fun a o z e => ?_) fun s₃ Z₃ p₃ => ⟨⟨fun b o hne e => ?_, fun a z => p₃.zsub a (.inl z), fun a z => ?_, p₃.inv.zin, p₃.inv.os.trans I.os.symm, p₃.inv.bare, p₃.inv.tk, fun i x e => p₃.gens i x id (p₂.step.gens i x id (p₁.gens i x id e))⟩, ?_⟩
  · exact p₂.step.keep a o (fun f => by rw [fo₁ a f] at e; cases e) (hkeep a o (I.zx a z) (p₁.keep a o id e))
  · exact p₃.keep b o (fun f => by rw [fo₂ b f] at e; cases e) (p₂.step.keep b o (fun f => by rw [fo₁ b f] at e; cases e) (hkeep b o hne (p₁.keep b o id e)))
  · rcases p₃.znew a z with z | z | z
    · rcases p₁.znew a z with z | z | z
      · exact .inl z
      · exact z.elim
      · exact .inr z
    · exact .inr (fo₂ a z)
    · rcases p₂.step.none_back z with z | z
      · exact .inr (fo₁ a z)
      · exact .inr (gn a z)
  · exact (htab.keep fun b o vs hd e => p₂.step.keep b o (fun f => Lg.nofields f e hd) e).keep fun b o vs hd e => p₃.keep b o (fun f => p₂.loc.nofields f e hd) e
theorem maker_run {f c P : Addr} {qual : Str} {fd : FuncData} {names : List Str} {name : Str} {params : Arguments} {ibody : List Stmt} {iscope : Scope} {pos : Pos} {rest : List Stmt} {inames : List Str} {FI : Slots → Option (AFlow × Slots)} {FR : Addr → (List AV → Option AV) → Slots → Option (AFlow × Slots)} {G : List AV → Option AV}
    (k : MakerF W f c P qual fd names name params ibody iscope pos rest inames) (hX : ∀ a, W.X a → a = P)
    (hI : ∀ h₀ Z₀, DenSs (W.at h₀ Z₀) d iscope ibody FI)
    (hR : ∀ h₀ Z₀ fn GE, FSpec (W.at h₀ Z₀) (d + 1) (.ref fn) GE → (∀ Z s, Inv (W.at h₀ Z₀) Z s → FnAt fn s.heap) → DenSs (W.at h₀ Z₀) (d + 1) fd.scope rest (FR fn GE))
    (hG : ∀ args av, G args = some av → args.length = names.length ∧ ∃ me, bindA names args frz = some (.val me) ∧ ∀ fn, ∃ ρ', FR fn (fun as => if as.length = inames.length then (FI ((bindA inames as).set frz (.val me))).map fun r => retA r.1 else none) ((bindA names args).set name (.val (.raw (.ref fn)))) = some (.ret av, ρ'))
    {vals : List Value} {args : List AV} {av : AV} (R : Room A (d + 2)) (I : Inv W Z s) (hT : (W.X P ∧ s.heap.get? P = some (tabObj #[])) ∨ TabAt P pos qual s.heap) (hbu : s.heap.BuiltinsAt W.mg P) (hPg : mainGlobals ≠ P) (r : RepVs Z s.heap vals args) (h : G args = some av)
    {Q : Value → Shared → Prop} {E' : Value → Shared → Prop} (q : ∀ rv s' Z', Leap W Z s Z' s' → TabAt P pos qual s'.heap → RepV Z' s'.heap rv av → Q rv s') : wpAny W.M A (call (.ref f) vals) Q E' s := by
  obtain ⟨hlen, me, hme, hfin⟩ := hG args av h
  refine enter_maker k hX R.lt I hT hbu hPg r hlen hme fun env h₀ Z₁ fn cs v fdI s₂ α₂ hE kS hsc hbi hfa I₂ L₂ _ _ back => ?_
  have spec := clo_spec (d := d) (names := inames) kS hbi (by rw [hsc]; exact k.iloc) k.inot (by rw [hsc]; exact hI _ _)
  obtain ⟨ρ', hF⟩ := hfin fn
  refine hR _ _ fn _ spec hfa _ env _ s₂ _ α₂ (.ret av) ρ' (R.deeper _) hE I₂ L₂ hF _ _ fun fl s₃ Z₃ α₃ p₃ r₃ => ?_
  cases fl <;> try exact r₃.elim
  obtain ⟨lp, tb⟩ := back s₃ Z₃ p₃.step
  exact q _ s₃ Z₃ lp tb r₃
theorem maker_again {f c P : Addr} {qual : Str} {fd : FuncData} {names : List Str} {name : Str} {params : Arguments} {ibody : List Stmt} {iscope : Scope} {pos : Pos} {rest : List Stmt} {inames : List Str} {FI : Slots → Option (AFlow × Slots)} {FR : Addr → (List AV → Option AV) → Slots → Option (AFlow × Slots)} {G : List AV → Option AV}
    (k : MakerF W f c P qual fd names name params ibody iscope pos rest inames) (hX : ∀ a, ¬ W.X a)
    (hI : ∀ h₀ Z₀, DenSs (W.at h₀ Z₀) d iscope ibody FI)
    (hR : ∀ h₀ Z₀ fn GE, FSpec (W.at h₀ Z₀) (d + 1) (.ref fn) GE → (∀ Z s, Inv (W.at h₀ Z₀) Z s → FnAt fn s.heap) → DenSs (W.at h₀ Z₀) (d + 1) fd.scope rest (FR fn GE))
    (hG : ∀ args av, G args = some av → args.length = names.length ∧ ∃ me, bindA names args frz = some (.val me) ∧ ∀ fn, ∃ ρ', FR fn (fun as => if as.length = inames.length then (FI ((bindA inames as).set frz (.val me))).map fun r => retA r.1 else none) ((bindA names args).set name (.val (.raw (.ref fn)))) = some (.ret av, ρ'))
    (hT : TabAt P pos qual W.h₀) (hbu : W.h₀.BuiltinsAt W.mg P) (hPg : mainGlobals ≠ P) : FSpec W (d + 2) (.ref f) G := by
  intro A Z s vals args av R I r h Q E' q
  have base : ∀ b o, W.h₀.get? b = some o → s.heap.get? b = some o := fun b o e => I.base b o e (hX b)
  refine maker_run k (fun a h => (hX a h).elim) hI hR hG R I (.inr (hT.keep fun b o _ _ e => base b o e)) (hbu.keeps base) hPg r h fun rv s' Z' lp tb rr => q rv s' Z' ?_ rr
  have keep : ∀ b o, s.heap.get? b = some o → s'.heap.get? b = some o := fun b o e => lp.keep b o (hX b) e
  exact ⟨⟨I.ok, fun b o e x => keep b o (I.base b o e x), fun b x => (hX b x).elim, lp.zin, lp.os.trans I.os, lp.bare, fun b _ => hX b, fun a z => lp.zsub a (I.z0 a z), lp.tk⟩, fun b o _ e => keep b o e, lp.zsub, fun a z => (lp.znew a z).imp id .inr, fun i x _ e => lp.gens i x e⟩
end
end Mine
end
section
set_option linter.unusedVariables false
namespace Mine
section
variable {W : Wd} {Z Z' Z₁ : AddrSet} {s s' s₁ : Shared} {env : Env} {sc : Scope} {ρ ρ' : Slots} {α α' : Str → Addr} {A : Around} {d : Nat} {P : Addr} {ps : Array Value} {tpos : Pos} {qual : Str}
theorem Leap.of_step (I : Inv W Z s) (p : Step W .none Z s Z₁ s₁) (j : Leap W Z₁ s₁ Z' s') : Leap W Z s Z' s' where
  keep b o hne e := j.keep b o hne (p.keep b o id e)
  zsub a z := j.zsub a (p.zsub a z)
  znew a z := by
    rcases j.znew a z with z | z
    · rcases p.znew a z with z | z | z
      · exact .inl z
      · exact z.elim
      · exact .inr z
    · exact (p.none_back z).elim (fun h => h.elim) .inr
  zin := j.zin
  os := j.os.trans (p.inv.os.trans I.os.symm)
  bare := j.bare
  tk := j.tk
  gens i x e := j.gens i x (p.gens i x id e)
theorem Loc.leap (j : Leap W Z s Z' s') (I : Inv W Z s) (L : Loc W Z s.heap env ρ α) : Loc (W.at (maskH s'.heap (FOwn env ρ α)) Z') Z' s'.heap env ρ α :=
  (Loc.rebase' (g := s'.heap) (own := FOwn env ρ α) I L j.keep fun _ f => f).more rfl rfl j.zsub fun a f z => by
    rcases j.znew a z with z | z
    · exact L.nz a f z
    · obtain ⟨o, e⟩ := L.alive f; rw [e] at z; cases z
theorem Inv.leap {own : Addr → Prop} (j : Leap W Z s Z' s') (I : Inv W Z s) (hown : ∀ a, own a → W.h₀.get? a = none) : Inv (W.at (maskH s'.heap own) Z') Z' s' :=
  ⟨Wd.from_ok' I.ok (fun b o hne e => j.keep b o hne (I.base b o e hne)) hown, fun b o e _ => (maskH_some e).2, fun _ h => h.elim, j.zin, j.os.trans I.os, j.bare, fun _ _ h => h, fun _ h => h, j.tk⟩
theorem built_at (I : Inv W Z s) (j : Leap W Z s Z' s') (hX : ∀ a, W.X a → a = P) (hb : W.h₀.BuiltinsAt W.mg P) {own : Addr → Prop} (hown : ∀ a, own a → W.h₀.get? a = none) : (maskH s'.heap own).BuiltinsAt W.mg P := by
  obtain ⟨bm, ob, a, b, c, hne, e, r⟩ := hb
  have hx : ¬ W.X bm := fun h => hne (hX _ h)
  exact ⟨bm, ob, a, b, c, hne, by rw [maskH_out fun h => by rw [hown _ h] at e; cases e]; exact j.keep _ _ hx (I.base _ _ e hx), r⟩
theorem Stage.leap (t : Stage P s₁ ps W env Z s ρ α) (j : Leap W Z s Z' s') (tb : TabAt P tpos qual s'.heap) (hX : ∀ a, W.X a → a = P) (hb : W.h₀.BuiltinsAt W.mg P) :
    ∃ h₀ ps', Stage P s₁ ps' (W.at h₀ Z') env Z' s' ρ α ∧ TabAt P tpos qual h₀ ∧ h₀.BuiltinsAt W.mg P := by
  have hown : ∀ a, FOwn env ρ α a → W.h₀.get? a = none := fun a f => (t.loc.nb a f).1
  have L' := t.loc.leap j t.inv
  obtain ⟨c', hP, hr⟩ := id tb
  refine ⟨_, _, ⟨t.inv.leap j hown, L', fun b o hne e => j.keep b o (fun h => hne (hX _ h)) (t.keep b o hne e), t.own, j.os.trans t.os, hP, t.tab₁⟩, tb.keep fun b o vs hd e => (maskH_out fun f => L'.nofields f e hd).trans e, built_at t.inv j hX hb hown⟩
theorem Stage.callM {meth : Str} {o : Expr} {es : List Expr} {apos pos : Pos} {f : Slots → Option AV} {fs : Slots → Option (List AV)} {C m : Addr} {fl : List (Str × AV)} {l : List AV} {av : AV}
    (t : Stage P s₁ ps W env Z s ρ α) (hE : EnvOk env sc) (R : Room A d) (hX : ∀ a, W.X a → a = P) (hb : W.h₀.BuiltinsAt W.mg P)
    (ho : DenP W d sc o f) (hov : f ρ = some (.inst C fl)) (hlk : fl.lookup meth = none) (ha : DenPs W d sc es fs) (hl : fs ρ = some l) (hns : ∀ env pos, (backTo pos (starEach es env)).any (·.1) = false)
    (hg : plainGet W.K C meth = true) (hfi : findIn W.K (.ref C) meth = some (some (.ref m))) (hfn : isFn W.K (.ref m) = true) (hko : KeepOk W (.ref m))
    (pl : Env → Value → Sem Bool) (he : ∀ env, eval (.Call (.Attribute o meth apos) es [] pos) env = (do
      let ov ← eval o env
      standAt apos.atName
      let (f, first) ← holding [ov] (getMethod ov meth (pl env ov))
      callWith pos f first (backTo pos (starEach es env)) []))
    (hJ : ∀ (Z : AddrSet) (s : Shared) (vals : List Value), Inv W Z s → s.heap.get? P = some (tabObj ps) → RepVs Z s.heap vals (.inst C fl :: l) → ∀ (Q : Value → Shared → Prop) (E' : Value → Shared → Prop), (∀ rv s' Z', Leap W Z s Z' s' → TabAt P tpos qual s'.heap → RepV Z' s'.heap rv av → Q rv s') → wpAny W.M A (call (.ref m) vals) Q E' s)
    {Q : Value → Shared → Prop} {E' : Value → Shared → Prop}
    (q : ∀ rv h₀ Z' s' ps', Stage P s₁ ps' (W.at h₀ Z') env Z' s' ρ α → TabAt P tpos qual h₀ → h₀.BuiltinsAt W.mg P → RepV Z' s'.heap rv av → Q rv s') :
    wpAny W.M A (eval (.Call (.Attribute o meth apos) es [] pos) env) Q E' s := by
  have I := t.inv
  have L := t.loc
  rw [he env]
  refine wpAny_bind (ho A env Z s ρ α _ R hE I L hov _ _ fun v s₂ Z₂ p₂ r₂ => ?_)
  have r' := r₂
  cases r' with | inst z1 z2 o1 o2 rs =>
  rename_i x' dx ess n
  refine wpAny_bind (wpAny_standAt (wpAny_bind (wpAny_holding (method_fn p₂.inv.kin (od := some (dictOf ess n)) ⟨o1, rfl, rfl, o2⟩ (plainGet_of hg).1 (plainGet_of hg).2 hfi (beq_iff_eq.mp hfn) (by
    show (lookIn meth (dictOf ess n)).map _ = _
    rw [lookIn_dict, rs.no hlk]; rfl) ?_))))
  refine callWith_den (first := [.ref x']) hko ha hns R hE p₂.inv (L.step0 p₂) hl fun vs s₃ Z₃ p₃ r₃ => ?_
  have p := p₂.tr p₃
  refine hJ Z₃ s₃ (.ref x' :: vs) p.inv (p.keep P _ id t.tab) (.cons (p₃.rep0 r₂) r₃) _ _ fun rv s₄ Z₄ j tb r₄ => ?_
  obtain ⟨h₀, ps', t', tb', hb'⟩ := t.leap (Leap.of_step I p j) tb hX hb
  exact q rv h₀ Z₄ s₄ ps' t' tb' hb' r₄
def methA (C : Addr) (meth : Str) (G : List AV → Option AV) (self : AV) (args : List AV) : Option AV := match self with
  | .inst c fl => if c = C ∧ fl.lookup meth = none then G (self :: args) else none
  | _ => none
theorem den_methF {meth : Str} {o : Expr} {es : List Expr} {apos pos : Pos} {f : Slots → Option AV} {fs : Slots → Option (List AV)} {C m : Addr} {G : List AV → Option AV}
    (ho : DenP W d sc o f) (ha : DenPs W d sc es fs) (hns : ∀ env pos, (backTo pos (starEach es env)).any (·.1) = false)
    (hg : plainGet W.K C meth = true) (hfi : findIn W.K (.ref C) meth = some (some (.ref m))) (hfn : isFn W.K (.ref m) = true) (hko : KeepOk W (.ref m))
    (pl : Env → Value → Sem Bool) (he : ∀ env, eval (.Call (.Attribute o meth apos) es [] pos) env = (do
      let ov ← eval o env
      standAt apos.atName
      let (f, first) ← holding [ov] (getMethod ov meth (pl env ov))
      callWith pos f first (backTo pos (starEach es env)) [])) (hF : FSpec W d (.ref m) G) :
    DenP W d sc (.Call (.Attribute o meth apos) es [] pos) fun ρ => f ρ >>= fun self => fs ρ >>= fun args => methA C meth G self args := by
  intro A env Z s ρ α av R hE I L hf Q E' q
  obtain ⟨self, hself, hf⟩ := bindO hf
  obtain ⟨l, hl, hf⟩ := bindO hf
  unfold methA at hf
  split at hf
  · rename_i c fl
    have ⟨hc, hf2⟩ := iteO hf
    obtain ⟨rfl, hlk⟩ := hc
    rw [he env]
    refine wpAny_bind (ho A env Z s ρ α _ R hE I L hself _ _ fun v s₂ Z₂ p₂ r₂ => ?_)
    have r' := r₂
    cases r' with | inst z1 z2 o1 o2 rs =>
    rename_i x' dx ess n
    refine wpAny_bind (wpAny_standAt (wpAny_bind (wpAny_holding (method_fn p₂.inv.kin (od := some (dictOf ess n)) ⟨o1, rfl, rfl, o2⟩ (plainGet_of hg).1 (plainGet_of hg).2 hfi (beq_iff_eq.mp hfn) (by
      show (lookIn meth (dictOf ess n)).map _ = _
      rw [lookIn_dict, rs.no hlk]; rfl) ?_))))
    refine callWith_den (first := [.ref x']) hko ha hns R hE p₂.inv (L.step0 p₂) hl fun vs s₃ Z₃ p₃ r₃ => ?_
    exact hF A Z₃ s₃ (.ref x' :: vs) _ av R p₃.inv (.cons (p₃.rep0 r₂) r₃) hf2 _ _ fun rv s₄ Z₄ p₄ r₄ => q rv s₄ Z₄ ((p₂.tr p₃).tr p₄) r₄
  · cases hf
def listF (l : List AV) : Option AV := arg1 l fun a => a.lst? >>= fun l => if l.length ≤ 1000000 then some (.lst l) else none
theorem spec_list : FSpec W d (.type "list") listF := by
  intro A Z s vals args av R I r h Q E' q
  obtain ⟨a, v, rfl, ra, h⟩ := arg1_rep h r
  obtain ⟨l, hl, h⟩ := bindO h
  obtain ⟨hz, h⟩ := iteO h
  cases h
  obtain ⟨b, vs, rfl, z, ⟨o, ho, hc, n, hd⟩, rs⟩ := lst?_rep hl ra
  refine call_list_seq b (.inl rfl) ho hc hd (fun h' c' hk hn => ?_) (by rw [List.size_toArray, rs.length]; unfold sizeLine; (first | lia | omega))
  have p : Step W .none Z s (fun b => Z b ∨ b = s.heap.objs.size) { s with heap := h' } := .grow1 I (tk := s.toks) hk (push_none _) hn
  exact q _ _ _ p (.lst (.inr rfl) ⟨_, hn, rfl, c', rfl⟩ (p.reps0 rs))
end
end Mine
end
section
set_option maxRecDepth 100000
namespace Mine
abbrev P05 := PySem.Challenge.pw_dm0064_05
noncomputable def W05 (w : World) (h₀ : Heap) (mg mb : Str → Option Value) (os : OsState) (X Z₀ : AddrSet) : Wd := ⟨P05, w, Mine.hd.heap_39 w.params, h₀, mg, mb, os, X, Z₀⟩
def bdUndone : List Stmt := bodyOf (stAt P05 9)
def scUndone : Scope := scopeOf (stAt P05 9)
def bdTidy : List Stmt := bodyOf (stAt P05 10)
def scTidy : Scope := scopeOf (stAt P05 10)
def bdLaw : List Stmt := bodyOf (stAt P05 11)
def scLaw : Scope := scopeOf (stAt P05 11)
def bdPre : List Stmt := bdLaw.take 6
def stOnce : Stmt := bdLaw.getD 6 (.Pass ⟨0, 0, 0, 0⟩)
def bdPost : List Stmt := bdLaw.drop 7
def bdTnr : List Stmt := bodyOf (inBody (stAt P05 7) 7)
def scTnr : Scope := scopeOf (inBody (stAt P05 7) 7)
def stExp : Stmt := bdTnr.getD 0 (.Pass ⟨0, 0, 0, 0⟩)
def bdExp : List Stmt := bodyOf stExp
def scExp : Scope := scopeOf stExp
def bdRest : List Stmt := bdTnr.drop 1
def bdInit : List Stmt := bodyOf (inBody (stAt P05 7) 5)
def scInit : Scope := scopeOf (inBody (stAt P05 7) 5)
section
variable {w : World} {h₀ : Heap} {mg mb : Str → Option Value} {os : OsState} {X Z₀ : AddrSet}
theorem law_split : bdLaw = bdPre ++ stOnce :: bdPost := by kernel_rfl
theorem gl_len : (W05 w h₀ mg mb os X Z₀).Glob "len" (.builtin "len") := .inr ⟨by kernel_rfl, by kernel_rfl, by decide⟩
theorem gl_abs : (W05 w h₀ mg mb os X Z₀).Glob "abs" (.builtin "abs") := .inr ⟨by kernel_rfl, by kernel_rfl, by decide⟩
theorem gl_chr : (W05 w h₀ mg mb os X Z₀).Glob "chr" (.builtin "chr") := .inr ⟨by kernel_rfl, by kernel_rfl, by decide⟩
theorem gl_range : (W05 w h₀ mg mb os X Z₀).Glob "range" (.type "range") := .inr ⟨by kernel_rfl, by kernel_rfl, by decide⟩
theorem gl_zip : (W05 w h₀ mg mb os X Z₀).Glob "zip" (.type "zip") := .inr ⟨by kernel_rfl, by kernel_rfl, by decide⟩
theorem gl_list : (W05 w h₀ mg mb os X Z₀).Glob "list" (.type "list") := .inr ⟨by kernel_rfl, by kernel_rfl, by decide⟩
theorem gl_undone : (W05 w h₀ mg mb os X Z₀).Glob "_law_undone" (.ref 122) := .inl (by kernel_rfl)
theorem gl_tidy : (W05 w h₀ mg mb os X Z₀).Glob "_law_tidy" (.ref 129) := .inl (by kernel_rfl)
theorem gl_diff : (W05 w h₀ mg mb os X Z₀).Glob "HtmlDiff" (.ref 111) := .inl (by kernel_rfl)
theorem at_tab : plainGet (W05 w h₀ mg mb os X Z₀).K 111 "_tabsize" = true := by kernel_rfl
theorem at_dict : hasDictIn (W05 w h₀ mg mb os X Z₀).K 111 = true := by kernel_rfl
theorem at_find : findIn (W05 w h₀ mg mb os X Z₀).K (.ref 111) "_tabsize" = some none := by kernel_rfl
theorem me_get : plainGet (W05 w h₀ mg mb os X Z₀).K 111 "_tab_newline_replace" = true := by kernel_rfl
theorem me_find : findIn (W05 w h₀ mg mb os X Z₀).K (.ref 111) "_tab_newline_replace" = some (some (.ref 58)) := by kernel_rfl
theorem me_fn : isFn (W05 w h₀ mg mb os X Z₀).K (.ref 58) = true := by kernel_rfl
theorem me_keep : KeepOk (W05 w h₀ mg mb os X Z₀) (.ref 58) := keep_K (by kernel_rfl)
theorem ke_undone : KeepOk (W05 w h₀ mg mb os X Z₀) (.ref 122) := keep_K (by kernel_rfl)
theorem ke_tidy : KeepOk (W05 w h₀ mg mb os X Z₀) (.ref 129) := keep_K (by kernel_rfl)
theorem ke_diff : KeepOk (W05 w h₀ mg mb os X Z₀) (.ref 111) := keep_K (by kernel_rfl)
theorem has_undone : (fdAt (W05 w h₀ mg mb os X Z₀).K 122).isSome = true := by kernel_rfl
theorem has_tidy : (fdAt (W05 w h₀ mg mb os X Z₀).K 129).isSome = true := by kernel_rfl
theorem has_tnr : (fdAt (W05 w h₀ mg mb os X Z₀).K 58).isSome = true := by kernel_rfl
theorem has_init : (fdAt (W05 w h₀ mg mb os X Z₀).K 44).isSome = true := by kernel_rfl
theorem fn_undone : FnK (W05 w h₀ mg mb os X Z₀) 122 (fdK (W05 w h₀ mg mb os X Z₀).K 122 has_undone) bdUndone := fnk_of has_undone (by kernel_rfl) (by kernel_rfl) (by kernel_rfl) (by kernel_rfl) (by kernel_rfl) (by kernel_rfl) (by kernel_rfl) (by kernel_rfl) (by kernel_rfl)
theorem fn_tidy : FnK (W05 w h₀ mg mb os X Z₀) 129 (fdK (W05 w h₀ mg mb os X Z₀).K 129 has_tidy) bdTidy := fnk_of has_tidy (by kernel_rfl) (by kernel_rfl) (by kernel_rfl) (by kernel_rfl) (by kernel_rfl) (by kernel_rfl) (by kernel_rfl) (by kernel_rfl) (by kernel_rfl)
theorem fn_init : FnK (W05 w h₀ mg mb os X Z₀) 44 (fdK (W05 w h₀ mg mb os X Z₀).K 44 has_init) bdInit := fnk_of has_init (by kernel_rfl) (by kernel_rfl) (by kernel_rfl) (by kernel_rfl) (by kernel_rfl) (by kernel_rfl) (by kernel_rfl) (by kernel_rfl) (by kernel_rfl)
theorem sc_undone : (fdK (W05 w h₀ mg mb os X Z₀).K 122 has_undone).scope = scUndone := by kernel_rfl
theorem sc_tidy : (fdK (W05 w h₀ mg mb os X Z₀).K 129 has_tidy).scope = scTidy := by kernel_rfl
theorem sc_init : (fdK (W05 w h₀ mg mb os X Z₀).K 44 has_init).scope = scInit := by kernel_rfl
theorem sc_tnr : (fdK (W05 w h₀ mg mb os X Z₀).K 58 has_tnr).scope = scTnr := by kernel_rfl
theorem cls_diff : ClsK (W05 w h₀ mg mb os X Z₀) 111 44 := ⟨by kernel_rfl, by kernel_rfl, by kernel_rfl, by kernel_rfl, by kernel_rfl, by kernel_rfl, by kernel_rfl⟩
end
end Mine
end
section
set_option linter.unusedVariables false
set_option maxRecDepth 100000
set_option maxHeartbeats 4000000
namespace Mine
section
variable {w : World} {h₀ : Heap} {mg mb : Str → Option Value} {os : OsState} {X Z₀ : AddrSet} {d : Nat}
noncomputable def fUnd_k1  : Slots → Option (AFlow × Slots) := fun ρ => (((((((getV ρ "sign") >>= fun a => (some (.str "\t")) >>= fun b => cmpA .NotEq a b)) >>= fun b => if b = true then some true else (((((((getV ρ "stop") >>= fun a => (some (.int 0)) >>= fun b => cmpA .Gt a b)) >>= fun b => if b = true then (((((((getV ρ "column") >>= fun a => (getV ρ "stop") >>= fun b => binA .Mod a b)) >>= fun a => (some (.int 0)) >>= fun b => cmpA .Eq a b)) >>= fun b => if b = true then (some true) else some false)) else some false)) >>= fun b => if b = true then some true else (some false))))) >>= fun b => if b = true then ((((getV ρ "out") >>= fun a => (getV ρ "sign") >>= fun b => augA .Add a b >>= fun c => some (.next, Slots.set ρ "out" (.val c))) >>= thenA (fun ρ => some (.next, ρ)))) else (some (.next, ρ))) >>= thenA (fun ρ => some (.next, ρ)))
noncomputable def fUnd_T2  : AV → Slots → Option Slots := (fun a ρ => some (Slots.set ρ "sign" (.val a)))
noncomputable def fUnd_B3  : Slots → Option (AFlow × Slots) := fun ρ => (((((((getV ρ "sign") >>= fun a => (some (.str "\n\r")) >>= fun b => cmpA .In a b)) >>= fun x => if x = true then (some (.int 0)) else (((getV ρ "column") >>= fun a => (some (.int 1)) >>= fun b => binA .Add a b)))) >>= fun a => some (.next, Slots.set ρ "column" (.val a))) >>= thenA fUnd_k1)
noncomputable def fUnd_k4  : Slots → Option (AFlow × Slots) := fun ρ => (((getV ρ "out") >>= fun a => some (.ret a, ρ)) >>= thenA (fun ρ => some (.next, ρ)))
noncomputable def fUnd_k5  : Slots → Option (AFlow × Slots) := fun ρ => (((((getV ρ "text") >>= iterA)) >>= fun items => forA fUnd_T2 fUnd_B3 items ρ) >>= thenA fUnd_k4)
noncomputable def fUnd  : Slots → Option (AFlow × Slots) := fun ρ => ((((some (.str "")) >>= fun a => ((some (.int 0)) >>= fun a => (some []) >>= fun l => some (SV.val a :: l)) >>= fun l => some (SV.val a :: l)) >>= fun l => if l.length = 2 ∧ l.length ≤ 1000000 then some (.next, setMany ρ ["out", "column"] l) else none) >>= thenA fUnd_k5)
theorem fUnd_den  : DenSs (W05 w h₀ mg mb os X Z₀) d scUndone bdUndone fUnd :=
  (dens_cons (den_assign_names (xs := [("out", _), ("column", _)]) (es_val (den_str _ _ _) (es_val (den_int _ _ _) es_nil (fun _ => rfl)) (fun _ => rfl)) (fun x hx => kinds_in (l := ["out", "column"]) (by kernel_rfl) x hx) (fun env he => by cases env; cases he; rfl) (fun env he => by cases env; cases he; kernel_rfl)) (dens_cons (den_for (it_val (den_name "text" _ (by kernel_rfl) (by kernel_rfl)) (by constructor)) (tg_name (.inl (by kernel_rfl))) (dens_cons (den_assign (den_ite (denT_cmp (den_name "sign" _ (by kernel_rfl) (by kernel_rfl)) (den_str _ _ _) rfl) (den_int _ _ _) (den_bin (den_name "column" _ (by kernel_rfl) (by kernel_rfl)) (den_int _ _ _))) (.inl (by kernel_rfl)) (fun _ => rfl)) (dens_cons (den_if (denT_bool (denTs_or (denT_cmp (den_name "sign" _ (by kernel_rfl) (by kernel_rfl)) (den_str _ _ _) rfl) (denTs_or (denT_bool (denTs_and (denT_cmp (den_name "stop" _ (by kernel_rfl) (by kernel_rfl)) (den_int _ _ _) rfl) (denTs_and (denT_cmp (den_bin (den_name "column" _ (by kernel_rfl) (by kernel_rfl)) (den_name "stop" _ (by kernel_rfl) (by kernel_rfl))) (den_int _ _ _) rfl) denTs_and0))) denTs_or0))) (dens_cons (den_aug (den_name "sign" _ (by kernel_rfl) (by kernel_rfl)) (.inl (by kernel_rfl)) (by kernel_rfl)) dens_nil) dens_nil) dens_nil)) (fun _ _ => rfl)) (dens_cons (den_return (den_name "out" _ (by kernel_rfl) (by kernel_rfl))) dens_nil)))
noncomputable def fTid_k1  : Slots → Option (AFlow × Slots) := fun ρ => (((((((((getV ρ "text") >>= fun o => (getV ρ "k") >>= fun i => idxA o i)) >>= fun a => (some (.str "\t")) >>= fun b => cmpA .Eq a b)) >>= fun b => if b = true then (((((((getV ρ "text") >>= fun o => ((((getV ρ "k") >>= fun a => (some (.int 1)) >>= fun b => binA .Add a b)) >>= fun a => (asInt a).map some) >>= fun i => ((((getV ρ "k") >>= fun a => (some (.int 2)) >>= fun b => binA .Add a b)) >>= fun a => (asInt a).map some) >>= fun j => cutA o i j)) >>= fun a => (some (.str "\t")) >>= fun b => cmpA .NotEq a b)) >>= fun b => if b = true then (((((((getV ρ "stop") >>= fun a => (some (.int 1)) >>= fun b => cmpA .Lt a b)) >>= fun b => if b = true then some true else (((((((getV ρ "column") >>= fun a => (getV ρ "stop") >>= fun b => binA .Mod a b)) >>= fun a => (some (.int 0)) >>= fun b => cmpA .NotEq a b)) >>= fun b => if b = true then some true else (some false))))) >>= fun b => if b = true then (some true) else some false)) else some false)) else some false)) >>= fun b => if b = true then ((((some (.bool false)) >>= fun a => some (.ret a, ρ)) >>= thenA (fun ρ => some (.next, ρ)))) else (some (.next, ρ))) >>= thenA (fun ρ => some (.next, ρ)))
noncomputable def fTid_T2  : AV → Slots → Option Slots := (fun a ρ => some (Slots.set ρ "k" (.val a)))
noncomputable def fTid_B3  : Slots → Option (AFlow × Slots) := fun ρ => (((((((((getV ρ "text") >>= fun o => (getV ρ "k") >>= fun i => idxA o i)) >>= fun a => (some (.str "\n\r")) >>= fun b => cmpA .In a b)) >>= fun x => if x = true then (some (.int 0)) else (((getV ρ "column") >>= fun a => (some (.int 1)) >>= fun b => binA .Add a b)))) >>= fun a => some (.next, Slots.set ρ "column" (.val a))) >>= thenA fTid_k1)
noncomputable def fTid_k4  : Slots → Option (AFlow × Slots) := fun ρ => (((some (.bool true)) >>= fun a => some (.ret a, ρ)) >>= thenA (fun ρ => some (.next, ρ)))
noncomputable def fTid_k5  : Slots → Option (AFlow × Slots) := fun ρ => (((((((((getV ρ "text") >>= fun a => (some []) >>= fun l => some (a :: l)) >>= lenF)) >>= fun a => (some []) >>= fun l => some (a :: l)) >>= rangeA)) >>= fun items => forA fTid_T2 fTid_B3 items ρ) >>= thenA fTid_k4)
noncomputable def fTid  : Slots → Option (AFlow × Slots) := fun ρ => (((some (.int 0)) >>= fun a => some (.next, Slots.set ρ "column" (.val a))) >>= thenA fTid_k5)
theorem fTid_den  : DenSs (W05 w h₀ mg mb os X Z₀) d scTidy bdTidy fTid :=
  (dens_cons (den_assign (den_int _ _ _) (.inl (by kernel_rfl)) (fun _ => rfl)) (dens_cons (den_for (it_range gl_range (by kernel_rfl) (denPs_cons (den_call gl_len (by kernel_rfl) (by kernel_rfl) (keep_builtin _) (denPs_cons (den_name "text" _ (by kernel_rfl) (by kernel_rfl)) denPs_nil (fun _ => rfl)) (fun _ _ => rfl) spec_len) denPs_nil (fun _ => rfl)) (fun _ _ => rfl) (by constructor)) (tg_name (.inl (by kernel_rfl))) (dens_cons (den_assign (den_ite (denT_cmp (den_idx (den_name "text" _ (by kernel_rfl) (by kernel_rfl)) (den_name "k" _ (by kernel_rfl) (by kernel_rfl)) (fun _ _ => rfl)) (den_str _ _ _) rfl) (den_int _ _ _) (den_bin (den_name "column" _ (by kernel_rfl) (by kernel_rfl)) (den_int _ _ _))) (.inl (by kernel_rfl)) (fun _ => rfl)) (dens_cons (den_if (denT_bool (denTs_and (denT_cmp (den_idx (den_name "text" _ (by kernel_rfl) (by kernel_rfl)) (den_name "k" _ (by kernel_rfl) (by kernel_rfl)) (fun _ _ => rfl)) (den_str _ _ _) rfl) (denTs_and (denT_cmp (den_cut (den_name "text" _ (by kernel_rfl) (by kernel_rfl)) (part_some (den_bin (den_name "k" _ (by kernel_rfl) (by kernel_rfl)) (den_int _ _ _))) (part_some (den_bin (den_name "k" _ (by kernel_rfl) (by kernel_rfl)) (den_int _ _ _)))) (den_str _ _ _) rfl) (denTs_and (denT_bool (denTs_or (denT_cmp (den_name "stop" _ (by kernel_rfl) (by kernel_rfl)) (den_int _ _ _) rfl) (denTs_or (denT_cmp (den_bin (den_name "column" _ (by kernel_rfl) (by kernel_rfl)) (den_name "stop" _ (by kernel_rfl) (by kernel_rfl))) (den_int _ _ _) rfl) denTs_or0))) denTs_and0)))) (dens_cons (den_return (den_bool _ _ _)) dens_nil) dens_nil) dens_nil)) (fun _ _ => rfl)) (dens_cons (den_return (den_bool _ _ _)) dens_nil)))
noncomputable def fExp_k1  : Slots → Option (AFlow × Slots) := fun ρ => (((((((getV ρ "line") >>= replA "\x00" " ")) >>= fun a => strArg a >>= fun x => ((some (.str "\n")) >>= fun a => (some []) >>= fun l => some (a :: l)) >>= fun l => rstripF (.str x :: l))) >>= fun a => some (.ret a, ρ)) >>= thenA (fun ρ => some (.next, ρ)))
noncomputable def fExp_k2  : Slots → Option (AFlow × Slots) := fun ρ => (((((getV ρ "line") >>= replA " " "\t")) >>= fun a => some (.next, Slots.set ρ "line" (.val a))) >>= thenA fExp_k1)
noncomputable def fExp_k3  : Slots → Option (AFlow × Slots) := fun ρ => (((((getV ρ "line") >>= fun a => strArg a >>= fun x => ((((getV ρ "self") >>= attrA 111 "_tabsize")) >>= fun a => (some []) >>= fun l => some (a :: l)) >>= fun l => expandF (.str x :: l))) >>= fun a => some (.next, Slots.set ρ "line" (.val a))) >>= thenA fExp_k2)
noncomputable def fExp  : Slots → Option (AFlow × Slots) := fun ρ => (((((getV ρ "line") >>= replA " " "\x00")) >>= fun a => some (.next, Slots.set ρ "line" (.val a))) >>= thenA fExp_k3)
theorem fExp_den  : DenSs (W05 w h₀ mg mb os X Z₀) d scExp bdExp fExp :=
  (dens_cons (den_assign (den_replace (den_name "line" _ (by kernel_rfl) (by kernel_rfl)) (by kernel_rfl) (fun _ => rfl) rfl) (.inl (by kernel_rfl)) (fun _ => rfl)) (dens_cons (den_assign (den_meth_str (den_name "line" _ (by kernel_rfl) (by kernel_rfl)) (fun _ => rfl) (fun _ => rfl) rfl F.slot_str_expandtabs F.type_str_expandtabs (denPs_cons (den_attr at_tab at_dict at_find (by kernel_rfl) (by kernel_rfl)) denPs_nil (fun _ => rfl)) (fun _ _ => rfl) spec_expand) (.inl (by kernel_rfl)) (fun _ => rfl)) (dens_cons (den_assign (den_replace (den_name "line" _ (by kernel_rfl) (by kernel_rfl)) (by kernel_rfl) (fun _ => rfl) rfl) (.inl (by kernel_rfl)) (fun _ => rfl)) (dens_cons (den_return (den_meth_str (den_replace (den_name "line" _ (by kernel_rfl) (by kernel_rfl)) (by kernel_rfl) (fun _ => rfl) rfl) (fun _ => rfl) (fun _ => rfl) rfl F.slot_str_rstrip F.type_str_rstrip (denPs_cons (den_str _ _ _) denPs_nil (fun _ => rfl)) (fun _ _ => rfl) spec_rstrip)) dens_nil))))
noncomputable def fRest_T1 (fn : Addr) (GE : List AV → Option AV) : AV → Slots → Option Slots := (fun a ρ => some (Slots.set ρ "line" (.val a)))
noncomputable def fRest_f2 (fn : Addr) (GE : List AV → Option AV) : Slots → Option AV := fun ρ => ((getV ρ "expand_tabs") >>= fun v => locA fn v (((getV ρ "line") >>= fun a => (some []) >>= fun l => some (a :: l)) >>= GE))
noncomputable def fRest_T3 (fn : Addr) (GE : List AV → Option AV) : AV → Slots → Option Slots := (fun a ρ => some (Slots.set ρ "line" (.val a)))
noncomputable def fRest_f4 (fn : Addr) (GE : List AV → Option AV) : Slots → Option AV := fun ρ => ((getV ρ "expand_tabs") >>= fun v => locA fn v (((getV ρ "line") >>= fun a => (some []) >>= fun l => some (a :: l)) >>= GE))
noncomputable def fRest_z5 (fn : Addr) (GE : List AV → Option AV) : Slots → Option (AFlow × Slots) := fun ρ => ((((((getV ρ "fromlines") >>= fun a => ((getV ρ "tolines") >>= fun a => (some []) >>= fun l => some (a :: l)) >>= fun l => some (a :: l)) >>= fun l => if l.length ≤ 1000000 then some (.tup l) else none)) >>= fun a => some (.ret a, ρ)) >>= thenA (fun ρ => some (.next, ρ)))
noncomputable def fRest_z6 (fn : Addr) (GE : List AV → Option AV) : Slots → Option (AFlow × Slots) := fun ρ => ((fRest_z5 fn GE) (freeze "tolines" ρ))
noncomputable def fRest_k7 (fn : Addr) (GE : List AV → Option AV) : Slots → Option (AFlow × Slots) := fun ρ => ((fRest_z6 fn GE) (freeze "fromlines" ρ))
noncomputable def fRest_k8 (fn : Addr) (GE : List AV → Option AV) : Slots → Option (AFlow × Slots) := fun ρ => (((((getV ρ "tolines") >>= iterA)) >>= fun items => if items.length ≤ 1000000 then compA (fRest_T3 fn GE) (fun _ => some true) (fRest_f4 fn GE) items (only ["expand_tabs"] ρ) >>= fun l => some (.next, Slots.set ρ "tolines" (.own ⟨none, l⟩)) else none) >>= thenA (fRest_k7 fn GE))
noncomputable def fRest (fn : Addr) (GE : List AV → Option AV) : Slots → Option (AFlow × Slots) := fun ρ => (((((getV ρ "fromlines") >>= iterA)) >>= fun items => if items.length ≤ 1000000 then compA (fRest_T1 fn GE) (fun _ => some true) (fRest_f2 fn GE) items (only ["expand_tabs"] ρ) >>= fun l => some (.next, Slots.set ρ "fromlines" (.own ⟨none, l⟩)) else none) >>= thenA (fRest_k8 fn GE))
theorem fRest_den {fn : Addr} {GE : List AV → Option AV} (hfa : ∀ Z s, Inv (W05 w h₀ mg mb os X Z₀) Z s → FnAt fn s.heap) (hGE : FSpec (W05 w h₀ mg mb os X Z₀) d (.ref fn) GE) : DenSs (W05 w h₀ mg mb os X Z₀) d scTnr bdRest (fRest fn GE) :=
  (dens_cons (den_assign_compx ["expand_tabs"] (by kernel_rfl) (compScope (by kernel_rfl)) (it_val (den_name "fromlines" _ (by kernel_rfl) (by kernel_rfl)) (by constructor)) (tgc_name (by kernel_rfl)) ifs_nil (den_call_localx (x := "expand_tabs") (by kernel_rfl) (by kernel_rfl) hfa (denPs_cons (den_name "line" _ (by kernel_rfl) (by kernel_rfl)) denPs_nil (fun _ => rfl)) (fun _ _ => rfl) hGE (fun _ => rfl)) (fun _ _ => rfl) (by kernel_rfl) rfl (by kernel_rfl)) (dens_cons (den_assign_compx ["expand_tabs"] (by kernel_rfl) (compScope (by kernel_rfl)) (it_val (den_name "tolines" _ (by kernel_rfl) (by kernel_rfl)) (by constructor)) (tgc_name (by kernel_rfl)) ifs_nil (den_call_localx (x := "expand_tabs") (by kernel_rfl) (by kernel_rfl) hfa (denPs_cons (den_name "line" _ (by kernel_rfl) (by kernel_rfl)) denPs_nil (fun _ => rfl)) (fun _ _ => rfl) hGE (fun _ => rfl)) (fun _ _ => rfl) (by kernel_rfl) rfl (by kernel_rfl)) (dens_freeze "fromlines" (dens_freeze "tolines" (dens_cons (den_return (den_tuple (denPs_cons (den_name "fromlines" _ (by kernel_rfl) (by kernel_rfl)) (denPs_cons (den_name "tolines" _ (by kernel_rfl) (by kernel_rfl)) denPs_nil (fun _ => rfl)) (fun _ => rfl)))) dens_nil)))))
noncomputable def fPre_T1  : AV → Slots → Option Slots := (fun a ρ => some (Slots.set ρ "x" (.val a)))
noncomputable def fPre_f2  : Slots → Option AV := fun ρ => (((getV ρ "x") >>= fun a => (some []) >>= fun l => some (a :: l)) >>= absF)
noncomputable def fPre_k3  : Slots → Option (AFlow × Slots) := fun ρ => (((getO ρ "lines") >>= fun l => (((some (.int 1)) >>= negA)) >>= fun i => i.int? >>= fun k => idxA (.lst l.items) i >>= fun b => ((((((getV ρ "tabs") >>= fun a => ((some (.str " ")) >>= fun a => ((some (.str "\x00")) >>= fun a => ((some (.str "\n")) >>= fun a => ((some (.str "\r")) >>= fun a => ((getV ρ "white") >>= fun a => (((((((getV ρ "rest") >>= fun a => (some (.int 1114112)) >>= fun b => binA .Mod a b)) >>= fun a => (some []) >>= fun l => some (a :: l)) >>= chrF)) >>= fun a => ((some (.str "ab")) >>= fun a => (some []) >>= fun l => some (a :: l)) >>= fun l => some (a :: l)) >>= fun l => some (a :: l)) >>= fun l => some (a :: l)) >>= fun l => some (a :: l)) >>= fun l => some (a :: l)) >>= fun l => some (a :: l)) >>= fun l => some (a :: l)) >>= fun l => if l.length ≤ 1000000 then some (.lst l) else none)) >>= fun o => (getV ρ "kind") >>= fun i => idxA o i)) >>= fun a => augA .Add b a >>= fun c => putL l.items k c >>= fun l' => some (.next, Slots.set ρ "lines" (.own ⟨l.place, l'⟩))) >>= thenA (fun ρ => some (.next, ρ)))
noncomputable def fPre_k4  : Slots → Option (AFlow × Slots) := fun ρ => ((((((((some (.str "\x0b")) >>= fun a => ((some (.str "\x0c")) >>= fun a => ((some (.str "\x1f")) >>= fun a => ((some (.str "\u0085")) >>= fun a => ((some (.str "\u2028")) >>= fun a => ((some (.str "\u3000")) >>= fun a => (some []) >>= fun l => some (a :: l)) >>= fun l => some (a :: l)) >>= fun l => some (a :: l)) >>= fun l => some (a :: l)) >>= fun l => some (a :: l)) >>= fun l => some (a :: l)) >>= fun l => if l.length ≤ 1000000 then some (.lst l) else none)) >>= fun o => (((getV ρ "rest") >>= fun a => (some (.int 6)) >>= fun b => binA .Mod a b)) >>= fun i => idxA o i)) >>= fun a => some (.next, Slots.set ρ "white" (.val a))) >>= thenA fPre_k3)
noncomputable def fPre_k5  : Slots → Option (AFlow × Slots) := fun ρ => (((((getV ρ "kind") >>= fun a => (some (.int 8)) >>= fun b => cmpA .Eq a b)) >>= fun b => if b = true then ((((getO ρ "lines") >>= fun l => (some (.str "")) >>= fun a => if l.items.length ≤ 1000000 then some (.next, Slots.set ρ "lines" (.own ⟨l.place, l.items ++ [a]⟩)) else none) >>= thenA (fun ρ => some (.next, ρ)))) else ((((((some (.str "\t")) >>= fun a => (((some (.int 1)) >>= fun a => (((getV ρ "rest") >>= fun a => (some (.int 12)) >>= fun b => binA .Mod a b)) >>= fun b => binA .Add a b)) >>= fun b => binA .Mult a b)) >>= fun a => some (.next, Slots.set ρ "tabs" (.val a))) >>= thenA fPre_k4))) >>= thenA (fun ρ => some (.next, ρ)))
noncomputable def fPre_T6  : AV → Slots → Option Slots := (fun a ρ => some (Slots.set ρ "x" (.val a)))
noncomputable def fPre_B7  : Slots → Option (AFlow × Slots) := fun ρ => ((((((getV ρ "x") >>= fun a => (some (.int 9)) >>= fun b => binA .Mod a b)) >>= fun a => ((((getV ρ "x") >>= fun a => (some (.int 9)) >>= fun b => binA .FloorDiv a b)) >>= fun a => (some []) >>= fun l => some (SV.val a :: l)) >>= fun l => some (SV.val a :: l)) >>= fun l => if l.length = 2 ∧ l.length ≤ 1000000 then some (.next, setMany ρ ["rest", "kind"] l.reverse) else none) >>= thenA fPre_k5)
noncomputable def fPre_k8  : Slots → Option (AFlow × Slots) := fun ρ => (((((((getV ρ "numbers") >>= fun o => ((some (.int 1)) >>= fun a => (asInt a).map some) >>= fun i => (some none) >>= fun j => cutA o i j)) >>= iterA)) >>= fun items => forA fPre_T6 fPre_B7 items ρ) >>= thenA (fun ρ => some (.next, ρ)))
noncomputable def fPre_k9  : Slots → Option (AFlow × Slots) := fun ρ => ((((((some (.str "")) >>= fun a => (some []) >>= fun l => some (a :: l)) >>= fun l => if l.length ≤ 1000000 then some l else none)) >>= fun l => some (.next, Slots.set ρ "lines" (.own ⟨none, l⟩))) >>= thenA fPre_k8)
noncomputable def fPre_k10  : Slots → Option (AFlow × Slots) := fun ρ => (((((getV ρ "stop") >>= fun a => (((some (.int 1)) >>= fun a => (((((getV ρ "numbers") >>= fun o => (some (.int 0)) >>= fun i => idxA o i)) >>= fun a => (some (.int 3)) >>= fun b => binA .Mod a b)) >>= fun b => binA .Add a b)) >>= fun b => binA .Mult a b)) >>= fun a => some (.next, Slots.set ρ "wide" (.val a))) >>= thenA fPre_k9)
noncomputable def fPre_z11  : Slots → Option (AFlow × Slots) := fun ρ => (((((((((getV ρ "numbers") >>= fun o => (some (.int 0)) >>= fun i => idxA o i)) >>= fun a => (some (.int 10)) >>= fun b => binA .Mod a b)) >>= fun a => (some (.int 1)) >>= fun b => binA .Sub a b)) >>= fun a => some (.next, Slots.set ρ "stop" (.val a))) >>= thenA fPre_k10)
noncomputable def fPre_k12  : Slots → Option (AFlow × Slots) := fun ρ => (fPre_z11 (freeze "numbers" ρ))
noncomputable def fPre_k13  : Slots → Option (AFlow × Slots) := fun ρ => (((getO ρ "numbers") >>= fun l => ((((((some (.int 5)) >>= fun a => ((some (.int 34)) >>= fun a => ((some (.int 4)) >>= fun a => ((some (.int 16)) >>= fun a => ((some (.int 28)) >>= fun a => ((some (.int 54)) >>= fun a => ((some (.int 7)) >>= fun a => (some []) >>= fun l => some (a :: l)) >>= fun l => some (a :: l)) >>= fun l => some (a :: l)) >>= fun l => some (a :: l)) >>= fun l => some (a :: l)) >>= fun l => some (a :: l)) >>= fun l => some (a :: l)) >>= fun l => if l.length ≤ 1000000 then some (.lst l) else none)) >>= fun o => ((((getL ρ "numbers") >>= fun l => if l.length ≤ 16777216 then some (.int l.length) else none)) >>= fun a => (asInt a).map some) >>= fun i => (some none) >>= fun j => cutO o i j)) >>= fun r => if l.items.length + r.length ≤ 1000000 then some (.next, Slots.set ρ "numbers" (.own ⟨l.place, l.items ++ r⟩)) else none) >>= thenA fPre_k12)
noncomputable def fPre  : Slots → Option (AFlow × Slots) := fun ρ => (((((getV ρ "script") >>= iterA)) >>= fun items => if items.length ≤ 1000000 then compA fPre_T1 (fun _ => some true) fPre_f2 items (only [] ρ) >>= fun l => some (.next, Slots.set ρ "numbers" (.own ⟨none, l⟩)) else none) >>= thenA fPre_k13)
theorem fPre_den  : DenSs (W05 w h₀ mg mb os X Z₀) d scLaw bdPre fPre :=
  (dens_cons (den_assign_compx [] (by kernel_rfl) (compScope (by kernel_rfl)) (it_val (den_name "script" _ (by kernel_rfl) (by kernel_rfl)) (by constructor)) (tgc_name (by kernel_rfl)) ifs_nil (den_call gl_abs (by kernel_rfl) (by kernel_rfl) (keep_builtin _) (denPs_cons (den_name "x" _ (by kernel_rfl) (by kernel_rfl)) denPs_nil (fun _ => rfl)) (fun _ _ => rfl) spec_abs) (fun _ _ => rfl) (by kernel_rfl) rfl (by kernel_rfl)) (dens_cons (den_iadd (deno_cuto (den_list (denPs_cons (den_int _ _ _) (denPs_cons (den_int _ _ _) (denPs_cons (den_int _ _ _) (denPs_cons (den_int _ _ _) (denPs_cons (den_int _ _ _) (denPs_cons (den_int _ _ _) (denPs_cons (den_int _ _ _) denPs_nil (fun _ => rfl)) (fun _ => rfl)) (fun _ => rfl)) (fun _ => rfl)) (fun _ => rfl)) (fun _ => rfl)) (fun _ => rfl))) (part_some (den_len_name gl_len (by kernel_rfl) (by kernel_rfl) (by kernel_rfl))) part_none) (.inl (by kernel_rfl)) (by kernel_rfl)) (dens_freeze "numbers" (dens_cons (den_assign (den_bin (den_bin (den_idx (den_name "numbers" _ (by kernel_rfl) (by kernel_rfl)) (den_int _ _ _) (fun _ _ => rfl)) (den_int _ _ _)) (den_int _ _ _)) (.inr ⟨(by kernel_rfl), by decide +kernel⟩) (fun _ => rfl)) (dens_cons (den_assign (den_bin (den_name "stop" _ (by kernel_rfl) (by kernel_rfl)) (den_bin (den_int _ _ _) (den_bin (den_idx (den_name "numbers" _ (by kernel_rfl) (by kernel_rfl)) (den_int _ _ _) (fun _ _ => rfl)) (den_int _ _ _)))) (.inl (by kernel_rfl)) (fun _ => rfl)) (dens_cons (den_assignO (deno_list (denPs_cons (den_str _ _ _) denPs_nil (fun _ => rfl))) (.inl (by kernel_rfl)) (fun _ => rfl)) (dens_cons (den_for (it_val (den_cut (den_name "numbers" _ (by kernel_rfl) (by kernel_rfl)) (part_some (den_int _ _ _)) part_none) (by constructor)) (tg_name (.inl (by kernel_rfl))) (dens_cons (den_assign_swap (names := ["kind", "rest"]) (es_val (den_bin (den_name "x" _ (by kernel_rfl) (by kernel_rfl)) (den_int _ _ _)) (es_val (den_bin (den_name "x" _ (by kernel_rfl) (by kernel_rfl)) (den_int _ _ _)) es_nil (fun _ => rfl)) (fun _ => rfl)) (fun x hx => kinds_in (l := ["kind", "rest"]) (by kernel_rfl) x hx) (fun env he => by cases env; cases he; rfl) (fun env he => by cases env; cases he; kernel_rfl)) (dens_cons (den_if (denT_cmp (den_name "kind" _ (by kernel_rfl) (by kernel_rfl)) (den_int _ _ _) rfl) (dens_cons (den_append (den_str _ _ _) (by kernel_rfl) (by kernel_rfl) (fun _ => rfl) rfl) dens_nil) (dens_cons (den_assign (den_bin (den_str _ _ _) (den_bin (den_int _ _ _) (den_bin (den_name "rest" _ (by kernel_rfl) (by kernel_rfl)) (den_int _ _ _)))) (.inl (by kernel_rfl)) (fun _ => rfl)) (dens_cons (den_assign (den_idx (den_list (denPs_cons (den_str _ _ _) (denPs_cons (den_str _ _ _) (denPs_cons (den_str _ _ _) (denPs_cons (den_str _ _ _) (denPs_cons (den_str _ _ _) (denPs_cons (den_str _ _ _) denPs_nil (fun _ => rfl)) (fun _ => rfl)) (fun _ => rfl)) (fun _ => rfl)) (fun _ => rfl)) (fun _ => rfl))) (den_bin (den_name "rest" _ (by kernel_rfl) (by kernel_rfl)) (den_int _ _ _)) (fun _ _ => rfl)) (.inl (by kernel_rfl)) (fun _ => rfl)) (dens_cons (den_augsub (den_idx (den_list (denPs_cons (den_name "tabs" _ (by kernel_rfl) (by kernel_rfl)) (denPs_cons (den_str _ _ _) (denPs_cons (den_str _ _ _) (denPs_cons (den_str _ _ _) (denPs_cons (den_str _ _ _) (denPs_cons (den_name "white" _ (by kernel_rfl) (by kernel_rfl)) (denPs_cons (den_call gl_chr (by kernel_rfl) (by kernel_rfl) (keep_builtin _) (denPs_cons (den_bin (den_name "rest" _ (by kernel_rfl) (by kernel_rfl)) (den_int _ _ _)) denPs_nil (fun _ => rfl)) (fun _ _ => rfl) spec_chr) (denPs_cons (den_str _ _ _) denPs_nil (fun _ => rfl)) (fun _ => rfl)) (fun _ => rfl)) (fun _ => rfl)) (fun _ => rfl)) (fun _ => rfl)) (fun _ => rfl)) (fun _ => rfl))) (den_name "kind" _ (by kernel_rfl) (by kernel_rfl)) (fun _ _ => rfl)) (den_neg (den_int _ _ _)) (by kernel_rfl) (by kernel_rfl) (fun _ _ _ => rfl)) dens_nil)))) dens_nil)) (fun _ _ => rfl)) dens_nil)))))))
noncomputable def fPost_C1 (GU GY GC GM : List AV → Option AV) : Slots → Option Bool := fun ρ => ((((getV ρ "plain") >>= fun o => ((((some (.int 1)) >>= negA)) >>= fun a => (asInt a).map some) >>= fun i => (some none) >>= fun j => cutA o i j)) >>= fun a => (some (.str "\n")) >>= fun b => cmpA .Eq a b)
noncomputable def fPost_B2 (GU GY GC GM : List AV → Option AV) : Slots → Option (AFlow × Slots) := fun ρ => (((((getV ρ "plain") >>= fun o => (some none) >>= fun i => ((((some (.int 1)) >>= negA)) >>= fun a => (asInt a).map some) >>= fun j => cutA o i j)) >>= fun a => some (.next, Slots.set ρ "plain" (.val a))) >>= thenA (fun ρ => some (.next, ρ)))
noncomputable def fPost_k3 (GU GY GC GM : List AV → Option AV) : Slots → Option (AFlow × Slots) := fun ρ => ((((((((((((getV ρ "told") >>= fun a => ((getV ρ "wide") >>= fun a => (some []) >>= fun l => some (a :: l)) >>= fun l => some (a :: l)) >>= GY)) >>= truthA)).map (!·))) >>= fun b => if b = true then some true else ((((((((getV ρ "told") >>= fun a => ((getV ρ "wide") >>= fun a => (some []) >>= fun l => some (a :: l)) >>= fun l => some (a :: l)) >>= GU)) >>= fun a => (getV ρ "plain") >>= fun b => cmpA .NotEq a b)) >>= fun b => if b = true then some true else (some false))))) >>= fun b => if b = true then ((((some (.bool false)) >>= fun a => some (.ret a, ρ)) >>= thenA (fun ρ => some (.next, ρ)))) else (some (.next, ρ))) >>= thenA (fun ρ => some (.next, ρ)))
noncomputable def fPost_k4 (GU GY GC GM : List AV → Option AV) : Slots → Option (AFlow × Slots) := fun ρ => ((whileA (fPost_C1 GU GY GC GM) (fPost_B2 GU GY GC GM) 100000 ρ) >>= thenA (fPost_k3 GU GY GC GM))
noncomputable def fPost_k5 (GU GY GC GM : List AV → Option AV) : Slots → Option (AFlow × Slots) := fun ρ => (((((getV ρ "stop") >>= fun a => (some (.int 1)) >>= fun b => cmpA .Lt a b)) >>= fun b => if b = true then ((((((getV ρ "plain") >>= replA "\t" "")) >>= fun a => some (.next, Slots.set ρ "plain" (.val a))) >>= thenA (fun ρ => some (.next, ρ)))) else (some (.next, ρ))) >>= thenA (fPost_k4 GU GY GC GM))
noncomputable def fPost_T6 (GU GY GC GM : List AV → Option AV) : AV → Slots → Option Slots := (fun a ρ => seqA a >>= fun l => if l.length = 2 then (headTg (fun a ρ => some (Slots.set ρ "line" (.val a))) (headTg (fun a ρ => some (Slots.set ρ "told" (.val a))) (fun _ ρ => some ρ))) l ρ else none)
noncomputable def fPost_B7 (GU GY GC GM : List AV → Option AV) : Slots → Option (AFlow × Slots) := fun ρ => (((((getV ρ "line") >>= replA "\x00" " ")) >>= fun a => some (.next, Slots.set ρ "plain" (.val a))) >>= thenA (fPost_k5 GU GY GC GM))
noncomputable def fPost_T8 (GU GY GC GM : List AV → Option AV) : AV → Slots → Option Slots := (fun a ρ => some (Slots.set ρ "line" (.val a)))
noncomputable def fPost_f9 (GU GY GC GM : List AV → Option AV) : Slots → Option AV := fun ρ => (((getV ρ "line") >>= fun a => ((getV ρ "stop") >>= fun a => (some []) >>= fun l => some (a :: l)) >>= fun l => some (a :: l)) >>= GU)
noncomputable def fPost_T10 (GU GY GC GM : List AV → Option AV) : AV → Slots → Option Slots := (fun a ρ => some (Slots.set ρ "line" (.val a)))
noncomputable def fPost_f11 (GU GY GC GM : List AV → Option AV) : Slots → Option AV := fun ρ => (((getV ρ "line") >>= fun a => ((getV ρ "stop") >>= fun a => (some []) >>= fun l => some (a :: l)) >>= fun l => some (a :: l)) >>= GU)
noncomputable def fPost_k12 (GU GY GC GM : List AV → Option AV) : Slots → Option (AFlow × Slots) := fun ρ => (((((((getV ρ "back") >>= fun a => (getV ρ "line") >>= fun b => (cmpA .Eq a b).map AV.bool)) >>= fun a => (getV ρ "fixed") >>= fun b => cmpA .NotEq a b)) >>= fun b => if b = true then ((((some (.bool false)) >>= fun a => some (.ret a, ρ)) >>= thenA (fun ρ => some (.next, ρ)))) else (some (.next, ρ))) >>= thenA (fun ρ => some (.next, ρ)))
noncomputable def fPost_T13 (GU GY GC GM : List AV → Option AV) : AV → Slots → Option Slots := (fun a ρ => seqA a >>= fun l => if l.length = 2 then (headTg (fun a ρ => some (Slots.set ρ "line" (.val a))) (headTg (fun a ρ => some (Slots.set ρ "back" (.val a))) (fun _ ρ => some ρ))) l ρ else none)
noncomputable def fPost_B14 (GU GY GC GM : List AV → Option AV) : Slots → Option (AFlow × Slots) := fun ρ => ((((((((getV ρ "line") >>= fun a => ((getV ρ "stop") >>= fun a => (some []) >>= fun l => some (a :: l)) >>= fun l => some (a :: l)) >>= GY)) >>= fun a => truthA a >>= fun b => if b = true then (((((some (.str "\x00")) >>= fun a => (getV ρ "line") >>= fun b => (cmpA .NotIn a b).map AV.bool)) >>= fun a => truthA a >>= fun b => if b = true then (((((getV ρ "line") >>= fun o => ((((some (.int 1)) >>= negA)) >>= fun a => (asInt a).map some) >>= fun i => (some none) >>= fun j => cutA o i j)) >>= fun a => (some (.str "\n")) >>= fun b => (cmpA .NotEq a b).map AV.bool)) else some a)) else some a)) >>= fun a => some (.next, Slots.set ρ "fixed" (.val a))) >>= thenA (fPost_k12 GU GY GC GM))
noncomputable def fPost_k15 (GU GY GC GM : List AV → Option AV) : Slots → Option (AFlow × Slots) := fun ρ => (((some (.bool true)) >>= fun a => some (.ret a, ρ)) >>= thenA (fun ρ => some (.next, ρ)))
noncomputable def fPost_k16 (GU GY GC GM : List AV → Option AV) : Slots → Option (AFlow × Slots) := fun ρ => (((((getV ρ "lines") >>= fun a => ((((getV ρ "told") >>= fun o => (some (.int 0)) >>= fun i => idxA o i)) >>= fun a => (some []) >>= fun l => some (a :: l)) >>= fun l => some (a :: l)) >>= zipF) >>= fun items => forA (fPost_T13 GU GY GC GM) (fPost_B14 GU GY GC GM) items ρ) >>= thenA (fPost_k15 GU GY GC GM))
noncomputable def fPost_k17 (GU GY GC GM : List AV → Option AV) : Slots → Option (AFlow × Slots) := fun ρ => (((((((getV ρ "told") >>= fun a => (((((((((getV ρ "told") >>= fun o => (some (.int 0)) >>= fun i => idxA o i)) >>= fun a => (some []) >>= fun l => some (a :: l)) >>= listF)) >>= fun a => ((getV ρ "once") >>= fun a => (some []) >>= fun l => some (a :: l)) >>= fun l => some (a :: l)) >>= fun l => if l.length ≤ 1000000 then some (.tup l) else none)) >>= fun b => cmpA .NotEq a b)) >>= fun b => if b = true then some true else ((((((((((getV ρ "told") >>= fun o => (some (.int 0)) >>= fun i => idxA o i)) >>= fun a => (some []) >>= fun l => some (a :: l)) >>= lenF)) >>= fun a => ((((getV ρ "lines") >>= fun a => (some []) >>= fun l => some (a :: l)) >>= lenF)) >>= fun b => cmpA .NotEq a b)) >>= fun b => if b = true then some true else (some false))))) >>= fun b => if b = true then ((((some (.bool false)) >>= fun a => some (.ret a, ρ)) >>= thenA (fun ρ => some (.next, ρ)))) else (some (.next, ρ))) >>= thenA (fPost_k16 GU GY GC GM))
noncomputable def fPost_z18 (GU GY GC GM : List AV → Option AV) : Slots → Option (AFlow × Slots) := fun ρ => ((((((((getV ρ "stop") >>= fun a => (some []) >>= fun l => some (a :: l)) >>= GC)) >>= fun self => ((getV ρ "ruled") >>= fun a => ((((((((getV ρ "once") >>= iterA)) >>= fun items => if items.length ≤ 1000000 then compA (fPost_T10 GU GY GC GM) (fun _ => some true) (fPost_f11 GU GY GC GM) items (only ["stop"] ρ) else none)).map AV.lst)) >>= fun a => (some []) >>= fun l => some (a :: l)) >>= fun l => some (a :: l)) >>= fun args => methA 111 "_tab_newline_replace" GM self args)) >>= fun a => some (.next, Slots.set ρ "told" (.val a))) >>= thenA (fPost_k17 GU GY GC GM))
noncomputable def fPost_k19 (GU GY GC GM : List AV → Option AV) : Slots → Option (AFlow × Slots) := fun ρ => ((fPost_z18 GU GY GC GM) (freeze "ruled" ρ))
noncomputable def fPost_k20 (GU GY GC GM : List AV → Option AV) : Slots → Option (AFlow × Slots) := fun ρ => (((((getV ρ "lines") >>= iterA)) >>= fun items => if items.length ≤ 1000000 then compA (fPost_T8 GU GY GC GM) (fun _ => some true) (fPost_f9 GU GY GC GM) items (only ["stop"] ρ) >>= fun l => some (.next, Slots.set ρ "ruled" (.own ⟨none, l⟩)) else none) >>= thenA (fPost_k19 GU GY GC GM))
noncomputable def fPost_k21 (GU GY GC GM : List AV → Option AV) : Slots → Option (AFlow × Slots) := fun ρ => (((((getV ρ "lines") >>= fun a => ((getV ρ "once") >>= fun a => (some []) >>= fun l => some (a :: l)) >>= fun l => some (a :: l)) >>= zipF) >>= fun items => forA (fPost_T6 GU GY GC GM) (fPost_B7 GU GY GC GM) items ρ) >>= thenA (fPost_k20 GU GY GC GM))
noncomputable def fPost (GU GY GC GM : List AV → Option AV) : Slots → Option (AFlow × Slots) := fun ρ => ((((((((((getV ρ "once") >>= fun a => (some []) >>= fun l => some (a :: l)) >>= lenF)) >>= fun a => ((((getV ρ "lines") >>= fun a => (some []) >>= fun l => some (a :: l)) >>= lenF)) >>= fun b => cmpA .NotEq a b)) >>= fun b => if b = true then some true else (((((getV ρ "turned") >>= fun a => (((getV ρ "once") >>= revA)) >>= fun b => cmpA .NotEq a b)) >>= fun b => if b = true then some true else (some false))))) >>= fun b => if b = true then ((((some (.bool false)) >>= fun a => some (.ret a, ρ)) >>= thenA (fun ρ => some (.next, ρ)))) else (some (.next, ρ))) >>= thenA (fPost_k21 GU GY GC GM))
theorem fPost_den {GU GY GC GM : List AV → Option AV} (hU : FSpec (W05 w h₀ mg mb os X Z₀) d (.ref 122) GU) (hY : FSpec (W05 w h₀ mg mb os X Z₀) d (.ref 129) GY) (hC : FSpec (W05 w h₀ mg mb os X Z₀) d (.ref 111) GC) (hM : FSpec (W05 w h₀ mg mb os X Z₀) d (.ref 58) GM) : DenSs (W05 w h₀ mg mb os X Z₀) d scLaw bdPost (fPost GU GY GC GM) :=
  (dens_cons (den_if (denT_bool (denTs_or (denT_cmp (den_call gl_len (by kernel_rfl) (by kernel_rfl) (keep_builtin _) (denPs_cons (den_name "once" _ (by kernel_rfl) (by kernel_rfl)) denPs_nil (fun _ => rfl)) (fun _ _ => rfl) spec_len) (den_call gl_len (by kernel_rfl) (by kernel_rfl) (keep_builtin _) (denPs_cons (den_name "lines" _ (by kernel_rfl) (by kernel_rfl)) denPs_nil (fun _ => rfl)) (fun _ _ => rfl) spec_len) rfl) (denTs_or (denT_cmp (den_name "turned" _ (by kernel_rfl) (by kernel_rfl)) (den_rev (den_name "once" _ (by kernel_rfl) (by kernel_rfl))) rfl) denTs_or0))) (dens_cons (den_return (den_bool _ _ _)) dens_nil) dens_nil) (dens_cons (den_forT (it_zip gl_zip (by kernel_rfl) (denPs_cons (den_name "lines" _ (by kernel_rfl) (by kernel_rfl)) (denPs_cons (den_name "once" _ (by kernel_rfl) (by kernel_rfl)) denPs_nil (fun _ => rfl)) (fun _ => rfl)) (fun _ _ => rfl)) (tg_tuple (tgs_cons (tg_name (.inl (by kernel_rfl))) (tgs_cons (tg_name (.inl (by kernel_rfl))) tgs_nil (fun _ => rfl)) (fun _ => rfl)) (fun _ => rfl) (fun _ => rfl)) (dens_cons (den_assign (den_replace (den_name "line" _ (by kernel_rfl) (by kernel_rfl)) (by kernel_rfl) (fun _ => rfl) rfl) (.inl (by kernel_rfl)) (fun _ => rfl)) (dens_cons (den_if (denT_cmp (den_name "stop" _ (by kernel_rfl) (by kernel_rfl)) (den_int _ _ _) rfl) (dens_cons (den_assign (den_replace (den_name "plain" _ (by kernel_rfl) (by kernel_rfl)) (by kernel_rfl) (fun _ => rfl) rfl) (.inl (by kernel_rfl)) (fun _ => rfl)) dens_nil) dens_nil) (dens_cons (den_while 100000 (denT_cmp (den_cut (den_name "plain" _ (by kernel_rfl) (by kernel_rfl)) (part_some (den_neg (den_int _ _ _))) part_none) (den_str _ _ _) rfl) (dens_cons (den_assign (den_cut (den_name "plain" _ (by kernel_rfl) (by kernel_rfl)) part_none (part_some (den_neg (den_int _ _ _)))) (.inl (by kernel_rfl)) (fun _ => rfl)) dens_nil)) (dens_cons (den_if (denT_bool (denTs_or (denT_not (denT_val (den_call gl_tidy (by kernel_rfl) (by kernel_rfl) ke_tidy (denPs_cons (den_name "told" _ (by kernel_rfl) (by kernel_rfl)) (denPs_cons (den_name "wide" _ (by kernel_rfl) (by kernel_rfl)) denPs_nil (fun _ => rfl)) (fun _ => rfl)) (fun _ _ => rfl) hY) (fun _ _ => rfl))) (denTs_or (denT_cmp (den_call gl_undone (by kernel_rfl) (by kernel_rfl) ke_undone (denPs_cons (den_name "told" _ (by kernel_rfl) (by kernel_rfl)) (denPs_cons (den_name "wide" _ (by kernel_rfl) (by kernel_rfl)) denPs_nil (fun _ => rfl)) (fun _ => rfl)) (fun _ _ => rfl) hU) (den_name "plain" _ (by kernel_rfl) (by kernel_rfl)) rfl) denTs_or0))) (dens_cons (den_return (den_bool _ _ _)) dens_nil) dens_nil) dens_nil)))) (fun _ _ => rfl)) (dens_cons (den_assign_compx ["stop"] (by kernel_rfl) (compScope (by kernel_rfl)) (it_val (den_name "lines" _ (by kernel_rfl) (by kernel_rfl)) (by constructor)) (tgc_name (by kernel_rfl)) ifs_nil (den_call gl_undone (by kernel_rfl) (by kernel_rfl) ke_undone (denPs_cons (den_name "line" _ (by kernel_rfl) (by kernel_rfl)) (denPs_cons (den_name "stop" _ (by kernel_rfl) (by kernel_rfl)) denPs_nil (fun _ => rfl)) (fun _ => rfl)) (fun _ _ => rfl) hU) (fun _ _ => rfl) (by kernel_rfl) rfl (by kernel_rfl)) (dens_freeze "ruled" (dens_cons (den_assign (den_methF (den_call gl_diff (by kernel_rfl) (by kernel_rfl) ke_diff (denPs_cons (den_name "stop" _ (by kernel_rfl) (by kernel_rfl)) denPs_nil (fun _ => rfl)) (fun _ _ => rfl) hC) (denPs_cons (den_name "ruled" _ (by kernel_rfl) (by kernel_rfl)) (denPs_cons (den_ofO (deno_compx ["stop"] (by kernel_rfl) (compScope (by kernel_rfl)) (it_val (den_name "once" _ (by kernel_rfl) (by kernel_rfl)) (by constructor)) (tgc_name (by kernel_rfl)) ifs_nil (den_call gl_undone (by kernel_rfl) (by kernel_rfl) ke_undone (denPs_cons (den_name "line" _ (by kernel_rfl) (by kernel_rfl)) (denPs_cons (den_name "stop" _ (by kernel_rfl) (by kernel_rfl)) denPs_nil (fun _ => rfl)) (fun _ => rfl)) (fun _ _ => rfl) hU) (fun _ _ => rfl))) denPs_nil (fun _ => rfl)) (fun _ => rfl)) (fun _ _ => rfl) me_get me_find me_fn me_keep (fun _ _ => _) (fun _ => rfl) hM) (.inl (by kernel_rfl)) (fun _ => rfl)) (dens_cons (den_if (denT_bool (denTs_or (denT_cmp (den_name "told" _ (by kernel_rfl) (by kernel_rfl)) (den_tuple (denPs_cons (den_call gl_list (by kernel_rfl) (by kernel_rfl) (keep_type _) (denPs_cons (den_idx (den_name "told" _ (by kernel_rfl) (by kernel_rfl)) (den_int _ _ _) (fun _ _ => rfl)) denPs_nil (fun _ => rfl)) (fun _ _ => rfl) spec_list) (denPs_cons (den_name "once" _ (by kernel_rfl) (by kernel_rfl)) denPs_nil (fun _ => rfl)) (fun _ => rfl))) rfl) (denTs_or (denT_cmp (den_call gl_len (by kernel_rfl) (by kernel_rfl) (keep_builtin _) (denPs_cons (den_idx (den_name "told" _ (by kernel_rfl) (by kernel_rfl)) (den_int _ _ _) (fun _ _ => rfl)) denPs_nil (fun _ => rfl)) (fun _ _ => rfl) spec_len) (den_call gl_len (by kernel_rfl) (by kernel_rfl) (keep_builtin _) (denPs_cons (den_name "lines" _ (by kernel_rfl) (by kernel_rfl)) denPs_nil (fun _ => rfl)) (fun _ _ => rfl) spec_len) rfl) denTs_or0))) (dens_cons (den_return (den_bool _ _ _)) dens_nil) dens_nil) (dens_cons (den_forT (it_zip gl_zip (by kernel_rfl) (denPs_cons (den_name "lines" _ (by kernel_rfl) (by kernel_rfl)) (denPs_cons (den_idx (den_name "told" _ (by kernel_rfl) (by kernel_rfl)) (den_int _ _ _) (fun _ _ => rfl)) denPs_nil (fun _ => rfl)) (fun _ => rfl)) (fun _ _ => rfl)) (tg_tuple (tgs_cons (tg_name (.inl (by kernel_rfl))) (tgs_cons (tg_name (.inl (by kernel_rfl))) tgs_nil (fun _ => rfl)) (fun _ => rfl)) (fun _ => rfl) (fun _ => rfl)) (dens_cons (den_assign (den_bool' (denB_and (den_call gl_tidy (by kernel_rfl) (by kernel_rfl) ke_tidy (denPs_cons (den_name "line" _ (by kernel_rfl) (by kernel_rfl)) (denPs_cons (den_name "stop" _ (by kernel_rfl) (by kernel_rfl)) denPs_nil (fun _ => rfl)) (fun _ => rfl)) (fun _ _ => rfl) hY) (denB_and (den_cmp (den_str _ _ _) (den_name "line" _ (by kernel_rfl) (by kernel_rfl)) rfl) (denB_one (den_cmp (den_cut (den_name "line" _ (by kernel_rfl) (by kernel_rfl)) (part_some (den_neg (den_int _ _ _))) part_none) (den_str _ _ _) rfl))))) (.inl (by kernel_rfl)) (fun _ => rfl)) (dens_cons (den_if (denT_cmp (den_cmp (den_name "back" _ (by kernel_rfl) (by kernel_rfl)) (den_name "line" _ (by kernel_rfl) (by kernel_rfl)) rfl) (den_name "fixed" _ (by kernel_rfl) (by kernel_rfl)) rfl) (dens_cons (den_return (den_bool _ _ _)) dens_nil) dens_nil) dens_nil)) (fun _ _ => rfl)) (dens_cons (den_return (den_bool _ _ _)) dens_nil))))))))
end
end Mine
end
section
set_option linter.unusedVariables false
namespace Mine
-- texts as lists of signs
def tx (l : List Nat) : Str := ⟨l.toArray⟩
theorem tx_inj {a b : List Nat} : (tx a = tx b) ↔ a = b := by
  unfold tx
  constructor
  · intro h; have := congrArg Str.cps h; simpa using this
  · intro h; rw [h]
theorem tx_beq (a b : List Nat) : (tx a == tx b) = (a == b) := by
  rw [Bool.eq_iff_iff]; simp [tx_inj]
theorem tx_append (a b : List Nat) : tx a ++ tx b = tx (a ++ b) := by
  show Str.append _ _ = _
  unfold Str.append tx; simp
theorem tx_length (a : List Nat) : (tx a).length = a.length := by unfold tx Str.length; simp
theorem tx_list (a : List Nat) : (tx a).cps.toList = a := by unfold tx; simp
theorem sign1_tx (c : Nat) : sign1 c = tx [c] := Eq.trans rfl rfl
theorem ofString_inj (a b : String) : (Str.ofString a = Str.ofString b) = (a = b) := by
  rw [Str.ofString_eq_toList, Str.ofString_eq_toList]
  apply propext
  constructor
  · intro h
    have h1 : a.toList.map Char.toNat = b.toList.map Char.toNat := by
      have := congrArg Str.cps h; simpa using this
    have h2 : a.toList = b.toList := List.map_inj_right (fun x y e => Char.ext (UInt32.toNat_inj.mp e)) |>.mp h1
    exact String.toList_inj.mp h2
  · intro h; rw [h]
theorem l_empty : (Str.ofString "" : Str) = tx [] := by decide +kernel
theorem l_zero : (Str.ofString "\x00" : Str) = tx [0] := by decide +kernel
theorem set_eq (ρ : Slots) (x y : Str) (v : SV) : (ρ.set x v) y = if y = x then some v else ρ y := Eq.trans rfl rfl
theorem bind_some' {β γ : Type} (a : β) (f : β → Option γ) : (some a >>= f) = f a := Eq.trans rfl rfl
theorem aug_str (a b : List Nat) (h : a.length + b.length ≤ 16777216) : augA .Add (.str (tx a)) (.str (tx b)) = some (.str (tx (a ++ b))) := by
  show (if (tx a).length + (tx b).length ≤ 16777216 then some (AV.str (tx a ++ tx b)) else none) = _
  rw [tx_length, tx_length, if_pos h, tx_append]
theorem eq_str (a b : List Nat) : cmpA .Eq (.str (tx a)) (.str (tx b)) = some (a == b) := by
  show some (tx a == tx b) = _; rw [tx_beq]
theorem ne_str (a b : List Nat) : cmpA .NotEq (.str (tx a)) (.str (tx b)) = some (!(a == b)) := by
  show some (!(tx a == tx b)) = _; rw [tx_beq]
theorem getV_set (ρ : Slots) (x y : Str) (a : AV) : getV (ρ.set x (.val a)) y = if y = x then some a else getV ρ y := by
  unfold getV; rw [set_eq]; by_cases e : y = x
  · rw [if_pos e, if_pos e]
  · rw [if_neg e, if_neg e]
theorem thenA_ret (G : Slots → Option (AFlow × Slots)) (a : AV) (ρ : Slots) : thenA G (.ret a, ρ) = some (.ret a, ρ) := Eq.trans rfl rfl
theorem truth_bool (b : Bool) : truthA (.bool b) = some b := Eq.trans rfl rfl
theorem neg_int (i : Int) : negA (.int i) = some (.int (-i)) := Eq.trans rfl rfl
theorem iter_lst (l : List AV) : iterA (.lst l) = some l := Eq.trans rfl rfl
theorem inStr_one (c : Nat) (l : List Nat) : inStr (tx [c]) (tx l) = l.contains c := by
  show (!(Builtin.Str.occurrences (tx l) ⟨#[c]⟩ 0 (tx l).length 1).isEmpty) = _
  rw [StrLaws.found_one, tx_list]
  simp [List.contains_eq_mem]
theorem idx_str (l : List Nat) (k : Nat) (hk : k < l.length) (hz : l.length ≤ 1000000) : idxA (.str (tx l)) (.int k) = some (.str (tx [l[k]])) := by
  unfold idxA
  simp only [AV.int?, bind_some', tx_list, itemL, sign1_tx]
  rw [if_pos ⟨by (first | lia | omega), by (first | lia | omega)⟩, if_pos (by (first | lia | omega))]
  simp [hk]
theorem len_str (l : List Nat) (hz : l.length ≤ 1000000) : lenF [.str (tx l)] = some (.int l.length) := by
  show (if (tx l).length ≤ 16777216 then some (AV.int (tx l).length) else none) = _
  rw [tx_length, if_pos (by (first | lia | omega))]
theorem lt_int' (a b : Int) : cmpA .Lt (.int a) (.int b) = some (decide (a < b)) := Eq.trans rfl rfl
theorem eq_int' (a b : Int) : cmpA .Eq (.int a) (.int b) = some (a == b) := Eq.trans rfl rfl
theorem notin_str (a b : List Nat) : cmpA .NotIn (.str (tx a)) (.str (tx b)) = some (!inStr (tx a) (tx b)) := Eq.trans rfl rfl
theorem aug_int (a b : Int) : augA .Add (.int a) (.int b) = some (.int (a + b)) := Eq.trans rfl rfl
theorem ne_bool (a b : Bool) : cmpA .NotEq (.bool a) (.bool b) = some (!(a == b)) := Eq.trans rfl rfl
def asF (names : List Str) (F : Slots → Option (AFlow × Slots)) : List AV → Option AV := fun args => if args.length = names.length then (F (bindA names args)).map fun r => retA r.1 else none
def one1 (n : Str) (a : AV) : Slots := fun x => if x = n then some (.val a) else none
theorem getV_one (n y : Str) (a : AV) : getV (one1 n a) y = if y = n then some a else none := by
  unfold getV one1; by_cases e : y = n
  · rw [if_pos e, if_pos e]
  · rw [if_neg e, if_neg e]
theorem bindS {β γ : Type} {x : Option β} {a : β} {f : β → Option γ} {r : Option γ} (h : x = some a) (k : f a = r) : (x >>= f) = r := by rw [h]; exact k
theorem iteT {β : Type} {x y r : β} (k : x = r) : (if (true = true) then x else y) = r := k
theorem iteF {β : Type} {x y r : β} (k : y = r) : (if (false = true) then x else y) = r := k
theorem getV_hit (ρ : Slots) (x : Str) (a : AV) : getV (ρ.set x (.val a)) x = some a := by rw [getV_set, if_pos rfl]
theorem sne {x y : String} (h : (x == y) = false) : (Str.ofString x) ≠ (Str.ofString y) := fun e => by rw [ofString_inj] at e; rw [e, beq_self_eq_true] at h; cases h
theorem getV_skip {ρ : Slots} {x y : String} {v : SV} {r : Option AV} (h : (x == y) = false) (k : getV ρ (Str.ofString x) = r) : getV (ρ.set (Str.ofString y) v) (Str.ofString x) = r := by
  unfold getV at k ⊢; rw [set_eq, if_neg (sne h)]; exact k
theorem thenS {G : Slots → Option (AFlow × Slots)} {ρ : Slots} {r : Option (AFlow × Slots)} (k : G ρ = r) : thenA G (.next, ρ) = r := k
theorem getO_hit (ρ : Slots) (x : Str) (l : OL) : getO (ρ.set x (.own l)) x = some l := by unfold getO; rw [set_eq, if_pos rfl]
theorem getO_skip {ρ : Slots} {x y : String} {v : SV} {r : Option OL} (h : (x == y) = false) (k : getO ρ (Str.ofString x) = r) : getO (ρ.set (Str.ofString y) v) (Str.ofString x) = r := by
  unfold getO at k ⊢; rw [set_eq, if_neg (sne h)]; exact k
theorem truthN_hit (ρ : Slots) (x : Str) (a : AV) : truthN (ρ.set x (.val a)) x = truthA a := by unfold truthN; rw [set_eq, if_pos rfl]
theorem truthN_skip {ρ : Slots} {x y : String} {v : SV} {r : Option Bool} (h : (x == y) = false) (k : truthN ρ (Str.ofString x) = r) : truthN (ρ.set (Str.ofString y) v) (Str.ofString x) = r := by
  unfold truthN at k ⊢; rw [set_eq, if_neg (sne h)]; exact k
theorem truthN_hitB (ρ : Slots) (x : Str) (b : Bool) : truthN (ρ.set x (.val (.bool b))) x = some b := by rw [truthN_hit]; rfl
theorem noneS {ρ : Slots} {r : Option (AFlow × Slots)} (k : some (.next, ρ) = r) : noneX (.none, ρ) = r := k
theorem ifP {β : Type} {p : Prop} {inst : Decidable p} {x y r : β} (h : p) (k : x = r) : (@ite β p inst x y) = r := by rw [if_pos h]; exact k
theorem mapS {β γ : Type} {x : Option β} {a : β} {f : β → γ} {r : Option γ} (h : x = some a) (k : some (f a) = r) : x.map f = r := by rw [h]; exact k
end Mine
end
section
set_option linter.unusedVariables false
set_option linter.unusedSimpArgs false
namespace Mine
theorem cut_str (l : List Nat) (lo hi : Option Int) (hz : l.length ≤ 1000000) : cutA (.str (tx l)) lo hi = some (.str (tx (cutL l lo hi))) := by
  show (if (tx l).length ≤ 16777216 then some (AV.str (cutS (tx l) lo hi)) else none) = _
  rw [tx_length, if_pos (by (first | lia | omega))]
  unfold cutS; rw [tx_list]; rfl
theorem clip_nat (n k : Nat) (h : k ≤ n) : clipAt n (k : Int) = k := by
  unfold clipAt
  rw [if_neg (Int.not_lt.mpr (Int.natCast_nonneg k)), Int.min_eq_left (Int.ofNat_le.mpr h), Int.max_eq_right (Int.natCast_nonneg k)]; rfl
theorem clip_over (n k : Nat) (h : n ≤ k) : clipAt n (k : Int) = n := by
  unfold clipAt
  rw [if_neg (Int.not_lt.mpr (Int.natCast_nonneg k)), Int.min_eq_right (Int.ofNat_le.mpr h), Int.max_eq_right (Int.natCast_nonneg n)]; rfl
theorem clip_m1 (n : Nat) : clipAt n (-1) = n - 1 := by
  cases n with
  | zero => rfl
  | succ n =>
    unfold clipAt
    rw [if_pos (by decide), show (-1 : Int) + ((n + 1 : Nat) : Int) = n by (first | lia | omega), Int.min_eq_left (Int.ofNat_le.mpr (Nat.le_succ n)), Int.max_eq_right (Int.natCast_nonneg n)]; rfl
theorem cut_last (l : List Nat) : cutL l (some (-1)) none = l.drop (l.length - 1) := by
  unfold cutL
  simp only [Option.elim]
  rw [clip_m1, List.take_of_length_le]; simp
theorem cut_init (l : List Nat) : cutL l none (some (-1)) = l.take (l.length - 1) := by
  unfold cutL
  simp only [Option.elim]
  rw [clip_m1]; simp
theorem idx_last (l : List AV) (a : AV) (h : l.getLast? = some a) (hz : l.length ≤ 100000000) : idxA (.lst l) (.int (-1)) = some a := by
  rw [idxA_lst, if_pos ⟨by decide, by decide⟩]
  unfold itemL
  rw [if_neg (by decide)]
  cases l with
  | nil => cases h
  | cons b r =>
    rw [List.getLast?_eq_getElem?] at h
    rw [List.length_cons] at h ⊢
    rw [if_pos (by (first | lia | omega)), show ((-1 : Int) + ((r.length + 1 : Nat) : Int)) = (r.length : Int) by (first | lia | omega), Int.toNat_natCast]
    exact h
inductive Runs (T : AV → Slots → Option Slots) (B : Slots → Option (AFlow × Slots)) : List AV → Slots → Slots → Prop
  | nil {ρ : Slots} : Runs T B [] ρ ρ
  | cons {x : AV} {xs : List AV} {ρ ρ₁ ρ' : Slots} : (T x ρ >>= B) = some (.next, ρ₁) → Runs T B xs ρ₁ ρ' → Runs T B (x :: xs) ρ ρ'
theorem Runs.append {T : AV → Slots → Option Slots} {B : Slots → Option (AFlow × Slots)} {xs ys : List AV} {ρ ρ₁ ρ' : Slots} (h : Runs T B xs ρ ρ₁) (g : Runs T B ys ρ₁ ρ') : Runs T B (xs ++ ys) ρ ρ' := by
  induction h with
  | nil => exact g
  | cons e _ ih => exact .cons e (ih g)
theorem Runs.forA {T : AV → Slots → Option Slots} {B : Slots → Option (AFlow × Slots)} {xs : List AV} {ρ ρ' : Slots} (h : Runs T B xs ρ ρ') : Mine.forA T B xs ρ = some (.next, ρ') := by
  induction h with
  | nil => rfl
  | cons e _ ih =>
    obtain ⟨ρ₀, e₀, e₁⟩ := bindO e
    simp only [Mine.forA, e₀, bind_some', e₁, ih]
end Mine
end
section
set_option linter.unusedVariables false
set_option linter.unusedSimpArgs false
namespace Mine
-- one sign in the place of another
def swp (c e k : Nat) : Nat := if k = c then e else k
theorem swp_free (c e : Nat) : ∀ l : List Nat, c ∉ l → l.map (swp c e) = l
  | [], _ => rfl
  | k :: r, h => by
    rw [List.map_cons, swp_free c e r fun m => h (List.mem_cons_of_mem _ m), swp, if_neg (show ¬ k = c from fun q => h (q ▸ List.mem_cons_self ..))]
theorem swp_join (c e : Nat) : ∀ parts : List Str, (∀ p ∈ parts, c ∉ p.cps.toList) → (Str.join ⟨#[c]⟩ parts).cps.toList.map (swp c e) = (Str.join ⟨#[e]⟩ parts).cps.toList
  | [], _ => rfl
  | [p], h => swp_free c e _ (h p (List.mem_singleton.mpr rfl))
  | p :: q :: r, h => by
    have ih := swp_join c e (q :: r) fun a ha => h a (List.mem_cons_of_mem _ ha)
    show (p ++ ⟨#[c]⟩ ++ Str.join ⟨#[c]⟩ (q :: r)).cps.toList.map (swp c e) = (p ++ ⟨#[e]⟩ ++ Str.join ⟨#[e]⟩ (q :: r)).cps.toList
    simp only [Str.cps_append, Array.toList_append, List.map_append]
    rw [ih, swp_free c e _ (h p (List.mem_cons_self ..))]
    simp [swp]
theorem repl_swp (l : List Nat) (c e : Nat) : Txt.replace (tx l) (tx [c]) (tx [e]) = tx (l.map (swp c e)) := by
  have h : (Txt.replace (tx l) ⟨#[c]⟩ ⟨#[e]⟩).cps.toList = l.map (swp c e) := by
    rw [StrLaws.replace_one, ← swp_join c e _ (StrLaws.split_free (tx l) c), StrLaws.join_split, tx_list]
  unfold tx; rw [← h]; rfl
theorem repl_del (l : List Nat) (c : Nat) : Txt.replace (tx l) (tx [c]) (tx []) = tx (l.filter (· != c)) := by
  have h := replace_strikes (tx l) c
  rw [tx_list] at h
  unfold tx; rw [← h]; rfl
theorem l_blank : (Str.ofString " " : Str) = tx [32] := by decide +kernel
theorem l_tab : (Str.ofString "\t" : Str) = tx [9] := by decide +kernel
theorem l_nl : (Str.ofString "\n" : Str) = tx [10] := by decide +kernel
theorem replA_swp (y z : Str) (c e : Nat) (hy : y = tx [c]) (hz : z = tx [e]) (l : List Nat) (h : l.length ≤ 1000000) : replA y z (.str (tx l)) = some (.str (tx (l.map (swp c e)))) := by
  subst hy hz
  show (if (tx l).length ≤ 1000000 ∧ (tx [e]).length ≤ 14 then some (AV.str (Txt.replace (tx l) (tx [c]) (tx [e]))) else none) = _
  rw [if_pos ⟨by rw [tx_length]; exact h, by rw [tx_length]; simp⟩, repl_swp]
theorem replA_del (y z : Str) (c : Nat) (hy : y = tx [c]) (hz : z = tx []) (l : List Nat) (h : l.length ≤ 1000000) : replA y z (.str (tx l)) = some (.str (tx (l.filter (· != c)))) := by
  subst hy hz
  show (if (tx l).length ≤ 1000000 ∧ (tx []).length ≤ 14 then some (AV.str (Txt.replace (tx l) (tx [c]) (tx []))) else none) = _
  rw [if_pos ⟨by rw [tx_length]; exact h, by rw [tx_length]; simp⟩, repl_del]
-- newlines taken off behind
def rst (l : List Nat) : List Nat := (l.reverse.dropWhile (· == 10)).reverse
theorem takeWhile_congr' {p q : Nat → Bool} (h : ∀ a, p a = q a) (l : List Nat) : l.takeWhile p = l.takeWhile q := by rw [show p = q from funext h]
theorem rstrip_rst (l : List Nat) : Txt.rstripChars (tx l) (tx [10]) = tx (rst l) := by
  unfold Txt.rstripChars
  rw [PyProof.Rows.stripBy_eq]
  unfold stripLo stripHi
  rw [if_neg Bool.false_ne_true, if_pos rfl, List.drop_zero, tx_list, tx_length]
  rw [takeWhile_congr' (q := fun c => c == 10) (fun a => by unfold tx; simp [eq_comm]; rfl) l.reverse]
  have e : l = rst l ++ (l.reverse.takeWhile (· == 10)).reverse := by
    unfold rst
    rw [← List.reverse_append, List.takeWhile_append_dropWhile, List.reverse_reverse]
  have hl : l.length = (rst l).length + (l.reverse.takeWhile (· == 10)).length := by
    have := congrArg List.length e
    rw [List.length_append, List.length_reverse] at this
    exact this
  rw [hl, Nat.add_sub_cancel]
  have h2 : ∀ x : Str, ∀ k, (Builtin.Str.strSub x 0 k) = tx (x.cps.toList.take k) := fun x k => by
    unfold Builtin.Str.strSub tx; congr 1; apply Array.toList_inj.mp; simp
  rw [h2, tx_list]
  have e2 : ∀ (a b c : List Nat), c = a ++ b → c.take a.length = a := fun a b c h => by rw [h, List.take_left' rfl]
  rw [e2 _ _ _ e]
theorem rstripF_eq (y : Str) (hy : y = tx [10]) (l : List Nat) (h : l.length ≤ 1000000) : rstripF [.str (tx l), .str y] = some (.str (tx (rst l))) := by
  subst hy
  show (if (tx l).length ≤ 16777216 then some (AV.str (Txt.rstripChars (tx l) (tx [10]))) else none) = _
  rw [if_pos (by rw [tx_length]; (first | lia | omega)), rstrip_rst]
-- tabs filled
def gap (n : Int) (col : Nat) : Nat := if n > 0 then n.toNat - col % n.toNat else 0
def nxt (c col : Nat) : Nat := if (c == 10 || c == 13) = true then 0 else col + 1
def expS (n : Int) : Nat → List Nat → List Nat
  | _, [] => []
  | col, c :: r => if c = 9 then List.replicate (gap n col) 32 ++ expS n (col + gap n col) r else c :: expS n (nxt c col) r
def expT (n : Int) : Nat → List Nat → List Nat
  | _, [] => []
  | col, c :: r => if c = 9 then List.replicate (gap n col) 9 ++ expT n (col + gap n col) r else swp 0 32 c :: expT n (nxt c col) r
theorem exp_fold (n : Int) : ∀ (l : List Nat) (out : Array Nat) (col : Nat), (l.foldl (expStep n) (out, col)).1 = out ++ (expS n col l).toArray
  | [], out, col => by simp [expS]
  | c :: r, out, col => by
    rw [List.foldl_cons]
    unfold expStep expS
    by_cases h : c = 9
    · have h' : (c == 9) = true := by simpa using h
      rw [if_pos h', if_pos h]
      show (r.foldl (expStep n) (out ++ Array.replicate (gap n col) 32, col + gap n col)).1 = _
      rw [exp_fold n r]
      rw [Array.append_assoc]; congr 1; apply Array.toList_inj.mp; simp
    · have h' : ¬ (c == 9) = true := by simpa using h
      rw [if_neg h', if_neg h]
      show (r.foldl (expStep n) (out.push c, nxt c col)).1 = _
      rw [exp_fold n r]
      simp
theorem expS_free (n : Int) : ∀ (l : List Nat) (col : Nat), 9 ∉ l → expS n col l = l
  | [], _, _ => rfl
  | c :: r, col, h => by
    unfold expS
    rw [if_neg (show ¬ c = 9 from fun e => h (e ▸ List.mem_cons_self ..)), expS_free n r _ fun m => h (List.mem_cons_of_mem _ m)]
theorem expandT_eq (n : Int) (l : List Nat) : expandT n (tx l) = tx (expS n 0 l) := by
  unfold expandT
  by_cases h : 9 ∈ l
  · rw [if_neg (by unfold tx; simpa using h), tx_list, exp_fold]
    unfold tx; simp
  · rw [if_pos (by unfold tx; simpa using h), expS_free n l 0 h]
theorem expandF_eq (n : Int) (l : List Nat) (h1 : -1000000 < n) (h2 : n < 1000000) (h3 : (expS n 0 l).length ≤ 1000000) : expandF [.str (tx l), .int n] = some (.str (tx (expS n 0 l))) := by
  show (if -1000000 < n ∧ n < 1000000 ∧ ((tx l).cps.toList.foldl (expStep n) (#[], 0)).1.size ≤ 16777216 then some (AV.str (expandT n (tx l))) else none) = _
  rw [if_pos ⟨h1, h2, by rw [tx_list, exp_fold]; simp; (first | lia | omega)⟩, expandT_eq]
theorem nxt_swp (c col : Nat) : nxt (swp 32 0 c) col = nxt c col := by
  unfold nxt swp
  by_cases h : c = 32
  · subst h; rfl
  · rw [if_neg h]
theorem exp_pipe (n : Int) : ∀ (l : List Nat) (col : Nat), ((expS n col (l.map (swp 32 0))).map (swp 32 9)).map (swp 0 32) = expT n col l
  | [], _ => rfl
  | c :: r, col => by
    rw [List.map_cons]
    unfold expS expT
    by_cases h : c = 9
    · subst h
      rw [if_pos rfl, if_pos (by decide), List.map_append, List.map_append, exp_pipe n r]
      simp [swp]
    · have h' : swp 32 0 c ≠ 9 := by unfold swp; split <;> (first | lia | omega)
      rw [if_neg h', if_neg h, List.map_cons, List.map_cons, nxt_swp, exp_pipe n r]
      congr 1
      unfold swp
      by_cases h32 : c = 32
      · subst h32; rfl
      · rw [if_neg h32, if_neg h32]
theorem expT_len (n : Int) (l : List Nat) (col : Nat) : (expS n col (l.map (swp 32 0))).length = (expT n col l).length := by
  rw [← exp_pipe]; simp
end Mine
end
section
set_option linter.unusedVariables false
set_option linter.unusedSimpArgs false
namespace Mine
-- what a line becomes, read back
def undo (n : Int) : Nat → List Nat → List Nat
  | _, [] => []
  | col, c :: r => if c ≠ 9 ∨ (0 < n ∧ nxt c col % n.toNat = 0) then c :: undo n (nxt c col) r else undo n (nxt c col) r
theorem swp_ne9 {c : Nat} (h : c ≠ 9) : swp 0 32 c ≠ 9 := by unfold swp; split <;> (first | lia | omega)
theorem nxt_swp0 (c col : Nat) : nxt (swp 0 32 c) col = nxt c col := by
  unfold nxt swp
  by_cases h : c = 0
  · subst h; rfl
  · rw [if_neg h]
theorem gap_pos {n : Int} (h : 0 < n) (col : Nat) : 0 < gap n col ∧ gap n col ≤ n.toNat ∧ (col + gap n col) % n.toNat = 0 := by
  unfold gap
  rw [if_pos h]
  have hm : col % n.toNat < n.toNat := Nat.mod_lt _ (by (first | lia | omega))
  refine ⟨by (first | lia | omega), by (first | lia | omega), ?_⟩
  have e : col + (n.toNat - col % n.toNat) = n.toNat * (col / n.toNat) + n.toNat := by
    have := Nat.div_add_mod col n.toNat
    (first | lia | omega)
  rw [e, Nat.add_mod_right, Nat.mul_mod_right]
theorem gap_neg {n : Int} (h : ¬ 0 < n) (col : Nat) : gap n col = 0 := by unfold gap; rw [if_neg (by (first | lia | omega))]
theorem nxt_tab (col : Nat) : nxt 9 col = col + 1 := rfl
theorem undo_tabs {n : Int} (hn : 0 < n) (r : List Nat) : ∀ (k col : Nat), 0 < k → k ≤ n.toNat → (col + k) % n.toNat = 0 → undo n col (List.replicate k 9 ++ r) = 9 :: undo n (col + k) r
  | 0, _, h, _, _ => by (first | lia | omega)
  | 1, col, _, _, h => by
    show undo n col (9 :: r) = _
    rw [undo, nxt_tab, if_pos (.inr ⟨hn, h⟩)]
  | k + 2, col, _, hk, h => by
    show undo n col (9 :: (List.replicate (k + 1) 9 ++ r)) = _
    have hne : (col + 1) % n.toNat ≠ 0 := fun e => by
      have h' : (col + 1 + (k + 1)) % n.toNat = 0 := by rw [← h]; congr 1; (first | lia | omega)
      rw [Nat.add_mod, e, Nat.zero_add, Nat.mod_mod, Nat.mod_eq_of_lt (by (first | lia | omega))] at h'
      (first | lia | omega)
    rw [undo, nxt_tab, if_neg (fun q => q.elim (fun q => q rfl) fun q => hne q.2), undo_tabs hn r (k + 1) (col + 1) (by (first | lia | omega)) (by (first | lia | omega)) (by rw [← h]; congr 1; (first | lia | omega))]
    congr 2; (first | lia | omega)
theorem undo_exp {n : Int} (hn : 0 < n) : ∀ (l : List Nat) (col : Nat), undo n col (expT n col l) = l.map (swp 0 32)
  | [], _ => rfl
  | c :: r, col => by
    unfold expT
    by_cases h : c = 9
    · subst h
      obtain ⟨h1, h2, h3⟩ := gap_pos hn col
      rw [if_pos rfl, undo_tabs hn _ _ _ h1 h2 h3, undo_exp hn r]; rfl
    · rw [if_neg h, undo, if_pos (.inl (swp_ne9 h)), nxt_swp0, undo_exp hn r]; rfl
theorem exp_low {n : Int} (hn : ¬ 0 < n) : ∀ (l : List Nat) (col : Nat), expT n col l = (l.filter (· != 9)).map (swp 0 32)
  | [], _ => rfl
  | c :: r, col => by
    unfold expT
    by_cases h : c = 9
    · subst h
      rw [if_pos rfl, gap_neg hn, exp_low hn r]; rfl
    · rw [if_neg h, exp_low hn r, List.filter_cons_of_pos (by simpa using h)]; rfl
theorem undo_low {n : Int} (hn : ¬ 0 < n) : ∀ (l : List Nat) (col : Nat), undo n col l = l.filter (· != 9)
  | [], _ => rfl
  | c :: r, col => by
    unfold undo
    by_cases h : c = 9
    · subst h
      rw [if_neg (fun q => q.elim (fun q => q rfl) fun q => hn q.1), undo_low hn r]; rfl
    · rw [if_pos (.inl h), undo_low hn r, List.filter_cons_of_pos (by simpa using h)]
theorem exp_bound {n : Int} {m : Nat} (hn : n.toNat ≤ m) (hm : 1 ≤ m) : ∀ (l : List Nat) (col : Nat), (expT n col l).length ≤ m * l.length
  | [], _ => by simp [expT]
  | c :: r, col => by
    unfold expT
    have hg : gap n col ≤ m := by
      by_cases h : 0 < n
      · have := (gap_pos h col).2.1; (first | lia | omega)
      · rw [gap_neg h]; (first | lia | omega)
    split
    · have := exp_bound hn hm r (col + gap n col)
      rw [List.length_append, List.length_replicate, List.length_cons, Nat.mul_add]; (first | lia | omega)
    · have := exp_bound hn hm r (nxt c col)
      rw [List.length_cons, List.length_cons, Nat.mul_add]; (first | lia | omega)
theorem expT_append (n : Int) : ∀ (l m : List Nat) (col : Nat), ∃ col', expT n col (l ++ m) = expT n col l ++ expT n col' m
  | [], m, col => ⟨col, rfl⟩
  | c :: r, m, col => by
    rw [List.cons_append, expT, expT]
    by_cases h : c = 9
    · obtain ⟨col', e⟩ := expT_append n r m (col + gap n col)
      exact ⟨col', by rw [if_pos h, if_pos h, e, List.append_assoc]⟩
    · obtain ⟨col', e⟩ := expT_append n r m (nxt c col)
      exact ⟨col', by rw [if_neg h, if_neg h, e]; rfl⟩
theorem exp_nls (n : Int) : ∀ (k col : Nat), expT n col (List.replicate k 10) = List.replicate k 10
  | 0, _ => rfl
  | k + 1, col => by
    show expT n col (10 :: List.replicate k 10) = _
    unfold expT
    rw [if_neg (by decide), exp_nls n k]; rfl
theorem rst_nls (l : List Nat) : ∀ k : Nat, rst (l ++ List.replicate k 10) = rst l
  | 0 => by rw [List.replicate_zero, List.append_nil]
  | k + 1 => by
    rw [List.replicate_succ', ← List.append_assoc]
    unfold rst
    rw [List.reverse_append]
    show (((10 :: (l ++ List.replicate k 10).reverse)).dropWhile (· == 10)).reverse = _
    rw [List.dropWhile_cons_of_pos (by decide)]
    exact rst_nls l k
theorem exp_mem {n : Int} {a : Nat} : ∀ {l : List Nat} {col : Nat}, a ∈ expT n col l → a = 9 ∨ ∃ c ∈ l, swp 0 32 c = a
  | [], _, h => by cases h
  | c :: r, col, h => by
    unfold expT at h
    split at h
    · rcases List.mem_append.mp h with h | h
      · exact .inl (List.eq_of_mem_replicate h)
      · rcases exp_mem h with h | ⟨d, hd, e⟩
        · exact .inl h
        · exact .inr ⟨d, List.mem_cons_of_mem _ hd, e⟩
    · rcases List.mem_cons.mp h with h | h
      · exact .inr ⟨c, List.mem_cons_self, h.symm⟩
      · rcases exp_mem h with h | ⟨d, hd, e⟩
        · exact .inl h
        · exact .inr ⟨d, List.mem_cons_of_mem _ hd, e⟩
end Mine
end
section
set_option linter.unusedVariables false
set_option linter.unusedSimpArgs false
set_option maxHeartbeats 1000000
namespace Mine
def tidyL (n : Int) : Nat → List Nat → Bool
  | _, [] => true
  | col, c :: r => if c = 9 ∧ r.head? ≠ some 9 ∧ (n < 1 ∨ nxt c col % n.toNat ≠ 0) then false else tidyL n (nxt c col) r
theorem tidy_tabs {n : Int} (hn : 0 < n) (r : List Nat) : ∀ (k col : Nat), 0 < k → (col + k) % n.toNat = 0 → tidyL n col (List.replicate k 9 ++ r) = tidyL n (col + k) r
  | 0, _, h, _ => by (first | lia | omega)
  | 1, col, _, h => by
    show tidyL n col (9 :: r) = _
    rw [tidyL, nxt_tab, if_neg]
    rintro ⟨_, _, q | q⟩
    · (first | lia | omega)
    · exact q h
  | k + 2, col, _, h => by
    show tidyL n col (9 :: (List.replicate (k + 1) 9 ++ r)) = _
    rw [tidyL, nxt_tab, if_neg, tidy_tabs hn r (k + 1) (col + 1) (by (first | lia | omega)) (by rw [← h]; congr 1; (first | lia | omega))]
    · congr 1; (first | lia | omega)
    · rintro ⟨_, q, _⟩; exact q rfl
theorem tidy_exp {n : Int} (hn : 0 < n) : ∀ (l : List Nat) (col : Nat), tidyL n col (expT n col l) = true
  | [], _ => rfl
  | c :: r, col => by
    rw [expT]
    by_cases h : c = 9
    · obtain ⟨h1, h2, h3⟩ := gap_pos hn col
      rw [if_pos h, tidy_tabs hn _ _ _ h1 h3, tidy_exp hn r]
    · rw [if_neg h, tidyL, if_neg (fun q => swp_ne9 h q.1), nxt_swp0, tidy_exp hn r]
theorem tidy_none {n : Int} : ∀ (l : List Nat) (col : Nat), 9 ∉ l → tidyL n col l = true
  | [], _, _ => rfl
  | c :: r, col, h => by
    rw [tidyL, if_neg (show ¬ (c = 9 ∧ r.head? ≠ some 9 ∧ (n < 1 ∨ nxt c col % n.toNat ≠ 0)) from fun q => h (by rw [q.1]; exact List.mem_cons_self ..)), tidy_none r _ fun m => h (List.mem_cons_of_mem _ m)]
theorem tidy_low {n : Int} (hn : ¬ 0 < n) : ∀ (l : List Nat) (col : Nat), tidyL n col l = true → 9 ∉ l
  | [], _, _ => List.not_mem_nil
  | c :: r, col, h => by
    rw [tidyL] at h
    by_cases hc : c = 9 ∧ r.head? ≠ some 9 ∧ (n < 1 ∨ nxt c col % n.toNat ≠ 0)
    · rw [if_pos hc] at h; cases h
    · rw [if_neg hc] at h
      have hr := tidy_low hn r _ h
      intro m
      rcases List.mem_cons.mp m with e | m
      · have hh : r.head? = some 9 := by
          rcases Decidable.em (r.head? = some 9) with q | q
          · exact q
          · exact (hc ⟨e.symm, q, .inl (by (first | lia | omega))⟩).elim
        cases r with
        | nil => cases hh
        | cons b r => simp at hh; exact hr (by rw [hh]; exact List.mem_cons_self ..)
      · exact hr m
theorem tidy_mono {n m : Int} (hn : 0 < n) (hm : 0 < m) (hd : ∀ x : Nat, x % m.toNat = 0 → x % n.toNat = 0) : ∀ (l : List Nat) (col : Nat), tidyL m col l = true → tidyL n col l = true
  | [], _, _ => rfl
  | c :: r, col, h => by
    rw [tidyL] at h ⊢
    by_cases hc : c = 9 ∧ r.head? ≠ some 9 ∧ (m < 1 ∨ nxt c col % m.toNat ≠ 0)
    · rw [if_pos hc] at h; cases h
    · rw [if_neg hc] at h
      rw [if_neg, tidy_mono hn hm hd r _ h]
      rintro ⟨h1, h2, h3⟩
      refine hc ⟨h1, h2, .inr fun q => ?_⟩
      rcases h3 with h3 | h3
      · (first | lia | omega)
      · exact h3 (hd _ q)
theorem next_stop {N q r1 r2 : Nat} (h1 : r1 < N) (h2 : r2 < N) (h : (N * q + r1 + 1) % N = 0) : r1 + 1 = N := by
  rw [Nat.add_assoc, Nat.mul_add_mod] at h
  rcases Nat.lt_or_ge (r1 + 1) N with e | e
  · rw [Nat.mod_eq_of_lt e] at h; (first | lia | omega)
  · (first | lia | omega)
theorem exp_undo {n : Int} (hn : 0 < n) : ∀ (t : List Nat) (col col' : Nat), col' ≤ col → col' / n.toNat = col / n.toNat → (col' < col → t.head? = some 9) → tidyL n col t = true → 0 ∉ t → expT n col' (undo n col t) = List.replicate (col - col') 9 ++ t
  | [], col, col', h1, _, h3, _, _ => by
    have : col' = col := by
      rcases Nat.lt_or_ge col' col with e | e
      · have := h3 e; cases this
      · (first | lia | omega)
    subst this
    simp [undo, expT]
  | c :: r, col, col', h1, h2, h3, h4, h5 => by
    have h5' : 0 ∉ r := fun m => h5 (List.mem_cons_of_mem _ m)
    rw [tidyL] at h4
    by_cases hc : c = 9
    · subst hc
      rw [nxt_tab] at h4
      have hN : 0 < n.toNat := by (first | lia | omega)
      obtain ⟨N, hN'⟩ : ∃ N, n.toNat = N := ⟨_, rfl⟩
      rw [hN'] at h2 h4 hN
      have d1 := Nat.div_add_mod col N
      have d2 := Nat.div_add_mod col' N
      have l1 := Nat.mod_lt col hN
      have l2 := Nat.mod_lt col' hN
      rw [h2] at d2
      obtain ⟨q, hq⟩ : ∃ q, col / N = q := ⟨_, rfl⟩
      obtain ⟨r1, hr1⟩ : ∃ r, col % N = r := ⟨_, rfl⟩
      obtain ⟨r2, hr2⟩ : ∃ r, col' % N = r := ⟨_, rfl⟩
      rw [hq, hr1] at d1
      rw [hq, hr2] at d2
      rw [hr1] at l1
      rw [hr2] at l2
      by_cases hs : (col + 1) % N = 0
      · have e1 : r1 + 1 = N := next_stop (q := q) l1 l2 (by rw [d1]; exact hs)
        rw [if_neg (by rintro ⟨_, _, h | h⟩; · (first | lia | omega)
                       · exact h hs)] at h4
        rw [undo, nxt_tab, if_pos (.inr ⟨hn, by rw [hN']; exact hs⟩), expT, if_pos rfl]
        have eg : gap n col' = col - col' + 1 := by
          unfold gap
          rw [if_pos (by (first | lia | omega)), hN', hr2]
          (first | lia | omega)
        rw [eg, show col' + (col - col' + 1) = col + 1 by (first | lia | omega), exp_undo hn r (col + 1) (col + 1) (Nat.le_refl _) rfl (fun h => absurd h (Nat.lt_irrefl _)) h4 h5']
        rw [Nat.sub_self, List.replicate_zero, List.nil_append, List.replicate_succ', List.append_assoc]; rfl
      · have hh : r.head? = some 9 := by
          rcases Decidable.em (r.head? = some 9) with e | e
          · exact e
          · rw [if_pos ⟨rfl, e, .inr hs⟩] at h4; cases h4
        rw [if_neg (by rintro ⟨_, h, _⟩; exact h hh)] at h4
        rw [undo, nxt_tab, if_neg (by rintro (h | ⟨_, h⟩); · exact h rfl
                                      · rw [hN'] at h; exact hs h)]
        have e1 : r1 + 1 < N := by
          rcases Nat.lt_or_ge (r1 + 1) N with e | e
          · exact e
          · exfalso; apply hs
            rw [← d1, show N * q + r1 + 1 = N * q + N by (first | lia | omega), Nat.add_mod_right, Nat.mul_mod_right]
        have e2 : (col + 1) / N = q := by
          rw [← d1, Nat.add_assoc, Nat.mul_add_div hN, Nat.div_eq_of_lt e1, Nat.add_zero]
        rw [exp_undo hn r (col + 1) col' (by (first | lia | omega)) (by rw [hN', e2, h2, hq]) (fun _ => hh) h4 h5']
        rw [show col + 1 - col' = (col - col') + 1 by (first | lia | omega), List.replicate_succ', List.append_assoc]; rfl
    · have e : col' = col := by
        rcases Nat.lt_or_ge col' col with e | e
        · have := h3 e; simp at this; exact (hc this).elim
        · (first | lia | omega)
      subst e
      rw [if_neg (fun q => hc q.1)] at h4
      have hc0 : swp 0 32 c = c := by unfold swp; rw [if_neg]; intro q; exact h5 (q ▸ List.mem_cons_self ..)
      rw [undo, if_pos (.inl hc), expT, if_neg hc, hc0, exp_undo hn r _ _ (Nat.le_refl _) rfl (fun h => absurd h (Nat.lt_irrefl _)) h4 h5']
      simp
-- newlines behind
theorem rst_snoc (l : List Nat) (c : Nat) : rst (l ++ [c]) = if c = 10 then rst l else l ++ [c] := by
  unfold rst
  rw [List.reverse_append]
  show (((c :: l.reverse)).dropWhile (· == 10)).reverse = _
  by_cases h : c = 10
  · rw [if_pos h, List.dropWhile_cons_of_pos (by simp [h])]
  · rw [if_neg h, List.dropWhile_cons_of_neg (by simp [h]), List.reverse_cons, List.reverse_reverse]
theorem snoc_cases (l : List Nat) : l = [] ∨ ∃ m c, l = m ++ [c] := by
  rcases List.eq_nil_or_concat l with h | ⟨m, c, h⟩
  · exact .inl h
  · exact .inr ⟨m, c, by rw [h, List.concat_eq_append]⟩
def endsNl (l : List Nat) : Bool := l.getLast? == some 10
theorem ends_snoc (l : List Nat) (c : Nat) : endsNl (l ++ [c]) = (c == 10) := by unfold endsNl; simp
theorem rst_same {l : List Nat} (h : endsNl l = false) : rst l = l := by
  rcases snoc_cases l with rfl | ⟨m, c, rfl⟩
  · rfl
  · rw [ends_snoc] at h; rw [rst_snoc, if_neg (by simpa using h)]
theorem rst_split : ∀ (n : Nat) (l : List Nat), l.length ≤ n → endsNl (rst l) = false ∧ ∃ k, l = rst l ++ List.replicate k 10
  | 0, l, h => by rw [List.length_eq_zero_iff.mp (Nat.le_zero.mp h)]; exact ⟨rfl, 0, rfl⟩
  | n + 1, l, h => by
    rcases snoc_cases l with rfl | ⟨m, c, rfl⟩
    · exact ⟨rfl, 0, rfl⟩
    · rw [rst_snoc]
      by_cases hc : c = 10
      · rw [if_pos hc]
        obtain ⟨a, k, e⟩ := rst_split n m (by simp at h; (first | lia | omega))
        refine ⟨a, k + 1, ?_⟩
        conv => lhs; rw [e]
        rw [List.replicate_succ', List.append_assoc, hc]
      · rw [if_neg hc]; exact ⟨by rw [ends_snoc]; simpa using hc, 0, by simp⟩
theorem rst_ends (l : List Nat) : endsNl (rst l) = false := (rst_split l.length l (Nat.le_refl _)).1
theorem rst_idem (l : List Nat) : rst (rst l) = rst l := rst_same (rst_ends l)
theorem rst_map (l : List Nat) (f : Nat → Nat) (h : ∀ c, f c = 10 ↔ c = 10) : rst (l.map f) = (rst l).map f := by
  obtain ⟨h1, k, e⟩ := rst_split l.length l (Nat.le_refl _)
  conv => lhs; rw [e]
  rw [List.map_append, List.map_replicate, (h 10).mpr rfl, rst_nls, rst_same]
  rcases snoc_cases (rst l) with e | ⟨m, c, e⟩
  · rw [e]; rfl
  · rw [e, ends_snoc] at h1
    rw [e, List.map_append]
    show endsNl (m.map f ++ [f c]) = false
    rw [ends_snoc]
    have : c ≠ 10 := by simpa using h1
    simpa using fun q => this ((h c).mp q)
theorem swp_nl (c : Nat) : swp 0 32 c = 10 ↔ c = 10 := by unfold swp; split <;> (first | lia | omega)
theorem exp_ends {n : Int} (hn : 0 < n) : ∀ (l : List Nat) (col : Nat), endsNl l = false → endsNl (expT n col l) = false := fun l col h => by
  rcases snoc_cases l with rfl | ⟨m, c, rfl⟩
  · rfl
  · obtain ⟨col', e⟩ := expT_append n m [c] col
    rw [e, expT]
    rw [ends_snoc] at h
    by_cases hc : c = 9
    · rw [if_pos hc]
      obtain ⟨h1, _⟩ := gap_pos hn col'
      obtain ⟨g, hg⟩ : ∃ g, gap n col' = g + 1 := ⟨gap n col' - 1, by (first | lia | omega)⟩
      show endsNl (expT n col m ++ (List.replicate (gap n col') 9 ++ [])) = false
      rw [List.append_nil, hg, List.replicate_succ', ← List.append_assoc, ends_snoc]; rfl
    · rw [if_neg hc]
      show endsNl (expT n col m ++ [swp 0 32 c]) = false
      rw [ends_snoc]
      have : c ≠ 10 := by simpa using h
      simpa using fun q => this ((swp_nl c).mp q)
theorem rst_exp {n : Int} (hn : 0 < n) (l : List Nat) : rst (expT n 0 l) = expT n 0 (rst l) := by
  obtain ⟨h1, k, e⟩ := rst_split l.length l (Nat.le_refl _)
  conv => lhs; rw [e]
  obtain ⟨col, e'⟩ := expT_append n (rst l) (List.replicate k 10) 0
  rw [e', exp_nls, rst_nls, rst_same (exp_ends hn _ _ h1)]
theorem exp_no0 (n : Int) (l : List Nat) (col : Nat) : 0 ∉ expT n col l := fun h => by
  rcases exp_mem h with h | ⟨c, _, e⟩
  · (first | lia | omega)
  · unfold swp at e; split at e <;> (first | lia | omega)
theorem rst_sub {l : List Nat} {c : Nat} (h : c ∈ rst l) : c ∈ l := by
  obtain ⟨_, k, e⟩ := rst_split l.length l (Nat.le_refl _)
  rw [e]; exact List.mem_append.mpr (.inl h)
theorem filt_map (l : List Nat) : (l.map (swp 0 32)).filter (· != 9) = (l.filter (· != 9)).map (swp 0 32) := by
  induction l with
  | nil => rfl
  | cons c r ih =>
    rw [List.map_cons]
    by_cases h : c = 9
    · subst h; simpa [swp] using ih
    · rw [List.filter_cons_of_pos (by simpa using swp_ne9 h), List.filter_cons_of_pos (by simpa using h), List.map_cons, ih]
def E5 (n : Int) (l : List Nat) : List Nat := rst (expT n 0 l)
def plain5 (n : Int) (l : List Nat) : List Nat := rst (if n < 1 then (l.map (swp 0 32)).filter (· != 9) else l.map (swp 0 32))
theorem E5_tidy (n : Int) (l : List Nat) : tidyL n 0 (E5 n l) = true := by
  unfold E5
  by_cases hn : 0 < n
  · rw [rst_exp hn, tidy_exp hn]
  · refine tidy_none _ _ fun m => ?_
    have := rst_sub m
    rw [exp_low hn] at this
    obtain ⟨c, hc, e⟩ := List.mem_map.mp this
    exact swp_ne9 (by simpa using (List.mem_filter.mp hc).2) e
theorem no9_filter {l : List Nat} (h : 9 ∉ l) : l.filter (· != 9) = l := by
  rw [List.filter_eq_self]; intro a ha; simp; intro e; exact h (e ▸ ha)
theorem E5_low_no9 {n : Int} (hn : ¬ 0 < n) (l : List Nat) : 9 ∉ E5 n l := fun m => by
  have := rst_sub m
  rw [exp_low hn] at this
  obtain ⟨c, hc, e⟩ := List.mem_map.mp this
  exact swp_ne9 (by simpa using (List.mem_filter.mp hc).2) e
theorem E5_undo (n : Int) (l : List Nat) : undo n 0 (E5 n l) = plain5 n l := by
  unfold plain5
  by_cases hn : 0 < n
  · unfold E5
    rw [if_neg (by (first | lia | omega)), rst_exp hn, undo_exp hn, rst_map _ _ swp_nl]
  · rw [if_pos (by (first | lia | omega)), undo_low hn, no9_filter (E5_low_no9 hn l), filt_map]
    unfold E5; rw [exp_low hn]
theorem E5_no0 (n : Int) (l : List Nat) : 0 ∉ E5 n l := fun m => exp_no0 n l 0 (rst_sub m)
theorem E5_back {n : Int} {t : List Nat} (ht : tidyL n 0 t = true) (h0 : 0 ∉ t) : E5 n (undo n 0 t) = rst t := by
  unfold E5
  by_cases hn : 0 < n
  · rw [exp_undo hn t 0 0 (Nat.le_refl _) rfl (fun h => absurd h (Nat.lt_irrefl _)) ht h0]; simp
  · have h9 := tidy_low hn t 0 ht
    rw [undo_low hn, no9_filter h9, exp_low hn, no9_filter h9, swp_free 0 32 t h0]
theorem E5_twice {n m : Int} (h : (0 < n ∧ 0 < m ∧ ∀ x : Nat, x % m.toNat = 0 → x % n.toNat = 0) ∨ (¬ 0 < n ∧ ¬ 0 < m)) (l : List Nat) : E5 n (undo n 0 (E5 m l)) = E5 m l := by
  have ht : tidyL n 0 (E5 m l) = true := by
    rcases h with ⟨h1, h2, h3⟩ | ⟨h1, h2⟩
    · exact tidy_mono h1 h2 h3 _ _ (E5_tidy m l)
    · exact tidy_none _ _ (E5_low_no9 h2 l)
  rw [E5_back ht (E5_no0 m l)]
  exact rst_idem _
theorem E5_fixed (n : Int) (l : List Nat) : (E5 n (undo n 0 l) == l) = (tidyL n 0 l && (!l.contains 0) && !endsNl l) := by
  rw [Bool.eq_iff_iff, beq_iff_eq, Bool.and_eq_true, Bool.and_eq_true, Bool.not_eq_true', Bool.not_eq_true']
  constructor
  · intro e
    rw [← e]
    refine ⟨⟨E5_tidy _ _, ?_⟩, rst_ends _⟩
    have := E5_no0 n (undo n 0 l)
    rw [List.contains_eq_mem]; simpa using this
  · rintro ⟨⟨h1, h2⟩, h3⟩
    rw [E5_back h1 (by rw [List.contains_eq_mem] at h2; simpa using h2), rst_same h3]
end Mine
end
section
set_option linter.unusedVariables false
set_option linter.unusedSimpArgs false
set_option maxHeartbeats 1000000
namespace Mine
theorem bindA2' (n1 n2 : Str) (a b : AV) (hn : n1 ≠ n2) : bindA [n1, n2] [a, b] = (one1 n1 a).set n2 (.val b) := by
  funext x
  unfold bindA one1 Slots.set
  simp only [List.zip_cons_cons, List.zip_nil_right, List.reverse_cons, List.reverse_nil, List.nil_append, List.cons_append, List.lookup_cons, List.lookup_nil]
  by_cases e2 : x = n2
  · subst e2; rw [beq_self_eq_true, if_pos rfl]; rfl
  · have : (x == n2) = false := by simpa using e2
    rw [this, if_neg e2]
    by_cases e1 : x = n1
    · subst e1; rw [beq_self_eq_true, if_pos rfl]; rfl
    · have : (x == n1) = false := by simpa using e1
      rw [this, if_neg e1]; rfl
theorem mod_nat (a b : Nat) (h : 0 < b) : binA .Mod (.int a) (.int b) = some (.int (a % b : Nat)) := by
  show (if (b : Int) ≠ 0 then some (AV.int ((a : Int).fmod b)) else none) = _
  rw [if_pos (by (first | lia | omega))]
  congr 2
  rw [Int.fmod_eq_emod_of_nonneg _ (by (first | lia | omega))]; rfl
theorem ne_int' (a b : Int) : cmpA .NotEq (.int a) (.int b) = some (!(a == b)) := Eq.trans rfl rfl
theorem signs_tx (l : List Nat) : signsA (tx l) = l.map fun c => AV.str (tx [c]) := by
  unfold signsA; rw [tx_list]; rfl
def mapE (G : List AV → Option AV) : List AV → Option (List AV)
  | [] => some []
  | a :: r => G [a] >>= fun x => (mapE G r).map (x :: ·)
theorem freeze_own' {ρ : Slots} {x : Str} {l : OL} (h : getO ρ x = some l) : freeze x ρ = ρ.set x (.val (.lst l.items)) := by
  unfold freeze; rw [getO_eq h]
theorem only_hit {xs : List Str} {ρ : Slots} {x : Str} (h : xs.contains x = true) : getV (only xs ρ) x = getV ρ x := by
  unfold getV only; rw [if_pos h]
theorem bindA3 (n1 n2 n3 : Str) (a b c : AV) (h12 : n1 ≠ n2) (h13 : n1 ≠ n3) (h23 : n2 ≠ n3) : bindA [n1, n2, n3] [a, b, c] = ((one1 n1 a).set n2 (.val b)).set n3 (.val c) := by
  rw [← bindA2' _ _ _ _ h12]
  funext x
  unfold bindA Slots.set
  simp only [List.zip_cons_cons, List.zip_nil_right, List.reverse_cons, List.reverse_nil, List.nil_append, List.cons_append, List.lookup_cons, List.lookup_nil]
  by_cases e3 : x = n3
  · subst e3; rw [beq_self_eq_true, if_pos rfl]; rfl
  · have : (x == n3) = false := by simpa using e3
    rw [this, if_neg e3]
theorem fdv (x k : Int) (hk : k ≠ 0 ∧ k.natAbs < 1073741824) : binA .FloorDiv (.int x) (.int k) = some (.int (x.fdiv k)) := if_pos hk
theorem chr_eq (c : Nat) (h : c ≤ 1114111) : chrF [.int c] = some (.str (tx [c])) := by
  show (if (0 : Int) ≤ c ∧ (c : Int) ≤ 1114111 then some (AV.str (sign1 (c : Int).toNat)) else none) = _
  rw [if_pos ⟨by (first | lia | omega), by (first | lia | omega)⟩]; rfl
def txA (l : List Nat) : AV := .str (tx l)
theorem idx_map (L : List (List Nat)) (r : Nat) (h : r < L.length) (hz : r ≤ 100000) : idxA (.lst (L.map txA)) (.int r) = some (txA L[r]) := by
  rw [idxA_lst, if_pos ⟨by (first | lia | omega), by (first | lia | omega)⟩]
  unfold itemL
  rw [if_pos (by (first | lia | omega)), Int.toNat_natCast, List.getElem?_map, List.getElem?_eq_getElem h]; rfl
theorem mul_str' (x : Str) (n : Int) (h : n < 16777216 ∧ -16777216 < n ∧ x.length * n.toNat ≤ 16777216) : binA .Mult (.str x) (.int n) = some (.str (repStr x n)) := if_pos h
theorem cut_lst (l : List AV) (lo hi : Option Int) (h : l.length ≤ 16777216) : cutA (.lst l) lo hi = some (.lst (cutL l lo hi)) := if_pos h
theorem ne_tup (l : List AV) (h : dat 8 (.tup l) = true) : cmpA .NotEq (.tup l) (.tup l) = some false := by
  show (sameA (.tup l) (.tup l)).map (!·) = some false
  rw [show sameA (.tup l) (.tup l) = some true from if_pos ⟨rfl, h⟩]; rfl
theorem dat_txs (n : Nat) (L : List (List Nat)) : dat (n + 1) (.lst (L.map txA)) = true := by
  show (L.map txA).all (dat n) = true
  rw [List.all_eq_true]
  intro a ha
  obtain ⟨l, _, rfl⟩ := List.mem_map.mp ha
  cases n <;> rfl
theorem len_lst (l : List AV) (h : l.length ≤ 16777216) : lenF [.lst l] = some (.int l.length) := if_pos h
theorem idx_tup2 (a b : AV) : idxA (.tup [a, b]) (.int 0) = some a ∧ idxA (.tup [a, b]) (.int 1) = some b := ⟨by kernel_rfl, by kernel_rfl⟩
def initL : List InitSt := [⟨"_tabsize", "tabsize", ⟨19, 8, 19, 12⟩, ⟨19, 8, 19, 21⟩, ⟨19, 24, 19, 31⟩, ⟨19, 8, 19, 31⟩⟩, ⟨"_wrapcolumn", "wrapcolumn", ⟨20, 8, 20, 12⟩, ⟨20, 8, 20, 24⟩, ⟨20, 27, 20, 37⟩, ⟨20, 8, 20, 37⟩⟩, ⟨"_linejunk", "linejunk", ⟨21, 8, 21, 12⟩, ⟨21, 8, 21, 22⟩, ⟨21, 25, 21, 33⟩, ⟨21, 8, 21, 33⟩⟩, ⟨"_charjunk", "charjunk", ⟨22, 8, 22, 12⟩, ⟨22, 8, 22, 22⟩, ⟨22, 25, 22, 33⟩, ⟨22, 8, 22, 33⟩⟩]
def argsOf : Stmt → Arguments
  | .FunctionDef _ a _ _ _ _ _ _ _ _ => a
  | _ => { posonlyargs := [], args := [], vararg := none, kwonlyargs := [], kw_defaults := [], kwarg := none, defaults := [] }
def posOf : Stmt → Pos
  | .FunctionDef _ _ _ _ _ _ _ _ _ p => p
  | _ => ⟨0, 0, 0, 0⟩
def ctorN : List Str := ["tabsize", "wrapcolumn", "linejunk", "charjunk"]
theorem len_two {β : Type} : ∀ {l : List β}, l.length = 2 → ∃ a b, l = [a, b]
  | [a, b], _ => ⟨a, b, rfl⟩
theorem len_three {β : Type} : ∀ {l : List β}, l.length = 3 → ∃ a b c, l = [a, b, c]
  | [a, b, c], _ => ⟨a, b, c, rfl⟩
theorem bmain_at {p : Program} {loose : List Str} {mean : ExcName → Option Value} {mg mb : Str → Option Value} {h : Heap} (T : Top p loose mean mg mb h) {P : Addr} (hP : h.get? P = some (tabObj #[])) : h.BuiltinsAt mg P := by
  obtain ⟨bm, ob, h1, h2, h3, h4, h5, h6⟩ := T.bmain
  refine ⟨bm, ob, h1, h2, fun e => ?_, fun e => ?_, h3, h4, h5, h6⟩
  · obtain ⟨o, es, ep, e2, d2, _⟩ := T.g
    rw [e, e2] at h3; cases h3; rw [h6] at d2; cases d2
  · rw [e, hP] at h3; cases h3; cases h6
theorem ns_noP {h : Heap} {a P : Addr} {m : Str → Option Value} (hn : h.Ns a m) (hP : h.get? P = some (tabObj #[])) : P ≠ a := fun e => by
  obtain ⟨o, es, ep, e2, d2, _⟩ := hn
  rw [← e, hP] at e2; cases e2; cases d2
theorem room0 (env : Env) : Room (callerA.deeper env) 250 := ⟨rfl, by show callerA.depth + 1 + 2 * 250 + 10 < recursionLimit; decide +kernel, by show callerA.units + 3 + 30 * 250 + 100 < cLine; decide +kernel⟩
theorem ne_lst (l : List AV) (h : dat 8 (.lst l) = true) : cmpA .NotEq (.lst l) (.lst l) = some false := by
  show (eqL l (.lst l)).map (!·) = some false
  have : eqL l (.lst l) = some true := by
    unfold eqL
    rw [show AV.lst? (.lst l) = some l from rfl, bind_some']
    exact if_pos ⟨rfl, h⟩
  rw [this]; rfl
theorem abs_int (i : Int) : absF [.int i] = some (.int (i.natAbs : Nat)) := by
  show some (AV.int (if i < 0 then -i else i)) = _
  congr 2; split <;> (first | lia | omega)
theorem cutL_drop {β : Type} (l : List β) (k : Nat) : cutL l (some (k : Int)) none = l.drop k := by
  unfold cutL
  simp only [Option.elim]
  rcases Nat.le_total k l.length with h | h
  · rw [clip_nat _ _ h, List.take_of_length_le]; simp
  · rw [clip_over _ _ h, List.drop_of_length_le h]; simp
theorem getL_own {ρ : Slots} {x : Str} {l : OL} (h : getO ρ x = some l) : getL ρ x = some l.items := by unfold getL; rw [getO_eq h]
theorem fdv_nat (a k : Nat) (hk : 0 < k) (hk' : k < 1073741824) : binA .FloorDiv (.int a) (.int k) = some (.int (a / k : Nat)) := by
  rw [fdv _ _ ⟨by (first | lia | omega), by (first | lia | omega)⟩]
  congr 2
  rw [Int.fdiv_eq_ediv_of_nonneg _ (by (first | lia | omega))]; rfl
theorem in_nl (c : Nat) : cmpA .In (.str (tx [c])) (.str "\n\r") = some (c == 10 || c == 13) := by
  have e : (Str.ofString "\n\r" : Str) = tx [10, 13] := by decide +kernel
  rw [e]
  show some (inStr (tx [c]) (tx [10, 13])) = _
  rw [inStr_one]
  congr 1
  rw [Bool.eq_iff_iff]; simp
theorem gt_int' (a b : Int) : cmpA .Gt (.int a) (.int b) = some (decide (b < a)) := Eq.trans rfl rfl
theorem rev_lst (l : List AV) (h : l.length ≤ 16777216) : revA (.lst l) = some (.lst l.reverse) := if_pos h
theorem notin_one (c : Nat) (l : List Nat) : cmpA .NotIn (.str (tx [c])) (.str (tx l)) = some (!l.contains c) := by rw [notin_str, inStr_one]
theorem zipA_map {β : Type} (f g : β → AV) : ∀ l : List β, zipA (l.map f) (l.map g) = l.map fun x => .tup [f x, g x]
  | [] => rfl
  | a :: l => by simp [zipA, zipA_map f g l]
end Mine
end
section
set_option linter.unusedVariables false
set_option linter.unusedSimpArgs false
set_option maxHeartbeats 1000000
namespace Mine
noncomputable def GU1 : List AV → Option AV := asF ["text", "stop"] fUnd
noncomputable def GY1 : List AV → Option AV := asF ["text", "stop"] fTid
theorem mod_pos {n : Int} (hn : 0 < n) (col : Nat) : binA .Mod (.int col) (.int n) = some (.int (col % n.toNat : Nat)) := by
  obtain ⟨N, rfl⟩ := Int.eq_ofNat_of_zero_le (Int.le_of_lt hn)
  rw [Int.toNat_natCast]
  exact mod_nat col N (by (first | lia | omega))
theorem col_next {ρ : Slots} {c col : Nat} (hs : getV ρ "sign" = some (.str (tx [c]))) (hc : getV ρ "column" = some (.int col)) :
    ((((getV ρ "sign") >>= fun a => (some (.str "\n\r")) >>= fun b => cmpA .In a b)) >>= fun x => if x = true then (some (AV.int 0)) else (((getV ρ "column") >>= fun a => (some (.int 1)) >>= fun b => binA .Add a b))) = some (.int (nxt c col : Nat)) := by
  have h := in_nl c
  have e : binA .Add (.int col) (.int 1) = some (.int (col + 1 : Nat)) := by rw [Int.natCast_add]; rfl
  unfold nxt
  cases hb : (c == 10 || c == 13) with
  | true => rw [hb] at h; exact bindS (bindS hs (bindS rfl h)) (iteT rfl)
  | false => rw [hb] at h; exact bindS (bindS hs (bindS rfl h)) (iteF (bindS hc (bindS rfl e)))
theorem und_turn {ρ : Slots} {n : Int} {c col : Nat} {t : List Nat} (h1 : getV ρ "out" = some (.str (tx t))) (h2 : getV ρ "column" = some (.int col)) (h3 : getV ρ "stop" = some (.int n)) (hz : t.length ≤ 1000000) :
    ∃ ρ', (fUnd_T2 (.str (tx [c])) ρ >>= fUnd_B3) = some (.next, ρ') ∧ getV ρ' "out" = some (.str (tx (if c ≠ 9 ∨ (0 < n ∧ nxt c col % n.toNat = 0) then t ++ [c] else t))) ∧ getV ρ' "column" = some (.int (nxt c col : Nat)) ∧ getV ρ' "stop" = some (.int n) := by
  generalize hρ₁ : (ρ.set "sign" (.val (.str (tx [c])))).set "column" (.val (.int (nxt c col : Nat))) = ρ₁
  have e1 := col_next (ρ := ρ.set "sign" (.val (.str (tx [c])))) (c := c) (col := col) (by (repeat' first | with_reducible exact Mine.getV_hit _ _ _ | with_reducible exact Mine.getO_hit _ _ _ | with_reducible assumption | with_reducible refine Mine.getV_skip ?_ ?_ | with_reducible refine Mine.getO_skip ?_ ?_ | with_reducible exact Mine.truthN_hitB _ _ _ | with_reducible refine Mine.truthN_skip ?_ ?_ | with_reducible exact Mine.aug_int _ _ | with_reducible exact Mine.truth_bool _ | with_reducible exact Mine.iter_lst _ | with_reducible refine Mine.iteT ?_ | with_reducible refine Mine.iteF ?_ | with_reducible apply Mine.bindS | with_reducible refine Mine.thenS ?_ | with_reducible exact Mine.thenA_ret _ _ _ | with_reducible refine Mine.noneS ?_ | with_reducible apply Mine.ifP | with_reducible rfl | exact Nat.le_of_ble_eq_true rfl | exact ⟨rfl, Nat.le_of_ble_eq_true rfl⟩ | decide)) (by (repeat' first | with_reducible exact Mine.getV_hit _ _ _ | with_reducible exact Mine.getO_hit _ _ _ | with_reducible assumption | with_reducible refine Mine.getV_skip ?_ ?_ | with_reducible refine Mine.getO_skip ?_ ?_ | with_reducible exact Mine.truthN_hitB _ _ _ | with_reducible refine Mine.truthN_skip ?_ ?_ | with_reducible exact Mine.aug_int _ _ | with_reducible exact Mine.truth_bool _ | with_reducible exact Mine.iter_lst _ | with_reducible refine Mine.iteT ?_ | with_reducible refine Mine.iteF ?_ | with_reducible apply Mine.bindS | with_reducible refine Mine.thenS ?_ | with_reducible exact Mine.thenA_ret _ _ _ | with_reducible refine Mine.noneS ?_ | with_reducible apply Mine.ifP | with_reducible rfl | exact Nat.le_of_ble_eq_true rfl | exact ⟨rfl, Nat.le_of_ble_eq_true rfl⟩ | decide))
  have g1 : getV ρ₁ "out" = some (.str (tx t)) := by subst hρ₁; (repeat' first | with_reducible exact Mine.getV_hit _ _ _ | with_reducible exact Mine.getO_hit _ _ _ | with_reducible assumption | with_reducible refine Mine.getV_skip ?_ ?_ | with_reducible refine Mine.getO_skip ?_ ?_ | with_reducible exact Mine.truthN_hitB _ _ _ | with_reducible refine Mine.truthN_skip ?_ ?_ | with_reducible exact Mine.aug_int _ _ | with_reducible exact Mine.truth_bool _ | with_reducible exact Mine.iter_lst _ | with_reducible refine Mine.iteT ?_ | with_reducible refine Mine.iteF ?_ | with_reducible apply Mine.bindS | with_reducible refine Mine.thenS ?_ | with_reducible exact Mine.thenA_ret _ _ _ | with_reducible refine Mine.noneS ?_ | with_reducible apply Mine.ifP | with_reducible rfl | exact Nat.le_of_ble_eq_true rfl | exact ⟨rfl, Nat.le_of_ble_eq_true rfl⟩ | decide)
  have g2 : getV ρ₁ "column" = some (.int (nxt c col : Nat)) := by subst hρ₁; (repeat' first | with_reducible exact Mine.getV_hit _ _ _ | with_reducible exact Mine.getO_hit _ _ _ | with_reducible assumption | with_reducible refine Mine.getV_skip ?_ ?_ | with_reducible refine Mine.getO_skip ?_ ?_ | with_reducible exact Mine.truthN_hitB _ _ _ | with_reducible refine Mine.truthN_skip ?_ ?_ | with_reducible exact Mine.aug_int _ _ | with_reducible exact Mine.truth_bool _ | with_reducible exact Mine.iter_lst _ | with_reducible refine Mine.iteT ?_ | with_reducible refine Mine.iteF ?_ | with_reducible apply Mine.bindS | with_reducible refine Mine.thenS ?_ | with_reducible exact Mine.thenA_ret _ _ _ | with_reducible refine Mine.noneS ?_ | with_reducible apply Mine.ifP | with_reducible rfl | exact Nat.le_of_ble_eq_true rfl | exact ⟨rfl, Nat.le_of_ble_eq_true rfl⟩ | decide)
  have g3 : getV ρ₁ "stop" = some (.int n) := by subst hρ₁; (repeat' first | with_reducible exact Mine.getV_hit _ _ _ | with_reducible exact Mine.getO_hit _ _ _ | with_reducible assumption | with_reducible refine Mine.getV_skip ?_ ?_ | with_reducible refine Mine.getO_skip ?_ ?_ | with_reducible exact Mine.truthN_hitB _ _ _ | with_reducible refine Mine.truthN_skip ?_ ?_ | with_reducible exact Mine.aug_int _ _ | with_reducible exact Mine.truth_bool _ | with_reducible exact Mine.iter_lst _ | with_reducible refine Mine.iteT ?_ | with_reducible refine Mine.iteF ?_ | with_reducible apply Mine.bindS | with_reducible refine Mine.thenS ?_ | with_reducible exact Mine.thenA_ret _ _ _ | with_reducible refine Mine.noneS ?_ | with_reducible apply Mine.ifP | with_reducible rfl | exact Nat.le_of_ble_eq_true rfl | exact ⟨rfl, Nat.le_of_ble_eq_true rfl⟩ | decide)
  have g4 : getV ρ₁ "sign" = some (.str (tx [c])) := by subst hρ₁; (repeat' first | with_reducible exact Mine.getV_hit _ _ _ | with_reducible exact Mine.getO_hit _ _ _ | with_reducible assumption | with_reducible refine Mine.getV_skip ?_ ?_ | with_reducible refine Mine.getO_skip ?_ ?_ | with_reducible exact Mine.truthN_hitB _ _ _ | with_reducible refine Mine.truthN_skip ?_ ?_ | with_reducible exact Mine.aug_int _ _ | with_reducible exact Mine.truth_bool _ | with_reducible exact Mine.iter_lst _ | with_reducible refine Mine.iteT ?_ | with_reducible refine Mine.iteF ?_ | with_reducible apply Mine.bindS | with_reducible refine Mine.thenS ?_ | with_reducible exact Mine.thenA_ret _ _ _ | with_reducible refine Mine.noneS ?_ | with_reducible apply Mine.ifP | with_reducible rfl | exact Nat.le_of_ble_eq_true rfl | exact ⟨rfl, Nat.le_of_ble_eq_true rfl⟩ | decide)
  have c1 : cmpA .NotEq (.str (tx [c])) (.str "\t") = some (!(c == 9)) := by
    rw [l_tab, ne_str]; congr 2; rw [Bool.eq_iff_iff]; simp
  have a1 := aug_str t [c] (by simp; (first | lia | omega))
  have keep : ∀ q, fUnd_k1 ρ₁ = some (.next, q) → (fUnd_T2 (.str (tx [c])) ρ >>= fUnd_B3) = some (.next, q) := fun q hq => by
    refine bindS (show fUnd_T2 (.str (tx [c])) ρ = some (ρ.set "sign" (.val (.str (tx [c])))) from rfl) ?_
    unfold fUnd_B3
    rw [← hρ₁] at hq
    exact bindS (bindS e1 rfl) (thenS hq)
  have add : getV (ρ₁.set "out" (.val (.str (tx (t ++ [c]))))) "out" = some (.str (tx (t ++ [c]))) ∧ getV (ρ₁.set "out" (.val (.str (tx (t ++ [c]))))) "column" = some (.int (nxt c col : Nat)) ∧ getV (ρ₁.set "out" (.val (.str (tx (t ++ [c]))))) "stop" = some (.int n) := ⟨by (repeat' first | with_reducible exact Mine.getV_hit _ _ _ | with_reducible exact Mine.getO_hit _ _ _ | with_reducible assumption | with_reducible refine Mine.getV_skip ?_ ?_ | with_reducible refine Mine.getO_skip ?_ ?_ | with_reducible exact Mine.truthN_hitB _ _ _ | with_reducible refine Mine.truthN_skip ?_ ?_ | with_reducible exact Mine.aug_int _ _ | with_reducible exact Mine.truth_bool _ | with_reducible exact Mine.iter_lst _ | with_reducible refine Mine.iteT ?_ | with_reducible refine Mine.iteF ?_ | with_reducible apply Mine.bindS | with_reducible refine Mine.thenS ?_ | with_reducible exact Mine.thenA_ret _ _ _ | with_reducible refine Mine.noneS ?_ | with_reducible apply Mine.ifP | with_reducible rfl | exact Nat.le_of_ble_eq_true rfl | exact ⟨rfl, Nat.le_of_ble_eq_true rfl⟩ | decide), by (repeat' first | with_reducible exact Mine.getV_hit _ _ _ | with_reducible exact Mine.getO_hit _ _ _ | with_reducible assumption | with_reducible refine Mine.getV_skip ?_ ?_ | with_reducible refine Mine.getO_skip ?_ ?_ | with_reducible exact Mine.truthN_hitB _ _ _ | with_reducible refine Mine.truthN_skip ?_ ?_ | with_reducible exact Mine.aug_int _ _ | with_reducible exact Mine.truth_bool _ | with_reducible exact Mine.iter_lst _ | with_reducible refine Mine.iteT ?_ | with_reducible refine Mine.iteF ?_ | with_reducible apply Mine.bindS | with_reducible refine Mine.thenS ?_ | with_reducible exact Mine.thenA_ret _ _ _ | with_reducible refine Mine.noneS ?_ | with_reducible apply Mine.ifP | with_reducible rfl | exact Nat.le_of_ble_eq_true rfl | exact ⟨rfl, Nat.le_of_ble_eq_true rfl⟩ | decide), by (repeat' first | with_reducible exact Mine.getV_hit _ _ _ | with_reducible exact Mine.getO_hit _ _ _ | with_reducible assumption | with_reducible refine Mine.getV_skip ?_ ?_ | with_reducible refine Mine.getO_skip ?_ ?_ | with_reducible exact Mine.truthN_hitB _ _ _ | with_reducible refine Mine.truthN_skip ?_ ?_ | with_reducible exact Mine.aug_int _ _ | with_reducible exact Mine.truth_bool _ | with_reducible exact Mine.iter_lst _ | with_reducible refine Mine.iteT ?_ | with_reducible refine Mine.iteF ?_ | with_reducible apply Mine.bindS | with_reducible refine Mine.thenS ?_ | with_reducible exact Mine.thenA_ret _ _ _ | with_reducible refine Mine.noneS ?_ | with_reducible apply Mine.ifP | with_reducible rfl | exact Nat.le_of_ble_eq_true rfl | exact ⟨rfl, Nat.le_of_ble_eq_true rfl⟩ | decide)⟩
  have c2 : cmpA .Gt (.int n) (.int 0) = some (decide (0 < n)) := gt_int' n 0
  by_cases hc : c = 9
  · subst hc
    have c1 : cmpA .NotEq (.str (tx [9])) (.str "\t") = some false := c1
    by_cases hn : 0 < n
    · rw [decide_eq_true hn] at c2
      have m1 := mod_pos hn (nxt 9 col)
      have c3 : cmpA .Eq (.int (nxt 9 col % n.toNat : Nat)) (.int 0) = some (((nxt 9 col % n.toNat : Nat) : Int) == 0) := eq_int' _ _
      by_cases hm : nxt 9 col % n.toNat = 0
      · rw [if_pos (.inr ⟨hn, hm⟩)]
        rw [hm] at c3 m1
        have c3 : cmpA .Eq (.int ((0 : Nat) : Int)) (.int 0) = some true := c3
        refine ⟨_, keep _ ?_, add⟩
        unfold fUnd_k1; (repeat' first | with_reducible exact Mine.getV_hit _ _ _ | with_reducible exact Mine.getO_hit _ _ _ | with_reducible assumption | with_reducible refine Mine.getV_skip ?_ ?_ | with_reducible refine Mine.getO_skip ?_ ?_ | with_reducible exact Mine.truthN_hitB _ _ _ | with_reducible refine Mine.truthN_skip ?_ ?_ | with_reducible exact Mine.aug_int _ _ | with_reducible exact Mine.truth_bool _ | with_reducible exact Mine.iter_lst _ | with_reducible refine Mine.iteT ?_ | with_reducible refine Mine.iteF ?_ | with_reducible apply Mine.bindS | with_reducible refine Mine.thenS ?_ | with_reducible exact Mine.thenA_ret _ _ _ | with_reducible refine Mine.noneS ?_ | with_reducible apply Mine.ifP | with_reducible rfl | exact Nat.le_of_ble_eq_true rfl | exact ⟨rfl, Nat.le_of_ble_eq_true rfl⟩ | decide)
      · rw [if_neg (fun q => q.elim (fun q => q rfl) fun q => hm q.2)]
        have : (((nxt 9 col % n.toNat : Nat) : Int) == 0) = false := by rw [beq_eq_false_iff_ne]; (first | lia | omega)
        rw [this] at c3
        refine ⟨ρ₁, keep _ ?_, g1, g2, g3⟩
        unfold fUnd_k1; (repeat' first | with_reducible exact Mine.getV_hit _ _ _ | with_reducible exact Mine.getO_hit _ _ _ | with_reducible assumption | with_reducible refine Mine.getV_skip ?_ ?_ | with_reducible refine Mine.getO_skip ?_ ?_ | with_reducible exact Mine.truthN_hitB _ _ _ | with_reducible refine Mine.truthN_skip ?_ ?_ | with_reducible exact Mine.aug_int _ _ | with_reducible exact Mine.truth_bool _ | with_reducible exact Mine.iter_lst _ | with_reducible refine Mine.iteT ?_ | with_reducible refine Mine.iteF ?_ | with_reducible apply Mine.bindS | with_reducible refine Mine.thenS ?_ | with_reducible exact Mine.thenA_ret _ _ _ | with_reducible refine Mine.noneS ?_ | with_reducible apply Mine.ifP | with_reducible rfl | exact Nat.le_of_ble_eq_true rfl | exact ⟨rfl, Nat.le_of_ble_eq_true rfl⟩ | decide)
    · rw [decide_eq_false hn] at c2
      rw [if_neg (fun q => q.elim (fun q => q rfl) fun q => hn q.1)]
      refine ⟨ρ₁, keep _ ?_, g1, g2, g3⟩
      unfold fUnd_k1; (repeat' first | with_reducible exact Mine.getV_hit _ _ _ | with_reducible exact Mine.getO_hit _ _ _ | with_reducible assumption | with_reducible refine Mine.getV_skip ?_ ?_ | with_reducible refine Mine.getO_skip ?_ ?_ | with_reducible exact Mine.truthN_hitB _ _ _ | with_reducible refine Mine.truthN_skip ?_ ?_ | with_reducible exact Mine.aug_int _ _ | with_reducible exact Mine.truth_bool _ | with_reducible exact Mine.iter_lst _ | with_reducible refine Mine.iteT ?_ | with_reducible refine Mine.iteF ?_ | with_reducible apply Mine.bindS | with_reducible refine Mine.thenS ?_ | with_reducible exact Mine.thenA_ret _ _ _ | with_reducible refine Mine.noneS ?_ | with_reducible apply Mine.ifP | with_reducible rfl | exact Nat.le_of_ble_eq_true rfl | exact ⟨rfl, Nat.le_of_ble_eq_true rfl⟩ | decide)
  · rw [if_pos (.inl hc)]
    have : (c == 9) = false := by simpa using hc
    rw [this] at c1
    refine ⟨_, keep _ ?_, add⟩
    unfold fUnd_k1; (repeat' first | with_reducible exact Mine.getV_hit _ _ _ | with_reducible exact Mine.getO_hit _ _ _ | with_reducible assumption | with_reducible refine Mine.getV_skip ?_ ?_ | with_reducible refine Mine.getO_skip ?_ ?_ | with_reducible exact Mine.truthN_hitB _ _ _ | with_reducible refine Mine.truthN_skip ?_ ?_ | with_reducible exact Mine.aug_int _ _ | with_reducible exact Mine.truth_bool _ | with_reducible exact Mine.iter_lst _ | with_reducible refine Mine.iteT ?_ | with_reducible refine Mine.iteF ?_ | with_reducible apply Mine.bindS | with_reducible refine Mine.thenS ?_ | with_reducible exact Mine.thenA_ret _ _ _ | with_reducible refine Mine.noneS ?_ | with_reducible apply Mine.ifP | with_reducible rfl | exact Nat.le_of_ble_eq_true rfl | exact ⟨rfl, Nat.le_of_ble_eq_true rfl⟩ | decide)
theorem und_loop {n : Int} : ∀ (l : List Nat) (ρ : Slots) (t : List Nat) (col : Nat), getV ρ "out" = some (.str (tx t)) → getV ρ "column" = some (.int col) → getV ρ "stop" = some (.int n) → t.length + l.length ≤ 1000000 →
    ∃ ρ', Runs fUnd_T2 fUnd_B3 (l.map fun c => AV.str (tx [c])) ρ ρ' ∧ getV ρ' "out" = some (.str (tx (t ++ undo n col l)))
  | [], ρ, t, col, h1, _, _, _ => ⟨ρ, .nil, by rw [undo, List.append_nil]; exact h1⟩
  | c :: r, ρ, t, col, h1, h2, h3, hz => by
    simp only [List.length_cons] at hz
    obtain ⟨ρ₁, e₁, a1, a2, a3⟩ := und_turn (c := c) h1 h2 h3 (by (first | lia | omega))
    obtain ⟨ρ₂, e₂, b⟩ := und_loop r ρ₁ _ _ a1 a2 a3 (by split <;> (try simp only [List.length_append, List.length_singleton]) <;> (first | lia | omega))
    refine ⟨ρ₂, .cons e₁ e₂, ?_⟩
    rw [b, undo]
    by_cases h : c ≠ 9 ∨ (0 < n ∧ nxt c col % n.toNat = 0)
    · rw [if_pos h, if_pos h, List.append_assoc]; rfl
    · rw [if_neg h, if_neg h]
theorem GU1_eq (n : Int) (l : List Nat) (hz : l.length ≤ 100000) : GU1 [.str (tx l), .int n] = some (.str (tx (undo n 0 l))) := by
  unfold GU1 asF
  refine ifP rfl ?_
  rw [bindA2' _ _ _ _ (sne rfl)]
  generalize hρ : (one1 "text" (.str (tx l))).set "stop" (.val (.int n)) = ρ
  have g1 : getV ρ "text" = some (.str (tx l)) := by subst hρ; exact getV_skip rfl (by rw [getV_one, if_pos rfl])
  have g2 : getV ρ "stop" = some (.int n) := by subst hρ; (repeat' first | with_reducible exact Mine.getV_hit _ _ _ | with_reducible exact Mine.getO_hit _ _ _ | with_reducible assumption | with_reducible refine Mine.getV_skip ?_ ?_ | with_reducible refine Mine.getO_skip ?_ ?_ | with_reducible exact Mine.truthN_hitB _ _ _ | with_reducible refine Mine.truthN_skip ?_ ?_ | with_reducible exact Mine.aug_int _ _ | with_reducible exact Mine.truth_bool _ | with_reducible exact Mine.iter_lst _ | with_reducible refine Mine.iteT ?_ | with_reducible refine Mine.iteF ?_ | with_reducible apply Mine.bindS | with_reducible refine Mine.thenS ?_ | with_reducible exact Mine.thenA_ret _ _ _ | with_reducible refine Mine.noneS ?_ | with_reducible apply Mine.ifP | with_reducible rfl | exact Nat.le_of_ble_eq_true rfl | exact ⟨rfl, Nat.le_of_ble_eq_true rfl⟩ | decide)
  obtain ⟨ρ', e, g⟩ := und_loop (n := n) l ((ρ.set "out" (.val (.str ""))).set "column" (.val (.int 0))) [] 0 (by rw [l_empty]; (repeat' first | with_reducible exact Mine.getV_hit _ _ _ | with_reducible exact Mine.getO_hit _ _ _ | with_reducible assumption | with_reducible refine Mine.getV_skip ?_ ?_ | with_reducible refine Mine.getO_skip ?_ ?_ | with_reducible exact Mine.truthN_hitB _ _ _ | with_reducible refine Mine.truthN_skip ?_ ?_ | with_reducible exact Mine.aug_int _ _ | with_reducible exact Mine.truth_bool _ | with_reducible exact Mine.iter_lst _ | with_reducible refine Mine.iteT ?_ | with_reducible refine Mine.iteF ?_ | with_reducible apply Mine.bindS | with_reducible refine Mine.thenS ?_ | with_reducible exact Mine.thenA_ret _ _ _ | with_reducible refine Mine.noneS ?_ | with_reducible apply Mine.ifP | with_reducible rfl | exact Nat.le_of_ble_eq_true rfl | exact ⟨rfl, Nat.le_of_ble_eq_true rfl⟩ | decide)) (by exact getV_hit _ _ _) (by (repeat' first | with_reducible exact Mine.getV_hit _ _ _ | with_reducible exact Mine.getO_hit _ _ _ | with_reducible assumption | with_reducible refine Mine.getV_skip ?_ ?_ | with_reducible refine Mine.getO_skip ?_ ?_ | with_reducible exact Mine.truthN_hitB _ _ _ | with_reducible refine Mine.truthN_skip ?_ ?_ | with_reducible exact Mine.aug_int _ _ | with_reducible exact Mine.truth_bool _ | with_reducible exact Mine.iter_lst _ | with_reducible refine Mine.iteT ?_ | with_reducible refine Mine.iteF ?_ | with_reducible apply Mine.bindS | with_reducible refine Mine.thenS ?_ | with_reducible exact Mine.thenA_ret _ _ _ | with_reducible refine Mine.noneS ?_ | with_reducible apply Mine.ifP | with_reducible rfl | exact Nat.le_of_ble_eq_true rfl | exact ⟨rfl, Nat.le_of_ble_eq_true rfl⟩ | decide)) (by simp; (first | lia | omega))
  rw [List.nil_append] at g
  have e' := e.forA
  have it : iterA (.str (tx l)) = some (l.map fun c => AV.str (tx [c])) := by rw [← signs_tx]; rfl
  have e4 : fUnd_k4 ρ' = some (.ret (.str (tx (undo n 0 l))), ρ') := by unfold fUnd_k4; (repeat' first | with_reducible exact Mine.getV_hit _ _ _ | with_reducible exact Mine.getO_hit _ _ _ | with_reducible assumption | with_reducible refine Mine.getV_skip ?_ ?_ | with_reducible refine Mine.getO_skip ?_ ?_ | with_reducible exact Mine.truthN_hitB _ _ _ | with_reducible refine Mine.truthN_skip ?_ ?_ | with_reducible exact Mine.aug_int _ _ | with_reducible exact Mine.truth_bool _ | with_reducible exact Mine.iter_lst _ | with_reducible refine Mine.iteT ?_ | with_reducible refine Mine.iteF ?_ | with_reducible apply Mine.bindS | with_reducible refine Mine.thenS ?_ | with_reducible exact Mine.thenA_ret _ _ _ | with_reducible refine Mine.noneS ?_ | with_reducible apply Mine.ifP | with_reducible rfl | exact Nat.le_of_ble_eq_true rfl | exact ⟨rfl, Nat.le_of_ble_eq_true rfl⟩ | decide)
  have e5 : fUnd_k5 ((ρ.set "out" (.val (.str ""))).set "column" (.val (.int 0))) = some (.ret (.str (tx (undo n 0 l))), ρ') := by
    unfold fUnd_k5; (repeat' first | with_reducible exact Mine.getV_hit _ _ _ | with_reducible exact Mine.getO_hit _ _ _ | with_reducible assumption | with_reducible refine Mine.getV_skip ?_ ?_ | with_reducible refine Mine.getO_skip ?_ ?_ | with_reducible exact Mine.truthN_hitB _ _ _ | with_reducible refine Mine.truthN_skip ?_ ?_ | with_reducible exact Mine.aug_int _ _ | with_reducible exact Mine.truth_bool _ | with_reducible exact Mine.iter_lst _ | with_reducible refine Mine.iteT ?_ | with_reducible refine Mine.iteF ?_ | with_reducible apply Mine.bindS | with_reducible refine Mine.thenS ?_ | with_reducible exact Mine.thenA_ret _ _ _ | with_reducible refine Mine.noneS ?_ | with_reducible apply Mine.ifP | with_reducible rfl | exact Nat.le_of_ble_eq_true rfl | exact ⟨rfl, Nat.le_of_ble_eq_true rfl⟩ | decide)
  have e6 : fUnd ρ = some (.ret (.str (tx (undo n 0 l))), ρ') := by
    unfold fUnd
    exact bindS (bindS (a := [SV.val (.str ""), SV.val (.int 0)]) rfl (ifP ⟨rfl, by decide⟩ rfl)) (thenS e5)
  rw [e6]; rfl
-- tidy
theorem cut_next (p : List Nat) (c : Nat) (r : List Nat) : cutL (p ++ c :: r) (some ((p.length + 1 : Nat) : Int)) (some ((p.length + 2 : Nat) : Int)) = r.take 1 := by
  have hl : (p ++ c :: r).length = p.length + 1 + r.length := by simp; (first | lia | omega)
  have e1 := clip_nat (p ++ c :: r).length (p.length + 1) (by (first | lia | omega))
  show ((p ++ c :: r).drop (clipAt (p ++ c :: r).length ((p.length + 1 : Nat) : Int))).take (clipAt (p ++ c :: r).length ((p.length + 2 : Nat) : Int) - clipAt (p ++ c :: r).length ((p.length + 1 : Nat) : Int)) = _
  rw [e1]
  have e2 : (p ++ c :: r).drop (p.length + 1) = r := by rw [show p ++ c :: r = (p ++ [c]) ++ r by simp, List.drop_left' (by simp)]
  rw [e2]
  cases r with
  | nil => simp
  | cons b r =>
    have e3 := clip_nat (p ++ c :: b :: r).length (p.length + 2) (by rw [hl]; simp only [List.length_cons]; (first | lia | omega))
    rw [e3, show p.length + 2 - (p.length + 1) = 1 by (first | lia | omega)]
theorem tid_test {ρ : Slots} {n : Int} {c col : Nat} {p r : List Nat} (h1 : getV ρ "text" = some (.str (tx (p ++ c :: r)))) (h2 : getV ρ "column" = some (.int (nxt c col : Nat))) (h3 : getV ρ "stop" = some (.int n)) (h4 : getV ρ "k" = some (.int p.length)) (hz : (p ++ c :: r).length ≤ 1000000) :
    fTid_k1 ρ = if c = 9 ∧ r.head? ≠ some 9 ∧ (n < 1 ∨ nxt c col % n.toNat ≠ 0) then some (.ret (.bool false), ρ) else some (.next, ρ) := by
  have hl : (p ++ c :: r).length = p.length + 1 + r.length := by simp; (first | lia | omega)
  have i1 : idxA (.str (tx (p ++ c :: r))) (.int p.length) = some (.str (tx [c])) := by
    rw [idx_str _ _ (by (first | lia | omega)) hz]; simp
  have c1 : cmpA .Eq (.str (tx [c])) (.str "\t") = some (c == 9) := by
    rw [l_tab, eq_str]; exact congrArg some (by rw [Bool.eq_iff_iff]; simp)
  have p1 : binA .Add (.int p.length) (.int 1) = some (.int (p.length + 1 : Nat)) := by rw [Int.natCast_add]; rfl
  have p2 : binA .Add (.int p.length) (.int 2) = some (.int (p.length + 2 : Nat)) := by rw [Int.natCast_add]; rfl
  have m1 : (asInt (.int (p.length + 1 : Nat))).map some = some (some ((p.length + 1 : Nat) : Int)) := rfl
  have m2 : (asInt (.int (p.length + 2 : Nat))).map some = some (some ((p.length + 2 : Nat) : Int)) := rfl
  have u1 : cutA (.str (tx (p ++ c :: r))) (some ((p.length + 1 : Nat) : Int)) (some ((p.length + 2 : Nat) : Int)) = some (.str (tx (r.take 1))) := by rw [cut_str _ _ _ hz, cut_next]
  have c2 : cmpA .NotEq (.str (tx (r.take 1))) (.str "\t") = some (decide (r.head? ≠ some 9)) := by
    rw [l_tab, ne_str]
    refine congrArg some ?_
    cases r with
    | nil => rfl
    | cons b r => simp only [List.take_succ_cons, List.take_zero, List.head?_cons]; rw [Bool.eq_iff_iff]; simp
  have c3 : cmpA .Lt (.int n) (.int 1) = some (decide (n < 1)) := lt_int' n 1
  by_cases hc : c = 9
  · rw [show (c == 9) = true by simp [hc]] at c1
    by_cases hh : r.head? ≠ some 9
    · rw [decide_eq_true hh] at c2
      by_cases hn : n < 1
      · rw [if_pos ⟨hc, hh, .inl hn⟩]
        rw [decide_eq_true hn] at c3
        unfold fTid_k1; (repeat' first | with_reducible exact Mine.getV_hit _ _ _ | with_reducible exact Mine.getO_hit _ _ _ | with_reducible assumption | with_reducible refine Mine.getV_skip ?_ ?_ | with_reducible refine Mine.getO_skip ?_ ?_ | with_reducible exact Mine.truthN_hitB _ _ _ | with_reducible refine Mine.truthN_skip ?_ ?_ | with_reducible exact Mine.aug_int _ _ | with_reducible exact Mine.truth_bool _ | with_reducible exact Mine.iter_lst _ | with_reducible refine Mine.iteT ?_ | with_reducible refine Mine.iteF ?_ | with_reducible apply Mine.bindS | with_reducible refine Mine.thenS ?_ | with_reducible exact Mine.thenA_ret _ _ _ | with_reducible refine Mine.noneS ?_ | with_reducible apply Mine.ifP | with_reducible rfl | exact Nat.le_of_ble_eq_true rfl | exact ⟨rfl, Nat.le_of_ble_eq_true rfl⟩ | decide)
      · rw [decide_eq_false hn] at c3
        have mm := mod_pos (n := n) (by (first | lia | omega)) (nxt c col)
        have c4 : cmpA .NotEq (.int (nxt c col % n.toNat : Nat)) (.int 0) = some (!(((nxt c col % n.toNat : Nat) : Int) == 0)) := ne_int' _ _
        by_cases hm : nxt c col % n.toNat = 0
        · rw [if_neg (by rintro ⟨_, _, q | q⟩; · exact hn q
                         · exact q hm)]
          rw [hm] at c4 mm
          have c4 : cmpA .NotEq (.int ((0 : Nat) : Int)) (.int 0) = some false := c4
          unfold fTid_k1; (repeat' first | with_reducible exact Mine.getV_hit _ _ _ | with_reducible exact Mine.getO_hit _ _ _ | with_reducible assumption | with_reducible refine Mine.getV_skip ?_ ?_ | with_reducible refine Mine.getO_skip ?_ ?_ | with_reducible exact Mine.truthN_hitB _ _ _ | with_reducible refine Mine.truthN_skip ?_ ?_ | with_reducible exact Mine.aug_int _ _ | with_reducible exact Mine.truth_bool _ | with_reducible exact Mine.iter_lst _ | with_reducible refine Mine.iteT ?_ | with_reducible refine Mine.iteF ?_ | with_reducible apply Mine.bindS | with_reducible refine Mine.thenS ?_ | with_reducible exact Mine.thenA_ret _ _ _ | with_reducible refine Mine.noneS ?_ | with_reducible apply Mine.ifP | with_reducible rfl | exact Nat.le_of_ble_eq_true rfl | exact ⟨rfl, Nat.le_of_ble_eq_true rfl⟩ | decide)
        · rw [if_pos ⟨hc, hh, .inr hm⟩]
          have : (((nxt c col % n.toNat : Nat) : Int) == 0) = false := by rw [beq_eq_false_iff_ne]; (first | lia | omega)
          rw [this] at c4
          unfold fTid_k1; (repeat' first | with_reducible exact Mine.getV_hit _ _ _ | with_reducible exact Mine.getO_hit _ _ _ | with_reducible assumption | with_reducible refine Mine.getV_skip ?_ ?_ | with_reducible refine Mine.getO_skip ?_ ?_ | with_reducible exact Mine.truthN_hitB _ _ _ | with_reducible refine Mine.truthN_skip ?_ ?_ | with_reducible exact Mine.aug_int _ _ | with_reducible exact Mine.truth_bool _ | with_reducible exact Mine.iter_lst _ | with_reducible refine Mine.iteT ?_ | with_reducible refine Mine.iteF ?_ | with_reducible apply Mine.bindS | with_reducible refine Mine.thenS ?_ | with_reducible exact Mine.thenA_ret _ _ _ | with_reducible refine Mine.noneS ?_ | with_reducible apply Mine.ifP | with_reducible rfl | exact Nat.le_of_ble_eq_true rfl | exact ⟨rfl, Nat.le_of_ble_eq_true rfl⟩ | decide)
    · rw [decide_eq_false hh] at c2
      rw [if_neg (fun q => hh q.2.1)]
      unfold fTid_k1; (repeat' first | with_reducible exact Mine.getV_hit _ _ _ | with_reducible exact Mine.getO_hit _ _ _ | with_reducible assumption | with_reducible refine Mine.getV_skip ?_ ?_ | with_reducible refine Mine.getO_skip ?_ ?_ | with_reducible exact Mine.truthN_hitB _ _ _ | with_reducible refine Mine.truthN_skip ?_ ?_ | with_reducible exact Mine.aug_int _ _ | with_reducible exact Mine.truth_bool _ | with_reducible exact Mine.iter_lst _ | with_reducible refine Mine.iteT ?_ | with_reducible refine Mine.iteF ?_ | with_reducible apply Mine.bindS | with_reducible refine Mine.thenS ?_ | with_reducible exact Mine.thenA_ret _ _ _ | with_reducible refine Mine.noneS ?_ | with_reducible apply Mine.ifP | with_reducible rfl | exact Nat.le_of_ble_eq_true rfl | exact ⟨rfl, Nat.le_of_ble_eq_true rfl⟩ | decide)
  · rw [show (c == 9) = false by simpa using hc] at c1
    rw [if_neg (fun q => hc q.1)]
    unfold fTid_k1; (repeat' first | with_reducible exact Mine.getV_hit _ _ _ | with_reducible exact Mine.getO_hit _ _ _ | with_reducible assumption | with_reducible refine Mine.getV_skip ?_ ?_ | with_reducible refine Mine.getO_skip ?_ ?_ | with_reducible exact Mine.truthN_hitB _ _ _ | with_reducible refine Mine.truthN_skip ?_ ?_ | with_reducible exact Mine.aug_int _ _ | with_reducible exact Mine.truth_bool _ | with_reducible exact Mine.iter_lst _ | with_reducible refine Mine.iteT ?_ | with_reducible refine Mine.iteF ?_ | with_reducible apply Mine.bindS | with_reducible refine Mine.thenS ?_ | with_reducible exact Mine.thenA_ret _ _ _ | with_reducible refine Mine.noneS ?_ | with_reducible apply Mine.ifP | with_reducible rfl | exact Nat.le_of_ble_eq_true rfl | exact ⟨rfl, Nat.le_of_ble_eq_true rfl⟩ | decide)
theorem tid_loop {n : Int} : ∀ (r p : List Nat) (ρ : Slots) (col : Nat), getV ρ "text" = some (.str (tx (p ++ r))) → getV ρ "column" = some (.int col) → getV ρ "stop" = some (.int n) → (p ++ r).length ≤ 100000 →
    ∃ ρ', forA fTid_T2 fTid_B3 (rangeL p.length 1 r.length) ρ = some (if tidyL n col r = true then .next else .ret (.bool false), ρ')
  | [], p, ρ, col, _, _, _, _ => ⟨ρ, rfl⟩
  | c :: r, p, ρ, col, h1, h2, h3, hz => by
    generalize hρ₁ : (ρ.set "k" (.val (.int p.length))).set "column" (.val (.int (nxt c col : Nat))) = ρ₁
    have i1 : idxA (.str (tx (p ++ c :: r))) (.int p.length) = some (.str (tx [c])) := by
      rw [idx_str _ _ (by simp) (by (first | lia | omega))]; simp
    have hin := in_nl c
    have e : binA .Add (.int col) (.int 1) = some (.int (col + 1 : Nat)) := by rw [Int.natCast_add]; rfl
    have eB : fTid_B3 (ρ.set "k" (.val (.int p.length))) = fTid_k1 ρ₁ := by
      unfold fTid_B3
      rw [← hρ₁]
      unfold nxt
      cases hb : (c == 10 || c == 13) with
      | true => rw [hb] at hin; exact bindS (bindS (bindS (bindS (bindS (getV_skip rfl h1) (bindS (getV_hit _ _ _) i1)) (bindS rfl hin)) (iteT rfl)) rfl) rfl
      | false => rw [hb] at hin; exact bindS (bindS (bindS (bindS (bindS (getV_skip rfl h1) (bindS (getV_hit _ _ _) i1)) (bindS rfl hin)) (iteF (bindS (getV_skip rfl h2) (bindS rfl e)))) rfl) rfl
    have g1 : getV ρ₁ "text" = some (.str (tx (p ++ c :: r))) := by subst hρ₁; (repeat' first | with_reducible exact Mine.getV_hit _ _ _ | with_reducible exact Mine.getO_hit _ _ _ | with_reducible assumption | with_reducible refine Mine.getV_skip ?_ ?_ | with_reducible refine Mine.getO_skip ?_ ?_ | with_reducible exact Mine.truthN_hitB _ _ _ | with_reducible refine Mine.truthN_skip ?_ ?_ | with_reducible exact Mine.aug_int _ _ | with_reducible exact Mine.truth_bool _ | with_reducible exact Mine.iter_lst _ | with_reducible refine Mine.iteT ?_ | with_reducible refine Mine.iteF ?_ | with_reducible apply Mine.bindS | with_reducible refine Mine.thenS ?_ | with_reducible exact Mine.thenA_ret _ _ _ | with_reducible refine Mine.noneS ?_ | with_reducible apply Mine.ifP | with_reducible rfl | exact Nat.le_of_ble_eq_true rfl | exact ⟨rfl, Nat.le_of_ble_eq_true rfl⟩ | decide)
    have g2 : getV ρ₁ "column" = some (.int (nxt c col : Nat)) := by subst hρ₁; (repeat' first | with_reducible exact Mine.getV_hit _ _ _ | with_reducible exact Mine.getO_hit _ _ _ | with_reducible assumption | with_reducible refine Mine.getV_skip ?_ ?_ | with_reducible refine Mine.getO_skip ?_ ?_ | with_reducible exact Mine.truthN_hitB _ _ _ | with_reducible refine Mine.truthN_skip ?_ ?_ | with_reducible exact Mine.aug_int _ _ | with_reducible exact Mine.truth_bool _ | with_reducible exact Mine.iter_lst _ | with_reducible refine Mine.iteT ?_ | with_reducible refine Mine.iteF ?_ | with_reducible apply Mine.bindS | with_reducible refine Mine.thenS ?_ | with_reducible exact Mine.thenA_ret _ _ _ | with_reducible refine Mine.noneS ?_ | with_reducible apply Mine.ifP | with_reducible rfl | exact Nat.le_of_ble_eq_true rfl | exact ⟨rfl, Nat.le_of_ble_eq_true rfl⟩ | decide)
    have g3 : getV ρ₁ "stop" = some (.int n) := by subst hρ₁; (repeat' first | with_reducible exact Mine.getV_hit _ _ _ | with_reducible exact Mine.getO_hit _ _ _ | with_reducible assumption | with_reducible refine Mine.getV_skip ?_ ?_ | with_reducible refine Mine.getO_skip ?_ ?_ | with_reducible exact Mine.truthN_hitB _ _ _ | with_reducible refine Mine.truthN_skip ?_ ?_ | with_reducible exact Mine.aug_int _ _ | with_reducible exact Mine.truth_bool _ | with_reducible exact Mine.iter_lst _ | with_reducible refine Mine.iteT ?_ | with_reducible refine Mine.iteF ?_ | with_reducible apply Mine.bindS | with_reducible refine Mine.thenS ?_ | with_reducible exact Mine.thenA_ret _ _ _ | with_reducible refine Mine.noneS ?_ | with_reducible apply Mine.ifP | with_reducible rfl | exact Nat.le_of_ble_eq_true rfl | exact ⟨rfl, Nat.le_of_ble_eq_true rfl⟩ | decide)
    have g4 : getV ρ₁ "k" = some (.int p.length) := by subst hρ₁; (repeat' first | with_reducible exact Mine.getV_hit _ _ _ | with_reducible exact Mine.getO_hit _ _ _ | with_reducible assumption | with_reducible refine Mine.getV_skip ?_ ?_ | with_reducible refine Mine.getO_skip ?_ ?_ | with_reducible exact Mine.truthN_hitB _ _ _ | with_reducible refine Mine.truthN_skip ?_ ?_ | with_reducible exact Mine.aug_int _ _ | with_reducible exact Mine.truth_bool _ | with_reducible exact Mine.iter_lst _ | with_reducible refine Mine.iteT ?_ | with_reducible refine Mine.iteF ?_ | with_reducible apply Mine.bindS | with_reducible refine Mine.thenS ?_ | with_reducible exact Mine.thenA_ret _ _ _ | with_reducible refine Mine.noneS ?_ | with_reducible apply Mine.ifP | with_reducible rfl | exact Nat.le_of_ble_eq_true rfl | exact ⟨rfl, Nat.le_of_ble_eq_true rfl⟩ | decide)
    have ek := tid_test g1 g2 g3 g4 (by (first | lia | omega))
    have eT : fTid_T2 (.int p.length) ρ = some (ρ.set "k" (.val (.int p.length))) := rfl
    show ∃ ρ', forA fTid_T2 fTid_B3 (.int p.length :: rangeL (p.length + 1) 1 r.length) ρ = _
    rw [tidyL]
    by_cases hc : c = 9 ∧ r.head? ≠ some 9 ∧ (n < 1 ∨ nxt c col % n.toNat ≠ 0)
    · rw [if_pos hc] at ek ⊢
      refine ⟨ρ₁, ?_⟩
      simp only [forA, eT, bind_some', eB, ek]; rfl
    · rw [if_neg hc] at ek ⊢
      obtain ⟨ρ₂, e₂⟩ := tid_loop r (p ++ [c]) ρ₁ (nxt c col) (by rw [List.append_assoc]; exact g1) g2 g3 (by simp at hz ⊢; (first | lia | omega))
      rw [show (p ++ [c]).length = p.length + 1 by simp] at e₂
      refine ⟨ρ₂, ?_⟩
      simp only [forA, eT, bind_some', eB, ek]
      exact e₂
theorem range_nat (k : Nat) (h : k ≤ 1000000) : rangeA [.int k] = some (rangeL (0 : Nat) 1 k) := by
  rw [rangeA_1]
  show (if -1000000000 < (k : Int) ∧ (k : Int) < 1000000000 then some (rangeL 0 1 (k : Int).toNat) else none) = _
  rw [if_pos ⟨by (first | lia | omega), by (first | lia | omega)⟩, Int.toNat_natCast]; rfl
theorem GY1_eq (n : Int) (l : List Nat) (hz : l.length ≤ 100000) : GY1 [.str (tx l), .int n] = some (.bool (tidyL n 0 l)) := by
  unfold GY1 asF
  refine ifP rfl ?_
  rw [bindA2' _ _ _ _ (sne rfl)]
  generalize hρ : (one1 "text" (.str (tx l))).set "stop" (.val (.int n)) = ρ
  have g1 : getV ρ "text" = some (.str (tx l)) := by subst hρ; exact getV_skip rfl (by rw [getV_one, if_pos rfl])
  have g2 : getV ρ "stop" = some (.int n) := by subst hρ; (repeat' first | with_reducible exact Mine.getV_hit _ _ _ | with_reducible exact Mine.getO_hit _ _ _ | with_reducible assumption | with_reducible refine Mine.getV_skip ?_ ?_ | with_reducible refine Mine.getO_skip ?_ ?_ | with_reducible exact Mine.truthN_hitB _ _ _ | with_reducible refine Mine.truthN_skip ?_ ?_ | with_reducible exact Mine.aug_int _ _ | with_reducible exact Mine.truth_bool _ | with_reducible exact Mine.iter_lst _ | with_reducible refine Mine.iteT ?_ | with_reducible refine Mine.iteF ?_ | with_reducible apply Mine.bindS | with_reducible refine Mine.thenS ?_ | with_reducible exact Mine.thenA_ret _ _ _ | with_reducible refine Mine.noneS ?_ | with_reducible apply Mine.ifP | with_reducible rfl | exact Nat.le_of_ble_eq_true rfl | exact ⟨rfl, Nat.le_of_ble_eq_true rfl⟩ | decide)
  obtain ⟨ρ', e⟩ := tid_loop (n := n) l [] (ρ.set "column" (.val (.int 0))) 0 (getV_skip rfl g1) (getV_hit _ _ _) (by (repeat' first | with_reducible exact Mine.getV_hit _ _ _ | with_reducible exact Mine.getO_hit _ _ _ | with_reducible assumption | with_reducible refine Mine.getV_skip ?_ ?_ | with_reducible refine Mine.getO_skip ?_ ?_ | with_reducible exact Mine.truthN_hitB _ _ _ | with_reducible refine Mine.truthN_skip ?_ ?_ | with_reducible exact Mine.aug_int _ _ | with_reducible exact Mine.truth_bool _ | with_reducible exact Mine.iter_lst _ | with_reducible refine Mine.iteT ?_ | with_reducible refine Mine.iteF ?_ | with_reducible apply Mine.bindS | with_reducible refine Mine.thenS ?_ | with_reducible exact Mine.thenA_ret _ _ _ | with_reducible refine Mine.noneS ?_ | with_reducible apply Mine.ifP | with_reducible rfl | exact Nat.le_of_ble_eq_true rfl | exact ⟨rfl, Nat.le_of_ble_eq_true rfl⟩ | decide)) (by simpa using hz)
  have h1 := len_str l (by (first | lia | omega))
  have h2 := range_nat l.length (by (first | lia | omega))
  have e : forA fTid_T2 fTid_B3 (rangeL (0 : Nat) 1 l.length) (ρ.set "column" (.val (.int 0))) = some (if tidyL n 0 l = true then .next else .ret (.bool false), ρ') := e
  have e6 : fTid ρ = some (.ret (.bool (tidyL n 0 l)), ρ') := by
    unfold fTid
    refine bindS rfl (thenS ?_)
    unfold fTid_k5
    refine bindS (bindS (bindS (bindS (bindS (bindS (getV_skip rfl g1) rfl) h1) rfl) h2) e) ?_
    cases tidyL n 0 l with
    | true => rfl
    | false => rfl
  rw [e6]; rfl
end Mine
end
section
set_option linter.unusedVariables false
set_option linter.unusedSimpArgs false
set_option maxHeartbeats 1000000
namespace Mine
theorem comp_exp (fn : Addr) (GE : List AV → Option AV) : ∀ (items : List AV) (ρ : Slots), getV ρ "expand_tabs" = some (.raw (.ref fn)) → compA (fRest_T1 fn GE) (fun _ => some true) (fRest_f2 fn GE) items ρ = mapE GE items
  | [], _, _ => rfl
  | a :: r, ρ, h => by
    have ef : fRest_f2 fn GE (ρ.set "line" (.val a)) = GE [a] := by
      unfold fRest_f2
      refine bindS (getV_skip rfl h) ?_
      rw [locA_hit, getV_hit]; rfl
    refine bindS (show fRest_T1 fn GE a ρ = _ from rfl) (bindS rfl (iteT ?_))
    rw [ef, comp_exp fn GE r _ (getV_skip rfl h)]; rfl
theorem comp_exp' (fn : Addr) (GE : List AV → Option AV) (items : List AV) (ρ : Slots) (h : getV ρ "expand_tabs" = some (.raw (.ref fn))) : compA (fRest_T3 fn GE) (fun _ => some true) (fRest_f4 fn GE) items ρ = mapE GE items := comp_exp fn GE items ρ h
noncomputable def GE1 (me : AV) : List AV → Option AV := fun as => if as.length = (["line"] : List Str).length then (fExp ((bindA ["line"] as).set frz (.val me))).map fun r => retA r.1 else none
noncomputable def GM1 (args : List AV) : Option AV := match args with
  | [me, .lst a, .lst b] => if a.length ≤ 1000000 ∧ b.length ≤ 1000000 then mapE (GE1 me) a >>= fun x => mapE (GE1 me) b >>= fun y => some (.tup [.lst x, .lst y]) else none
  | _ => none
theorem rest_eq {fn : Addr} {GE : List AV → Option AV} {ρ : Slots} {a b x y : List AV} (h1 : getV ρ "fromlines" = some (.lst a)) (h2 : getV ρ "tolines" = some (.lst b)) (h3 : getV ρ "expand_tabs" = some (.raw (.ref fn))) (ha : a.length ≤ 1000000) (hb : b.length ≤ 1000000) (hx : mapE GE a = some x) (hy : mapE GE b = some y) :
    ∃ ρ', fRest fn GE ρ = some (.ret (.tup [.lst x, .lst y]), ρ') := by
  generalize hρ₁ : ρ.set "fromlines" (.own ⟨none, x⟩) = ρ₁
  have a1 : getO ρ₁ "fromlines" = some ⟨none, x⟩ := by subst hρ₁; (repeat' first | with_reducible exact Mine.getV_hit _ _ _ | with_reducible exact Mine.getO_hit _ _ _ | with_reducible assumption | with_reducible refine Mine.getV_skip ?_ ?_ | with_reducible refine Mine.getO_skip ?_ ?_ | with_reducible exact Mine.truthN_hitB _ _ _ | with_reducible refine Mine.truthN_skip ?_ ?_ | with_reducible exact Mine.aug_int _ _ | with_reducible exact Mine.truth_bool _ | with_reducible exact Mine.iter_lst _ | with_reducible refine Mine.iteT ?_ | with_reducible refine Mine.iteF ?_ | with_reducible apply Mine.bindS | with_reducible refine Mine.thenS ?_ | with_reducible exact Mine.thenA_ret _ _ _ | with_reducible refine Mine.noneS ?_ | with_reducible apply Mine.ifP | with_reducible rfl | exact Nat.le_of_ble_eq_true rfl | exact ⟨rfl, Nat.le_of_ble_eq_true rfl⟩ | decide)
  have a2 : getV ρ₁ "tolines" = some (.lst b) := by subst hρ₁; (repeat' first | with_reducible exact Mine.getV_hit _ _ _ | with_reducible exact Mine.getO_hit _ _ _ | with_reducible assumption | with_reducible refine Mine.getV_skip ?_ ?_ | with_reducible refine Mine.getO_skip ?_ ?_ | with_reducible exact Mine.truthN_hitB _ _ _ | with_reducible refine Mine.truthN_skip ?_ ?_ | with_reducible exact Mine.aug_int _ _ | with_reducible exact Mine.truth_bool _ | with_reducible exact Mine.iter_lst _ | with_reducible refine Mine.iteT ?_ | with_reducible refine Mine.iteF ?_ | with_reducible apply Mine.bindS | with_reducible refine Mine.thenS ?_ | with_reducible exact Mine.thenA_ret _ _ _ | with_reducible refine Mine.noneS ?_ | with_reducible apply Mine.ifP | with_reducible rfl | exact Nat.le_of_ble_eq_true rfl | exact ⟨rfl, Nat.le_of_ble_eq_true rfl⟩ | decide)
  have a3 : getV ρ₁ "expand_tabs" = some (.raw (.ref fn)) := by subst hρ₁; (repeat' first | with_reducible exact Mine.getV_hit _ _ _ | with_reducible exact Mine.getO_hit _ _ _ | with_reducible assumption | with_reducible refine Mine.getV_skip ?_ ?_ | with_reducible refine Mine.getO_skip ?_ ?_ | with_reducible exact Mine.truthN_hitB _ _ _ | with_reducible refine Mine.truthN_skip ?_ ?_ | with_reducible exact Mine.aug_int _ _ | with_reducible exact Mine.truth_bool _ | with_reducible exact Mine.iter_lst _ | with_reducible refine Mine.iteT ?_ | with_reducible refine Mine.iteF ?_ | with_reducible apply Mine.bindS | with_reducible refine Mine.thenS ?_ | with_reducible exact Mine.thenA_ret _ _ _ | with_reducible refine Mine.noneS ?_ | with_reducible apply Mine.ifP | with_reducible rfl | exact Nat.le_of_ble_eq_true rfl | exact ⟨rfl, Nat.le_of_ble_eq_true rfl⟩ | decide)
  generalize hρ₂ : ρ₁.set "tolines" (.own ⟨none, y⟩) = ρ₂
  have b1 : getO ρ₂ "fromlines" = some ⟨none, x⟩ := by subst hρ₂; (repeat' first | with_reducible exact Mine.getV_hit _ _ _ | with_reducible exact Mine.getO_hit _ _ _ | with_reducible assumption | with_reducible refine Mine.getV_skip ?_ ?_ | with_reducible refine Mine.getO_skip ?_ ?_ | with_reducible exact Mine.truthN_hitB _ _ _ | with_reducible refine Mine.truthN_skip ?_ ?_ | with_reducible exact Mine.aug_int _ _ | with_reducible exact Mine.truth_bool _ | with_reducible exact Mine.iter_lst _ | with_reducible refine Mine.iteT ?_ | with_reducible refine Mine.iteF ?_ | with_reducible apply Mine.bindS | with_reducible refine Mine.thenS ?_ | with_reducible exact Mine.thenA_ret _ _ _ | with_reducible refine Mine.noneS ?_ | with_reducible apply Mine.ifP | with_reducible rfl | exact Nat.le_of_ble_eq_true rfl | exact ⟨rfl, Nat.le_of_ble_eq_true rfl⟩ | decide)
  have b2 : getO ρ₂ "tolines" = some ⟨none, y⟩ := by subst hρ₂; (repeat' first | with_reducible exact Mine.getV_hit _ _ _ | with_reducible exact Mine.getO_hit _ _ _ | with_reducible assumption | with_reducible refine Mine.getV_skip ?_ ?_ | with_reducible refine Mine.getO_skip ?_ ?_ | with_reducible exact Mine.truthN_hitB _ _ _ | with_reducible refine Mine.truthN_skip ?_ ?_ | with_reducible exact Mine.aug_int _ _ | with_reducible exact Mine.truth_bool _ | with_reducible exact Mine.iter_lst _ | with_reducible refine Mine.iteT ?_ | with_reducible refine Mine.iteF ?_ | with_reducible apply Mine.bindS | with_reducible refine Mine.thenS ?_ | with_reducible exact Mine.thenA_ret _ _ _ | with_reducible refine Mine.noneS ?_ | with_reducible apply Mine.ifP | with_reducible rfl | exact Nat.le_of_ble_eq_true rfl | exact ⟨rfl, Nat.le_of_ble_eq_true rfl⟩ | decide)
  have e1 : compA (fRest_T1 fn GE) (fun _ => some true) (fRest_f2 fn GE) a (only ["expand_tabs"] ρ) = some x := by rw [comp_exp fn GE a _ (by rw [only_hit (by decide)]; exact h3)]; exact hx
  have e2 : compA (fRest_T3 fn GE) (fun _ => some true) (fRest_f4 fn GE) b (only ["expand_tabs"] ρ₁) = some y := by rw [comp_exp' fn GE b _ (by rw [only_hit (by decide)]; exact a3)]; exact hy
  have k7 : ∃ ρ', fRest_k7 fn GE ρ₂ = some (.ret (.tup [.lst x, .lst y]), ρ') := by
    unfold fRest_k7 fRest_z6
    rw [freeze_own' b1, freeze_own' (l := ⟨none, y⟩) (getO_skip rfl b2)]
    refine ⟨(ρ₂.set "fromlines" (.val (.lst x))).set "tolines" (.val (.lst y)), ?_⟩
    unfold fRest_z5
    (repeat' first | with_reducible exact Mine.getV_hit _ _ _ | with_reducible exact Mine.getO_hit _ _ _ | with_reducible assumption | with_reducible refine Mine.getV_skip ?_ ?_ | with_reducible refine Mine.getO_skip ?_ ?_ | with_reducible exact Mine.truthN_hitB _ _ _ | with_reducible refine Mine.truthN_skip ?_ ?_ | with_reducible exact Mine.aug_int _ _ | with_reducible exact Mine.truth_bool _ | with_reducible exact Mine.iter_lst _ | with_reducible refine Mine.iteT ?_ | with_reducible refine Mine.iteF ?_ | with_reducible apply Mine.bindS | with_reducible refine Mine.thenS ?_ | with_reducible exact Mine.thenA_ret _ _ _ | with_reducible refine Mine.noneS ?_ | with_reducible apply Mine.ifP | with_reducible rfl | exact Nat.le_of_ble_eq_true rfl | exact ⟨rfl, Nat.le_of_ble_eq_true rfl⟩ | decide)
  obtain ⟨ρ', k7⟩ := k7
  refine ⟨ρ', ?_⟩
  have k8 : fRest_k8 fn GE ρ₁ = some (.ret (.tup [.lst x, .lst y]), ρ') := by
    unfold fRest_k8
    refine bindS (bindS (bindS a2 (iter_lst _)) (ifP hb (bindS e2 rfl))) ?_
    rw [hρ₂]; exact k7
  unfold fRest
  refine bindS (bindS (bindS h1 (iter_lst _)) (ifP ha (bindS e1 rfl))) ?_
  rw [hρ₁]; exact k8
theorem maker_plain (args : List AV) (av : AV) (h : GM1 args = some av) : args.length = (["self", "fromlines", "tolines"] : List Str).length ∧ ∃ me, bindA ["self", "fromlines", "tolines"] args frz = some (.val me) ∧ ∀ fn, ∃ ρ', fRest fn (GE1 me) ((bindA ["self", "fromlines", "tolines"] args).set "expand_tabs" (.val (.raw (.ref fn)))) = some (.ret av, ρ') := by
  unfold GM1 at h
  split at h
  · rename_i me a b
    obtain ⟨hc, h⟩ := iteO h
    obtain ⟨x, hx, h⟩ := bindO h
    obtain ⟨y, hy, h⟩ := bindO h
    cases h
    refine ⟨rfl, me, by kernel_rfl, fun fn => ?_⟩
    rw [bindA3 _ _ _ _ _ _ (sne rfl) (sne rfl) (sne rfl)]
    exact rest_eq (by (repeat' first | with_reducible exact Mine.getV_hit _ _ _ | with_reducible exact Mine.getO_hit _ _ _ | with_reducible assumption | with_reducible refine Mine.getV_skip ?_ ?_ | with_reducible refine Mine.getO_skip ?_ ?_ | with_reducible exact Mine.truthN_hitB _ _ _ | with_reducible refine Mine.truthN_skip ?_ ?_ | with_reducible exact Mine.aug_int _ _ | with_reducible exact Mine.truth_bool _ | with_reducible exact Mine.iter_lst _ | with_reducible refine Mine.iteT ?_ | with_reducible refine Mine.iteF ?_ | with_reducible apply Mine.bindS | with_reducible refine Mine.thenS ?_ | with_reducible exact Mine.thenA_ret _ _ _ | with_reducible refine Mine.noneS ?_ | with_reducible apply Mine.ifP | with_reducible rfl | exact Nat.le_of_ble_eq_true rfl | exact ⟨rfl, Nat.le_of_ble_eq_true rfl⟩ | decide)) (by (repeat' first | with_reducible exact Mine.getV_hit _ _ _ | with_reducible exact Mine.getO_hit _ _ _ | with_reducible assumption | with_reducible refine Mine.getV_skip ?_ ?_ | with_reducible refine Mine.getO_skip ?_ ?_ | with_reducible exact Mine.truthN_hitB _ _ _ | with_reducible refine Mine.truthN_skip ?_ ?_ | with_reducible exact Mine.aug_int _ _ | with_reducible exact Mine.truth_bool _ | with_reducible exact Mine.iter_lst _ | with_reducible refine Mine.iteT ?_ | with_reducible refine Mine.iteF ?_ | with_reducible apply Mine.bindS | with_reducible refine Mine.thenS ?_ | with_reducible exact Mine.thenA_ret _ _ _ | with_reducible refine Mine.noneS ?_ | with_reducible apply Mine.ifP | with_reducible rfl | exact Nat.le_of_ble_eq_true rfl | exact ⟨rfl, Nat.le_of_ble_eq_true rfl⟩ | decide)) (by (repeat' first | with_reducible exact Mine.getV_hit _ _ _ | with_reducible exact Mine.getO_hit _ _ _ | with_reducible assumption | with_reducible refine Mine.getV_skip ?_ ?_ | with_reducible refine Mine.getO_skip ?_ ?_ | with_reducible exact Mine.truthN_hitB _ _ _ | with_reducible refine Mine.truthN_skip ?_ ?_ | with_reducible exact Mine.aug_int _ _ | with_reducible exact Mine.truth_bool _ | with_reducible exact Mine.iter_lst _ | with_reducible refine Mine.iteT ?_ | with_reducible refine Mine.iteF ?_ | with_reducible apply Mine.bindS | with_reducible refine Mine.thenS ?_ | with_reducible exact Mine.thenA_ret _ _ _ | with_reducible refine Mine.noneS ?_ | with_reducible apply Mine.ifP | with_reducible rfl | exact Nat.le_of_ble_eq_true rfl | exact ⟨rfl, Nat.le_of_ble_eq_true rfl⟩ | decide)) hc.1 hc.2 hx hy
  · cases h
theorem GE1_eq {me : AV} {n : Int} (hm : attrA 111 "_tabsize" me = some (.int n)) (h1 : -1000000 < n) (h2 : n < 1000000) (l : List Nat) (hl : l.length ≤ 1000000) (hz : (expT n 0 l).length ≤ 1000000) : GE1 me [.str (tx l)] = some (.str (tx (rst (expT n 0 l)))) := by
  unfold GE1
  refine ifP rfl ?_
  have hb : bindA ["line"] [.str (tx l)] = one1 "line" (.str (tx l)) := by
    funext x; unfold bindA one1; simp [List.lookup_cons]
    by_cases e : x = Str.ofString "line"
    · subst e; simp
    · have : (x == Str.ofString "line") = false := by simpa using e
      rw [this, if_neg e]; rfl
  rw [hb]
  generalize hρ : (one1 "line" (.str (tx l))).set frz (.val me) = ρ
  have g1 : getV ρ "line" = some (.str (tx l)) := by subst hρ; exact getV_skip (x := "line") (y := "self") rfl (by rw [getV_one, if_pos rfl])
  have g2 : getV ρ "self" = some me := by subst hρ; exact getV_hit _ _ _
  have hz' : (expS n 0 (l.map (swp 32 0))).length ≤ 1000000 := by rw [expT_len]; exact hz
  have r1 := replA_swp " " "\x00" 32 0 l_blank l_zero l hl
  have r2 := expandF_eq n (l.map (swp 32 0)) h1 h2 hz'
  have r3 := replA_swp " " "\t" 32 9 l_blank l_tab (expS n 0 (l.map (swp 32 0))) hz'
  have r4 := replA_swp "\x00" " " 0 32 l_zero l_blank ((expS n 0 (l.map (swp 32 0))).map (swp 32 9)) (by rw [List.length_map]; exact hz')
  rw [exp_pipe] at r4
  have r5 := rstripF_eq "\n" l_nl (expT n 0 l) hz
  have s1 : ∀ x, strArg (.str x) = some x := fun _ => rfl
  have k1 : ∀ ρ : Slots, getV ρ "line" = some (.str (tx ((expS n 0 (l.map (swp 32 0))).map (swp 32 9)))) → fExp_k1 ρ = some (.ret (.str (tx (rst (expT n 0 l)))), ρ) := fun ρ g => by
    unfold fExp_k1
    have := s1 (tx (expT n 0 l))
    (repeat' first | with_reducible exact Mine.getV_hit _ _ _ | with_reducible exact Mine.getO_hit _ _ _ | with_reducible assumption | with_reducible refine Mine.getV_skip ?_ ?_ | with_reducible refine Mine.getO_skip ?_ ?_ | with_reducible exact Mine.truthN_hitB _ _ _ | with_reducible refine Mine.truthN_skip ?_ ?_ | with_reducible exact Mine.aug_int _ _ | with_reducible exact Mine.truth_bool _ | with_reducible exact Mine.iter_lst _ | with_reducible refine Mine.iteT ?_ | with_reducible refine Mine.iteF ?_ | with_reducible apply Mine.bindS | with_reducible refine Mine.thenS ?_ | with_reducible exact Mine.thenA_ret _ _ _ | with_reducible refine Mine.noneS ?_ | with_reducible apply Mine.ifP | with_reducible rfl | exact Nat.le_of_ble_eq_true rfl | exact ⟨rfl, Nat.le_of_ble_eq_true rfl⟩ | decide)
  have k2 : ∀ ρ : Slots, getV ρ "line" = some (.str (tx (expS n 0 (l.map (swp 32 0))))) → ∃ ρ', fExp_k2 ρ = some (.ret (.str (tx (rst (expT n 0 l)))), ρ') := fun ρ g => by
    have := k1 (ρ.set "line" (.val (.str (tx ((expS n 0 (l.map (swp 32 0))).map (swp 32 9)))))) (by (repeat' first | with_reducible exact Mine.getV_hit _ _ _ | with_reducible exact Mine.getO_hit _ _ _ | with_reducible assumption | with_reducible refine Mine.getV_skip ?_ ?_ | with_reducible refine Mine.getO_skip ?_ ?_ | with_reducible exact Mine.truthN_hitB _ _ _ | with_reducible refine Mine.truthN_skip ?_ ?_ | with_reducible exact Mine.aug_int _ _ | with_reducible exact Mine.truth_bool _ | with_reducible exact Mine.iter_lst _ | with_reducible refine Mine.iteT ?_ | with_reducible refine Mine.iteF ?_ | with_reducible apply Mine.bindS | with_reducible refine Mine.thenS ?_ | with_reducible exact Mine.thenA_ret _ _ _ | with_reducible refine Mine.noneS ?_ | with_reducible apply Mine.ifP | with_reducible rfl | exact Nat.le_of_ble_eq_true rfl | exact ⟨rfl, Nat.le_of_ble_eq_true rfl⟩ | decide))
    exact ⟨_, by unfold fExp_k2; (repeat' first | with_reducible exact Mine.getV_hit _ _ _ | with_reducible exact Mine.getO_hit _ _ _ | with_reducible assumption | with_reducible refine Mine.getV_skip ?_ ?_ | with_reducible refine Mine.getO_skip ?_ ?_ | with_reducible exact Mine.truthN_hitB _ _ _ | with_reducible refine Mine.truthN_skip ?_ ?_ | with_reducible exact Mine.aug_int _ _ | with_reducible exact Mine.truth_bool _ | with_reducible exact Mine.iter_lst _ | with_reducible refine Mine.iteT ?_ | with_reducible refine Mine.iteF ?_ | with_reducible apply Mine.bindS | with_reducible refine Mine.thenS ?_ | with_reducible exact Mine.thenA_ret _ _ _ | with_reducible refine Mine.noneS ?_ | with_reducible apply Mine.ifP | with_reducible rfl | exact Nat.le_of_ble_eq_true rfl | exact ⟨rfl, Nat.le_of_ble_eq_true rfl⟩ | decide)⟩
  have k3 : ∀ ρ : Slots, getV ρ "line" = some (.str (tx (l.map (swp 32 0)))) → getV ρ "self" = some me → ∃ ρ', fExp_k3 ρ = some (.ret (.str (tx (rst (expT n 0 l)))), ρ') := fun ρ g gs => by
    obtain ⟨ρ', e⟩ := k2 (ρ.set "line" (.val (.str (tx (expS n 0 (l.map (swp 32 0))))))) (by (repeat' first | with_reducible exact Mine.getV_hit _ _ _ | with_reducible exact Mine.getO_hit _ _ _ | with_reducible assumption | with_reducible refine Mine.getV_skip ?_ ?_ | with_reducible refine Mine.getO_skip ?_ ?_ | with_reducible exact Mine.truthN_hitB _ _ _ | with_reducible refine Mine.truthN_skip ?_ ?_ | with_reducible exact Mine.aug_int _ _ | with_reducible exact Mine.truth_bool _ | with_reducible exact Mine.iter_lst _ | with_reducible refine Mine.iteT ?_ | with_reducible refine Mine.iteF ?_ | with_reducible apply Mine.bindS | with_reducible refine Mine.thenS ?_ | with_reducible exact Mine.thenA_ret _ _ _ | with_reducible refine Mine.noneS ?_ | with_reducible apply Mine.ifP | with_reducible rfl | exact Nat.le_of_ble_eq_true rfl | exact ⟨rfl, Nat.le_of_ble_eq_true rfl⟩ | decide))
    have := s1 (tx (l.map (swp 32 0)))
    exact ⟨ρ', by unfold fExp_k3; (repeat' first | with_reducible exact Mine.getV_hit _ _ _ | with_reducible exact Mine.getO_hit _ _ _ | with_reducible assumption | with_reducible refine Mine.getV_skip ?_ ?_ | with_reducible refine Mine.getO_skip ?_ ?_ | with_reducible exact Mine.truthN_hitB _ _ _ | with_reducible refine Mine.truthN_skip ?_ ?_ | with_reducible exact Mine.aug_int _ _ | with_reducible exact Mine.truth_bool _ | with_reducible exact Mine.iter_lst _ | with_reducible refine Mine.iteT ?_ | with_reducible refine Mine.iteF ?_ | with_reducible apply Mine.bindS | with_reducible refine Mine.thenS ?_ | with_reducible exact Mine.thenA_ret _ _ _ | with_reducible refine Mine.noneS ?_ | with_reducible apply Mine.ifP | with_reducible rfl | exact Nat.le_of_ble_eq_true rfl | exact ⟨rfl, Nat.le_of_ble_eq_true rfl⟩ | decide)⟩
  obtain ⟨ρ', e⟩ := k3 (ρ.set "line" (.val (.str (tx (l.map (swp 32 0)))))) (by (repeat' first | with_reducible exact Mine.getV_hit _ _ _ | with_reducible exact Mine.getO_hit _ _ _ | with_reducible assumption | with_reducible refine Mine.getV_skip ?_ ?_ | with_reducible refine Mine.getO_skip ?_ ?_ | with_reducible exact Mine.truthN_hitB _ _ _ | with_reducible refine Mine.truthN_skip ?_ ?_ | with_reducible exact Mine.aug_int _ _ | with_reducible exact Mine.truth_bool _ | with_reducible exact Mine.iter_lst _ | with_reducible refine Mine.iteT ?_ | with_reducible refine Mine.iteF ?_ | with_reducible apply Mine.bindS | with_reducible refine Mine.thenS ?_ | with_reducible exact Mine.thenA_ret _ _ _ | with_reducible refine Mine.noneS ?_ | with_reducible apply Mine.ifP | with_reducible rfl | exact Nat.le_of_ble_eq_true rfl | exact ⟨rfl, Nat.le_of_ble_eq_true rfl⟩ | decide)) (by (repeat' first | with_reducible exact Mine.getV_hit _ _ _ | with_reducible exact Mine.getO_hit _ _ _ | with_reducible assumption | with_reducible refine Mine.getV_skip ?_ ?_ | with_reducible refine Mine.getO_skip ?_ ?_ | with_reducible exact Mine.truthN_hitB _ _ _ | with_reducible refine Mine.truthN_skip ?_ ?_ | with_reducible exact Mine.aug_int _ _ | with_reducible exact Mine.truth_bool _ | with_reducible exact Mine.iter_lst _ | with_reducible refine Mine.iteT ?_ | with_reducible refine Mine.iteF ?_ | with_reducible apply Mine.bindS | with_reducible refine Mine.thenS ?_ | with_reducible exact Mine.thenA_ret _ _ _ | with_reducible refine Mine.noneS ?_ | with_reducible apply Mine.ifP | with_reducible rfl | exact Nat.le_of_ble_eq_true rfl | exact ⟨rfl, Nat.le_of_ble_eq_true rfl⟩ | decide))
  have e0 : fExp ρ = some (.ret (.str (tx (rst (expT n 0 l)))), ρ') := by unfold fExp; (repeat' first | with_reducible exact Mine.getV_hit _ _ _ | with_reducible exact Mine.getO_hit _ _ _ | with_reducible assumption | with_reducible refine Mine.getV_skip ?_ ?_ | with_reducible refine Mine.getO_skip ?_ ?_ | with_reducible exact Mine.truthN_hitB _ _ _ | with_reducible refine Mine.truthN_skip ?_ ?_ | with_reducible exact Mine.aug_int _ _ | with_reducible exact Mine.truth_bool _ | with_reducible exact Mine.iter_lst _ | with_reducible refine Mine.iteT ?_ | with_reducible refine Mine.iteF ?_ | with_reducible apply Mine.bindS | with_reducible refine Mine.thenS ?_ | with_reducible exact Mine.thenA_ret _ _ _ | with_reducible refine Mine.noneS ?_ | with_reducible apply Mine.ifP | with_reducible rfl | exact Nat.le_of_ble_eq_true rfl | exact ⟨rfl, Nat.le_of_ble_eq_true rfl⟩ | decide)
  rw [e0]; rfl
theorem mapE_eq {me : AV} {n : Int} (hm : attrA 111 "_tabsize" me = some (.int n)) (h1 : -1000000 < n) (h2 : n < 1000000) : ∀ (L : List (List Nat)), (∀ l ∈ L, l.length ≤ 1000000 ∧ (expT n 0 l).length ≤ 1000000) → mapE (GE1 me) (L.map fun l => AV.str (tx l)) = some (L.map fun l => AV.str (tx (rst (expT n 0 l))))
  | [], _ => rfl
  | l :: r, h => by
    obtain ⟨a, b⟩ := h l List.mem_cons_self
    exact bindS (GE1_eq hm h1 h2 l a b) (mapS (mapE_eq hm h1 h2 r fun m hm => h m (List.mem_cons_of_mem _ hm)) rfl)
theorem GM1_eq {me : AV} {n : Int} (hm : attrA 111 "_tabsize" me = some (.int n)) (h1 : -1000000 < n) (h2 : n < 1000000) (L M : List (List Nat)) (hL : ∀ l ∈ L, l.length ≤ 1000000 ∧ (expT n 0 l).length ≤ 1000000) (hM : ∀ l ∈ M, l.length ≤ 1000000 ∧ (expT n 0 l).length ≤ 1000000) (zL : L.length ≤ 1000000) (zM : M.length ≤ 1000000) :
    GM1 [me, .lst (L.map fun l => AV.str (tx l)), .lst (M.map fun l => AV.str (tx l))] = some (.tup [.lst (L.map fun l => AV.str (tx (rst (expT n 0 l)))), .lst (M.map fun l => AV.str (tx (rst (expT n 0 l))))]) := by
  unfold GM1
  exact ifP ⟨by rw [List.length_map]; exact zL, by rw [List.length_map]; exact zM⟩ (bindS (mapE_eq hm h1 h2 L hL) (bindS (mapE_eq hm h1 h2 M hM) rfl))
end Mine
end
section
set_option linter.unusedVariables false
set_option linter.unusedSimpArgs false
set_option maxHeartbeats 1000000
namespace Mine
def dfl05 : List Nat := [5, 34, 4, 16, 28, 54, 7]
def nums5 (ns : List Int) : List Nat := ns.map Int.natAbs ++ dfl05.drop ns.length
theorem nums5_len (ns : List Int) (h : ns.length ≤ 63) : 1 ≤ (nums5 ns).length ∧ (nums5 ns).length ≤ 63 := by
  unfold nums5 dfl05; simp; (first | lia | omega)
def intA (x : Nat) : AV := .int x
theorem comp_abs5 : ∀ (ns : List Int) (ρ : Slots), compA fPre_T1 (fun _ => some true) fPre_f2 (ns.map AV.int) ρ = some ((ns.map Int.natAbs).map intA)
  | [], ρ => rfl
  | i :: ns, ρ => by
    have ef : fPre_f2 (ρ.set "x" (.val (.int i))) = some (intA i.natAbs) := by
      have := abs_int i
      unfold fPre_f2; exact bindS (bindS (getV_hit _ _ _) rfl) this
    exact bindS (show fPre_T1 (.int i) ρ = _ from rfl) (bindS rfl (iteT (bindS ef (mapS (comp_abs5 ns _) rfl))))
structure PreInv (ρ : Slots) (n m : Int) (L : List (List Nat)) (k : Nat) : Prop where
  stop : getV ρ "stop" = some (.int n)
  wide : getV ρ "wide" = some (.int m)
  lines : getO ρ "lines" = some ⟨none, L.map txA⟩
  pos : 1 ≤ L.length
  few : L.length ≤ 1 + k
  small : ∀ l ∈ L, l.length ≤ 12 * k
theorem put_last (M : List AV) (a c : AV) (h : (M ++ [a]).length ≤ 1000000) : putL (M ++ [a]) (-1) c = some (M ++ [c]) := by
  unfold putL
  rw [if_neg (by decide), if_pos ⟨by simp; (first | lia | omega), h⟩]
  have : (-1 + ((M ++ [a]).length : Int)).toNat = M.length := by simp; (first | lia | omega)
  rw [this]; simp
theorem pick5 (L : List (List Nat)) (r : Nat) (h : r < L.length) (hz : ∀ l ∈ L, l.length ≤ 12) (hr : r ≤ 1000) : ∃ p, p.length ≤ 12 ∧ idxA (.lst (L.map txA)) (.int r) = some (txA p) := by
  rw [idx_map L r h (by (first | lia | omega))]
  exact ⟨_, hz _ (List.getElem_mem _), rfl⟩
theorem l_ret : (Str.ofString "\r" : Str) = tx [13] := by decide +kernel
theorem l_ab : (Str.ofString "ab" : Str) = tx [97, 98] := by decide +kernel
theorem l_w1 : (Str.ofString "\x0b" : Str) = tx [11] := by decide +kernel
theorem l_w2 : (Str.ofString "\x0c" : Str) = tx [12] := by decide +kernel
theorem l_w3 : (Str.ofString "\x1f" : Str) = tx [31] := by decide +kernel
theorem l_w4 : (Str.ofString "\u0085" : Str) = tx [133] := by decide +kernel
theorem l_w5 : (Str.ofString "\u2028" : Str) = tx [8232] := by decide +kernel
theorem l_w6 : (Str.ofString "\u3000" : Str) = tx [12288] := by decide +kernel
theorem pre_turn {ρ : Slots} {n m : Int} {L : List (List Nat)} {k : Nat} (h : PreInv ρ n m L k) (hk : k ≤ 100) (x : Nat) : ∃ ρ' L', (fPre_T6 (intA x) ρ >>= fPre_B7) = some (.next, ρ') ∧ PreInv ρ' n m L' (k + 1) := by
  obtain ⟨h1, h2, h3, hp, hf, hs⟩ := h
  have m9 : binA .Mod (intA x) (.int 9) = some (intA (x % 9)) := mod_nat x 9 (by (first | lia | omega))
  have d9 : binA .FloorDiv (intA x) (.int 9) = some (intA (x / 9)) := fdv_nat x 9 (by (first | lia | omega)) (by (first | lia | omega))
  generalize hρ₁ : ((ρ.set "x" (.val (intA x))).set "rest" (.val (intA (x / 9)))).set "kind" (.val (intA (x % 9))) = ρ₁
  have g1 : getV ρ₁ "stop" = some (.int n) := by subst hρ₁; (repeat' first | with_reducible exact Mine.getV_hit _ _ _ | with_reducible exact Mine.getO_hit _ _ _ | with_reducible assumption | with_reducible refine Mine.getV_skip ?_ ?_ | with_reducible refine Mine.getO_skip ?_ ?_ | with_reducible exact Mine.truthN_hitB _ _ _ | with_reducible refine Mine.truthN_skip ?_ ?_ | with_reducible exact Mine.aug_int _ _ | with_reducible exact Mine.truth_bool _ | with_reducible exact Mine.iter_lst _ | with_reducible refine Mine.iteT ?_ | with_reducible refine Mine.iteF ?_ | with_reducible apply Mine.bindS | with_reducible refine Mine.thenS ?_ | with_reducible exact Mine.thenA_ret _ _ _ | with_reducible refine Mine.noneS ?_ | with_reducible apply Mine.ifP | with_reducible rfl | exact Nat.le_of_ble_eq_true rfl | exact ⟨rfl, Nat.le_of_ble_eq_true rfl⟩ | decide)
  have g2 : getV ρ₁ "wide" = some (.int m) := by subst hρ₁; (repeat' first | with_reducible exact Mine.getV_hit _ _ _ | with_reducible exact Mine.getO_hit _ _ _ | with_reducible assumption | with_reducible refine Mine.getV_skip ?_ ?_ | with_reducible refine Mine.getO_skip ?_ ?_ | with_reducible exact Mine.truthN_hitB _ _ _ | with_reducible refine Mine.truthN_skip ?_ ?_ | with_reducible exact Mine.aug_int _ _ | with_reducible exact Mine.truth_bool _ | with_reducible exact Mine.iter_lst _ | with_reducible refine Mine.iteT ?_ | with_reducible refine Mine.iteF ?_ | with_reducible apply Mine.bindS | with_reducible refine Mine.thenS ?_ | with_reducible exact Mine.thenA_ret _ _ _ | with_reducible refine Mine.noneS ?_ | with_reducible apply Mine.ifP | with_reducible rfl | exact Nat.le_of_ble_eq_true rfl | exact ⟨rfl, Nat.le_of_ble_eq_true rfl⟩ | decide)
  have g3 : getO ρ₁ "lines" = some ⟨none, L.map txA⟩ := by subst hρ₁; (repeat' first | with_reducible exact Mine.getV_hit _ _ _ | with_reducible exact Mine.getO_hit _ _ _ | with_reducible assumption | with_reducible refine Mine.getV_skip ?_ ?_ | with_reducible refine Mine.getO_skip ?_ ?_ | with_reducible exact Mine.truthN_hitB _ _ _ | with_reducible refine Mine.truthN_skip ?_ ?_ | with_reducible exact Mine.aug_int _ _ | with_reducible exact Mine.truth_bool _ | with_reducible exact Mine.iter_lst _ | with_reducible refine Mine.iteT ?_ | with_reducible refine Mine.iteF ?_ | with_reducible apply Mine.bindS | with_reducible refine Mine.thenS ?_ | with_reducible exact Mine.thenA_ret _ _ _ | with_reducible refine Mine.noneS ?_ | with_reducible apply Mine.ifP | with_reducible rfl | exact Nat.le_of_ble_eq_true rfl | exact ⟨rfl, Nat.le_of_ble_eq_true rfl⟩ | decide)
  have g4 : getV ρ₁ "kind" = some (intA (x % 9)) := by subst hρ₁; (repeat' first | with_reducible exact Mine.getV_hit _ _ _ | with_reducible exact Mine.getO_hit _ _ _ | with_reducible assumption | with_reducible refine Mine.getV_skip ?_ ?_ | with_reducible refine Mine.getO_skip ?_ ?_ | with_reducible exact Mine.truthN_hitB _ _ _ | with_reducible refine Mine.truthN_skip ?_ ?_ | with_reducible exact Mine.aug_int _ _ | with_reducible exact Mine.truth_bool _ | with_reducible exact Mine.iter_lst _ | with_reducible refine Mine.iteT ?_ | with_reducible refine Mine.iteF ?_ | with_reducible apply Mine.bindS | with_reducible refine Mine.thenS ?_ | with_reducible exact Mine.thenA_ret _ _ _ | with_reducible refine Mine.noneS ?_ | with_reducible apply Mine.ifP | with_reducible rfl | exact Nat.le_of_ble_eq_true rfl | exact ⟨rfl, Nat.le_of_ble_eq_true rfl⟩ | decide)
  have g5 : getV ρ₁ "rest" = some (intA (x / 9)) := by subst hρ₁; (repeat' first | with_reducible exact Mine.getV_hit _ _ _ | with_reducible exact Mine.getO_hit _ _ _ | with_reducible assumption | with_reducible refine Mine.getV_skip ?_ ?_ | with_reducible refine Mine.getO_skip ?_ ?_ | with_reducible exact Mine.truthN_hitB _ _ _ | with_reducible refine Mine.truthN_skip ?_ ?_ | with_reducible exact Mine.aug_int _ _ | with_reducible exact Mine.truth_bool _ | with_reducible exact Mine.iter_lst _ | with_reducible refine Mine.iteT ?_ | with_reducible refine Mine.iteF ?_ | with_reducible apply Mine.bindS | with_reducible refine Mine.thenS ?_ | with_reducible exact Mine.thenA_ret _ _ _ | with_reducible refine Mine.noneS ?_ | with_reducible apply Mine.ifP | with_reducible rfl | exact Nat.le_of_ble_eq_true rfl | exact ⟨rfl, Nat.le_of_ble_eq_true rfl⟩ | decide)
  have start : ∀ q, fPre_k5 ρ₁ = some (.next, q) → (fPre_T6 (intA x) ρ >>= fPre_B7) = some (.next, q) := fun q hq => by
    refine bindS (show fPre_T6 (intA x) ρ = some (ρ.set "x" (.val (intA x))) from rfl) ?_
    rw [← hρ₁] at hq
    unfold fPre_B7
    refine bindS (bindS (a := [SV.val (intA (x % 9)), SV.val (intA (x / 9))]) ?_ (ifP ⟨rfl, Nat.le_of_ble_eq_true rfl⟩ rfl)) (thenS hq)
    (repeat' first | with_reducible exact Mine.getV_hit _ _ _ | with_reducible exact Mine.getO_hit _ _ _ | with_reducible assumption | with_reducible refine Mine.getV_skip ?_ ?_ | with_reducible refine Mine.getO_skip ?_ ?_ | with_reducible exact Mine.truthN_hitB _ _ _ | with_reducible refine Mine.truthN_skip ?_ ?_ | with_reducible exact Mine.aug_int _ _ | with_reducible exact Mine.truth_bool _ | with_reducible exact Mine.iter_lst _ | with_reducible refine Mine.iteT ?_ | with_reducible refine Mine.iteF ?_ | with_reducible apply Mine.bindS | with_reducible refine Mine.thenS ?_ | with_reducible exact Mine.thenA_ret _ _ _ | with_reducible refine Mine.noneS ?_ | with_reducible apply Mine.ifP | with_reducible rfl | exact Nat.le_of_ble_eq_true rfl | exact ⟨rfl, Nat.le_of_ble_eq_true rfl⟩ | decide)
  have c8 : cmpA .Eq (intA (x % 9)) (.int 8) = some (((x % 9 : Nat) : Int) == 8) := eq_int' _ _
  have zL : (L.map txA).length ≤ 1000000 := by rw [List.length_map]; (first | lia | omega)
  by_cases h8 : x % 9 = 8
  · rw [show (((x % 9 : Nat) : Int) == 8) = true by rw [beq_iff_eq]; (first | lia | omega)] at c8
    refine ⟨ρ₁.set "lines" (.own ⟨none, (L ++ [[]]).map txA⟩), L ++ [[]], start _ ?_, ⟨by (repeat' first | with_reducible exact Mine.getV_hit _ _ _ | with_reducible exact Mine.getO_hit _ _ _ | with_reducible assumption | with_reducible refine Mine.getV_skip ?_ ?_ | with_reducible refine Mine.getO_skip ?_ ?_ | with_reducible exact Mine.truthN_hitB _ _ _ | with_reducible refine Mine.truthN_skip ?_ ?_ | with_reducible exact Mine.aug_int _ _ | with_reducible exact Mine.truth_bool _ | with_reducible exact Mine.iter_lst _ | with_reducible refine Mine.iteT ?_ | with_reducible refine Mine.iteF ?_ | with_reducible apply Mine.bindS | with_reducible refine Mine.thenS ?_ | with_reducible exact Mine.thenA_ret _ _ _ | with_reducible refine Mine.noneS ?_ | with_reducible apply Mine.ifP | with_reducible rfl | exact Nat.le_of_ble_eq_true rfl | exact ⟨rfl, Nat.le_of_ble_eq_true rfl⟩ | decide), by (repeat' first | with_reducible exact Mine.getV_hit _ _ _ | with_reducible exact Mine.getO_hit _ _ _ | with_reducible assumption | with_reducible refine Mine.getV_skip ?_ ?_ | with_reducible refine Mine.getO_skip ?_ ?_ | with_reducible exact Mine.truthN_hitB _ _ _ | with_reducible refine Mine.truthN_skip ?_ ?_ | with_reducible exact Mine.aug_int _ _ | with_reducible exact Mine.truth_bool _ | with_reducible exact Mine.iter_lst _ | with_reducible refine Mine.iteT ?_ | with_reducible refine Mine.iteF ?_ | with_reducible apply Mine.bindS | with_reducible refine Mine.thenS ?_ | with_reducible exact Mine.thenA_ret _ _ _ | with_reducible refine Mine.noneS ?_ | with_reducible apply Mine.ifP | with_reducible rfl | exact Nat.le_of_ble_eq_true rfl | exact ⟨rfl, Nat.le_of_ble_eq_true rfl⟩ | decide), getO_hit _ _ _, by simp, by simp; (first | lia | omega), fun l hl => ?_⟩⟩
    · unfold fPre_k5
      rw [List.map_append]
      refine bindS (a := (.next, ρ₁.set "lines" (.own ⟨none, L.map txA ++ [.str ""]⟩))) (bindS (bindS g4 (bindS rfl c8)) (iteT (bindS (bindS g3 (bindS rfl (ifP zL rfl))) rfl))) ?_
      rw [l_empty]; rfl
    · rcases List.mem_append.mp hl with hl | hl
      · have := hs l hl; (first | lia | omega)
      · rw [List.mem_singleton.mp hl]; simp
  · rw [show (((x % 9 : Nat) : Int) == 8) = false by rw [beq_eq_false_iff_ne]; (first | lia | omega)] at c8
    have m12 : binA .Mod (intA (x / 9)) (.int 12) = some (intA (x / 9 % 12)) := mod_nat (x / 9) 12 (by (first | lia | omega))
    have a12 : binA .Add (.int 1) (intA (x / 9 % 12)) = some (intA (1 + x / 9 % 12)) := by unfold intA; rw [Int.natCast_add]; rfl
    have t12 : binA .Mult (.str "\t") (intA (1 + x / 9 % 12)) = some (txA (List.replicate (1 + x / 9 % 12) 9)) := by
      rw [l_tab]; unfold intA
      rw [mul_str' _ _ ⟨by (first | lia | omega), by (first | lia | omega), by rw [tx_length]; simp; (first | lia | omega)⟩]
      unfold repStr txA
      rw [tx_list, Int.toNat_natCast, List.flatten_replicate_singleton]; rfl
    have m6 : binA .Mod (intA (x / 9)) (.int 6) = some (intA (x / 9 % 6)) := mod_nat (x / 9) 6 (by (first | lia | omega))
    obtain ⟨wh, hwh, iw⟩ := pick5 [[11], [12], [31], [133], [8232], [12288]] (x / 9 % 6) (by simp; (first | lia | omega)) (by simp) (by (first | lia | omega))
    have iw : idxA (.lst [.str "\x0b", .str "\x0c", .str "\x1f", .str "\u0085", .str "\u2028", .str "\u3000"]) (intA (x / 9 % 6)) = some (txA wh) := by
      rw [l_w1, l_w2, l_w3, l_w4, l_w5, l_w6]; exact iw
    have mc : binA .Mod (intA (x / 9)) (.int 1114112) = some (intA (x / 9 % 1114112)) := mod_nat (x / 9) 1114112 (by (first | lia | omega))
    have ch : chrF [intA (x / 9 % 1114112)] = some (txA [x / 9 % 1114112]) := chr_eq _ (by (first | lia | omega))
    obtain ⟨p, hpl, ip⟩ := pick5 [List.replicate (1 + x / 9 % 12) 9, [32], [0], [10], [13], wh, [x / 9 % 1114112], [97, 98]] (x % 9) (by simp; (first | lia | omega)) (by
      intro l hl
      simp only [List.mem_cons, List.not_mem_nil, or_false] at hl
      rcases hl with rfl | rfl | rfl | rfl | rfl | rfl | rfl | rfl
      · rw [List.length_replicate]; (first | lia | omega)
      all_goals first | exact hwh | decide | exact Nat.le_of_ble_eq_true rfl) (by (first | lia | omega))
    have ip : idxA (.lst [txA (List.replicate (1 + x / 9 % 12) 9), .str " ", .str "\x00", .str "\n", .str "\r", txA wh, txA [x / 9 % 1114112], .str "ab"]) (intA (x % 9)) = some (txA p) := by
      rw [l_blank, l_zero, l_nl, l_ret, l_ab]; exact ip
    obtain ⟨M, last, rfl⟩ : ∃ M last, L = M ++ [last] := by
      rcases List.eq_nil_or_concat L with e | ⟨M, c, e⟩
      · rw [e] at hp; simp at hp
      · exact ⟨M, c, by rw [e, List.concat_eq_append]⟩
    have hl := hs last (by simp)
    have i1 : idxA (.lst ((M ++ [last]).map txA)) (.int (-1)) = some (txA last) := idx_last _ _ (by simp) (by rw [List.length_map]; (first | lia | omega))
    have ng : negA (.int 1) = some (.int (-1)) := rfl
    have ni : AV.int? (.int (-1)) = some (-1) := rfl
    have au : augA .Add (txA last) (txA p) = some (txA (last ++ p)) := aug_str _ _ (by (first | lia | omega))
    have pu : putL ((M ++ [last]).map txA) (-1) (txA (last ++ p)) = some ((M ++ [last ++ p]).map txA) := by
      rw [List.map_append, List.map_append]
      exact put_last _ _ _ (by simp at hf ⊢; (first | lia | omega))
    generalize hρ₂ : (ρ₁.set "tabs" (.val (txA (List.replicate (1 + x / 9 % 12) 9)))).set "white" (.val (txA wh)) = ρ₂
    have q1 : getV ρ₂ "stop" = some (.int n) := by subst hρ₂; (repeat' first | with_reducible exact Mine.getV_hit _ _ _ | with_reducible exact Mine.getO_hit _ _ _ | with_reducible assumption | with_reducible refine Mine.getV_skip ?_ ?_ | with_reducible refine Mine.getO_skip ?_ ?_ | with_reducible exact Mine.truthN_hitB _ _ _ | with_reducible refine Mine.truthN_skip ?_ ?_ | with_reducible exact Mine.aug_int _ _ | with_reducible exact Mine.truth_bool _ | with_reducible exact Mine.iter_lst _ | with_reducible refine Mine.iteT ?_ | with_reducible refine Mine.iteF ?_ | with_reducible apply Mine.bindS | with_reducible refine Mine.thenS ?_ | with_reducible exact Mine.thenA_ret _ _ _ | with_reducible refine Mine.noneS ?_ | with_reducible apply Mine.ifP | with_reducible rfl | exact Nat.le_of_ble_eq_true rfl | exact ⟨rfl, Nat.le_of_ble_eq_true rfl⟩ | decide)
    have q2 : getV ρ₂ "wide" = some (.int m) := by subst hρ₂; (repeat' first | with_reducible exact Mine.getV_hit _ _ _ | with_reducible exact Mine.getO_hit _ _ _ | with_reducible assumption | with_reducible refine Mine.getV_skip ?_ ?_ | with_reducible refine Mine.getO_skip ?_ ?_ | with_reducible exact Mine.truthN_hitB _ _ _ | with_reducible refine Mine.truthN_skip ?_ ?_ | with_reducible exact Mine.aug_int _ _ | with_reducible exact Mine.truth_bool _ | with_reducible exact Mine.iter_lst _ | with_reducible refine Mine.iteT ?_ | with_reducible refine Mine.iteF ?_ | with_reducible apply Mine.bindS | with_reducible refine Mine.thenS ?_ | with_reducible exact Mine.thenA_ret _ _ _ | with_reducible refine Mine.noneS ?_ | with_reducible apply Mine.ifP | with_reducible rfl | exact Nat.le_of_ble_eq_true rfl | exact ⟨rfl, Nat.le_of_ble_eq_true rfl⟩ | decide)
    have q3 : getO ρ₂ "lines" = some ⟨none, (M ++ [last]).map txA⟩ := by subst hρ₂; (repeat' first | with_reducible exact Mine.getV_hit _ _ _ | with_reducible exact Mine.getO_hit _ _ _ | with_reducible assumption | with_reducible refine Mine.getV_skip ?_ ?_ | with_reducible refine Mine.getO_skip ?_ ?_ | with_reducible exact Mine.truthN_hitB _ _ _ | with_reducible refine Mine.truthN_skip ?_ ?_ | with_reducible exact Mine.aug_int _ _ | with_reducible exact Mine.truth_bool _ | with_reducible exact Mine.iter_lst _ | with_reducible refine Mine.iteT ?_ | with_reducible refine Mine.iteF ?_ | with_reducible apply Mine.bindS | with_reducible refine Mine.thenS ?_ | with_reducible exact Mine.thenA_ret _ _ _ | with_reducible refine Mine.noneS ?_ | with_reducible apply Mine.ifP | with_reducible rfl | exact Nat.le_of_ble_eq_true rfl | exact ⟨rfl, Nat.le_of_ble_eq_true rfl⟩ | decide)
    have q4 : getV ρ₂ "kind" = some (intA (x % 9)) := by subst hρ₂; (repeat' first | with_reducible exact Mine.getV_hit _ _ _ | with_reducible exact Mine.getO_hit _ _ _ | with_reducible assumption | with_reducible refine Mine.getV_skip ?_ ?_ | with_reducible refine Mine.getO_skip ?_ ?_ | with_reducible exact Mine.truthN_hitB _ _ _ | with_reducible refine Mine.truthN_skip ?_ ?_ | with_reducible exact Mine.aug_int _ _ | with_reducible exact Mine.truth_bool _ | with_reducible exact Mine.iter_lst _ | with_reducible refine Mine.iteT ?_ | with_reducible refine Mine.iteF ?_ | with_reducible apply Mine.bindS | with_reducible refine Mine.thenS ?_ | with_reducible exact Mine.thenA_ret _ _ _ | with_reducible refine Mine.noneS ?_ | with_reducible apply Mine.ifP | with_reducible rfl | exact Nat.le_of_ble_eq_true rfl | exact ⟨rfl, Nat.le_of_ble_eq_true rfl⟩ | decide)
    have q5 : getV ρ₂ "rest" = some (intA (x / 9)) := by subst hρ₂; (repeat' first | with_reducible exact Mine.getV_hit _ _ _ | with_reducible exact Mine.getO_hit _ _ _ | with_reducible assumption | with_reducible refine Mine.getV_skip ?_ ?_ | with_reducible refine Mine.getO_skip ?_ ?_ | with_reducible exact Mine.truthN_hitB _ _ _ | with_reducible refine Mine.truthN_skip ?_ ?_ | with_reducible exact Mine.aug_int _ _ | with_reducible exact Mine.truth_bool _ | with_reducible exact Mine.iter_lst _ | with_reducible refine Mine.iteT ?_ | with_reducible refine Mine.iteF ?_ | with_reducible apply Mine.bindS | with_reducible refine Mine.thenS ?_ | with_reducible exact Mine.thenA_ret _ _ _ | with_reducible refine Mine.noneS ?_ | with_reducible apply Mine.ifP | with_reducible rfl | exact Nat.le_of_ble_eq_true rfl | exact ⟨rfl, Nat.le_of_ble_eq_true rfl⟩ | decide)
    have q6 : getV ρ₂ "tabs" = some (txA (List.replicate (1 + x / 9 % 12) 9)) := by subst hρ₂; (repeat' first | with_reducible exact Mine.getV_hit _ _ _ | with_reducible exact Mine.getO_hit _ _ _ | with_reducible assumption | with_reducible refine Mine.getV_skip ?_ ?_ | with_reducible refine Mine.getO_skip ?_ ?_ | with_reducible exact Mine.truthN_hitB _ _ _ | with_reducible refine Mine.truthN_skip ?_ ?_ | with_reducible exact Mine.aug_int _ _ | with_reducible exact Mine.truth_bool _ | with_reducible exact Mine.iter_lst _ | with_reducible refine Mine.iteT ?_ | with_reducible refine Mine.iteF ?_ | with_reducible apply Mine.bindS | with_reducible refine Mine.thenS ?_ | with_reducible exact Mine.thenA_ret _ _ _ | with_reducible refine Mine.noneS ?_ | with_reducible apply Mine.ifP | with_reducible rfl | exact Nat.le_of_ble_eq_true rfl | exact ⟨rfl, Nat.le_of_ble_eq_true rfl⟩ | decide)
    have q7 : getV ρ₂ "white" = some (txA wh) := by subst hρ₂; (repeat' first | with_reducible exact Mine.getV_hit _ _ _ | with_reducible exact Mine.getO_hit _ _ _ | with_reducible assumption | with_reducible refine Mine.getV_skip ?_ ?_ | with_reducible refine Mine.getO_skip ?_ ?_ | with_reducible exact Mine.truthN_hitB _ _ _ | with_reducible refine Mine.truthN_skip ?_ ?_ | with_reducible exact Mine.aug_int _ _ | with_reducible exact Mine.truth_bool _ | with_reducible exact Mine.iter_lst _ | with_reducible refine Mine.iteT ?_ | with_reducible refine Mine.iteF ?_ | with_reducible apply Mine.bindS | with_reducible refine Mine.thenS ?_ | with_reducible exact Mine.thenA_ret _ _ _ | with_reducible refine Mine.noneS ?_ | with_reducible apply Mine.ifP | with_reducible rfl | exact Nat.le_of_ble_eq_true rfl | exact ⟨rfl, Nat.le_of_ble_eq_true rfl⟩ | decide)
    have k3 : fPre_k3 ρ₂ = some (.next, ρ₂.set "lines" (.own ⟨none, (M ++ [last ++ p]).map txA⟩)) := by
      unfold fPre_k3; (repeat' first | with_reducible exact Mine.getV_hit _ _ _ | with_reducible exact Mine.getO_hit _ _ _ | with_reducible assumption | with_reducible refine Mine.getV_skip ?_ ?_ | with_reducible refine Mine.getO_skip ?_ ?_ | with_reducible exact Mine.truthN_hitB _ _ _ | with_reducible refine Mine.truthN_skip ?_ ?_ | with_reducible exact Mine.aug_int _ _ | with_reducible exact Mine.truth_bool _ | with_reducible exact Mine.iter_lst _ | with_reducible refine Mine.iteT ?_ | with_reducible refine Mine.iteF ?_ | with_reducible apply Mine.bindS | with_reducible refine Mine.thenS ?_ | with_reducible exact Mine.thenA_ret _ _ _ | with_reducible refine Mine.noneS ?_ | with_reducible apply Mine.ifP | with_reducible rfl | exact Nat.le_of_ble_eq_true rfl | exact ⟨rfl, Nat.le_of_ble_eq_true rfl⟩ | decide)
    have k4 : fPre_k4 (ρ₁.set "tabs" (.val (txA (List.replicate (1 + x / 9 % 12) 9)))) = some (.next, ρ₂.set "lines" (.own ⟨none, (M ++ [last ++ p]).map txA⟩)) := by
      rw [← hρ₂] at k3 ⊢
      unfold fPre_k4; (repeat' first | with_reducible exact Mine.getV_hit _ _ _ | with_reducible exact Mine.getO_hit _ _ _ | with_reducible assumption | with_reducible refine Mine.getV_skip ?_ ?_ | with_reducible refine Mine.getO_skip ?_ ?_ | with_reducible exact Mine.truthN_hitB _ _ _ | with_reducible refine Mine.truthN_skip ?_ ?_ | with_reducible exact Mine.aug_int _ _ | with_reducible exact Mine.truth_bool _ | with_reducible exact Mine.iter_lst _ | with_reducible refine Mine.iteT ?_ | with_reducible refine Mine.iteF ?_ | with_reducible apply Mine.bindS | with_reducible refine Mine.thenS ?_ | with_reducible exact Mine.thenA_ret _ _ _ | with_reducible refine Mine.noneS ?_ | with_reducible apply Mine.ifP | with_reducible rfl | exact Nat.le_of_ble_eq_true rfl | exact ⟨rfl, Nat.le_of_ble_eq_true rfl⟩ | decide)
    refine ⟨ρ₂.set "lines" (.own ⟨none, (M ++ [last ++ p]).map txA⟩), M ++ [last ++ p], start _ ?_, ⟨by (repeat' first | with_reducible exact Mine.getV_hit _ _ _ | with_reducible exact Mine.getO_hit _ _ _ | with_reducible assumption | with_reducible refine Mine.getV_skip ?_ ?_ | with_reducible refine Mine.getO_skip ?_ ?_ | with_reducible exact Mine.truthN_hitB _ _ _ | with_reducible refine Mine.truthN_skip ?_ ?_ | with_reducible exact Mine.aug_int _ _ | with_reducible exact Mine.truth_bool _ | with_reducible exact Mine.iter_lst _ | with_reducible refine Mine.iteT ?_ | with_reducible refine Mine.iteF ?_ | with_reducible apply Mine.bindS | with_reducible refine Mine.thenS ?_ | with_reducible exact Mine.thenA_ret _ _ _ | with_reducible refine Mine.noneS ?_ | with_reducible apply Mine.ifP | with_reducible rfl | exact Nat.le_of_ble_eq_true rfl | exact ⟨rfl, Nat.le_of_ble_eq_true rfl⟩ | decide), by (repeat' first | with_reducible exact Mine.getV_hit _ _ _ | with_reducible exact Mine.getO_hit _ _ _ | with_reducible assumption | with_reducible refine Mine.getV_skip ?_ ?_ | with_reducible refine Mine.getO_skip ?_ ?_ | with_reducible exact Mine.truthN_hitB _ _ _ | with_reducible refine Mine.truthN_skip ?_ ?_ | with_reducible exact Mine.aug_int _ _ | with_reducible exact Mine.truth_bool _ | with_reducible exact Mine.iter_lst _ | with_reducible refine Mine.iteT ?_ | with_reducible refine Mine.iteF ?_ | with_reducible apply Mine.bindS | with_reducible refine Mine.thenS ?_ | with_reducible exact Mine.thenA_ret _ _ _ | with_reducible refine Mine.noneS ?_ | with_reducible apply Mine.ifP | with_reducible rfl | exact Nat.le_of_ble_eq_true rfl | exact ⟨rfl, Nat.le_of_ble_eq_true rfl⟩ | decide), getO_hit _ _ _, by simp, by simp at hf ⊢; (first | lia | omega), fun l hl' => ?_⟩⟩
    · unfold fPre_k5; (repeat' first | with_reducible exact Mine.getV_hit _ _ _ | with_reducible exact Mine.getO_hit _ _ _ | with_reducible assumption | with_reducible refine Mine.getV_skip ?_ ?_ | with_reducible refine Mine.getO_skip ?_ ?_ | with_reducible exact Mine.truthN_hitB _ _ _ | with_reducible refine Mine.truthN_skip ?_ ?_ | with_reducible exact Mine.aug_int _ _ | with_reducible exact Mine.truth_bool _ | with_reducible exact Mine.iter_lst _ | with_reducible refine Mine.iteT ?_ | with_reducible refine Mine.iteF ?_ | with_reducible apply Mine.bindS | with_reducible refine Mine.thenS ?_ | with_reducible exact Mine.thenA_ret _ _ _ | with_reducible refine Mine.noneS ?_ | with_reducible apply Mine.ifP | with_reducible rfl | exact Nat.le_of_ble_eq_true rfl | exact ⟨rfl, Nat.le_of_ble_eq_true rfl⟩ | decide)
    · rcases List.mem_append.mp hl' with hl' | hl'
      · have := hs l (List.mem_append.mpr (.inl hl')); (first | lia | omega)
      · rw [List.mem_singleton.mp hl', List.length_append]; (first | lia | omega)
theorem pre_loop {n m : Int} : ∀ (xs : List Nat) (ρ : Slots) (L : List (List Nat)) (k : Nat), PreInv ρ n m L k → k + xs.length ≤ 100 → ∃ ρ' L', Runs fPre_T6 fPre_B7 (xs.map intA) ρ ρ' ∧ PreInv ρ' n m L' (k + xs.length)
  | [], ρ, L, k, h, _ => ⟨ρ, L, .nil, h⟩
  | x :: xs, ρ, L, k, h, hz => by
    simp only [List.length_cons] at hz
    obtain ⟨ρ₁, L₁, e₁, h₁⟩ := pre_turn h (by (first | lia | omega)) x
    obtain ⟨ρ₂, L₂, e₂, h₂⟩ := pre_loop xs ρ₁ L₁ (k + 1) h₁ (by (first | lia | omega))
    exact ⟨ρ₂, L₂, .cons e₁ e₂, by rw [List.length_cons, show k + (xs.length + 1) = k + 1 + xs.length by (first | lia | omega)]; exact h₂⟩
structure Stops (n m : Int) : Prop where
  n1 : -1 ≤ n
  n8 : n ≤ 8
  m1 : -100 ≤ m
  m8 : m ≤ 100
  both : (0 < n ∧ 0 < m ∧ ∀ x : Nat, x % m.toNat = 0 → x % n.toNat = 0) ∨ (¬ 0 < n ∧ ¬ 0 < m)
theorem stops_of (a b : Nat) (ha : a < 10) (hb : b < 3) : Stops ((a : Int) - 1) (((a : Int) - 1) * (1 + b : Nat)) := by
  have : b = 0 ∨ b = 1 ∨ b = 2 := by (first | lia | omega)
  rcases Nat.lt_or_ge 1 a with h | h
  · obtain ⟨c, rfl⟩ : ∃ c, a = c + 2 := ⟨a - 2, by (first | lia | omega)⟩
    have e1 : ((c + 2 : Nat) : Int) - 1 = ((c + 1 : Nat) : Int) := by (first | lia | omega)
    have e2 : ((c + 1 : Nat) : Int) * ((1 + b : Nat) : Int) = (((c + 1) * (1 + b) : Nat) : Int) := by rw [Int.natCast_mul]
    rw [e1, e2]
    have hm : (c + 1) * (1 + b) ≤ 100 := by
      have : (c + 1) * (1 + b) ≤ 10 * 10 := Nat.mul_le_mul (by (first | lia | omega)) (by (first | lia | omega))
      (first | lia | omega)
    have hp : 0 < (c + 1) * (1 + b) := Nat.mul_pos (by (first | lia | omega)) (by (first | lia | omega))
    refine ⟨by (first | lia | omega), by (first | lia | omega), by (first | lia | omega), by (first | lia | omega), .inl ⟨by (first | lia | omega), by (first | lia | omega), fun x hx => ?_⟩⟩
    rw [Int.toNat_natCast] at hx ⊢
    exact Nat.mod_eq_zero_of_dvd (Nat.dvd_trans (Nat.dvd_mul_right _ _) (Nat.dvd_of_mod_eq_zero hx))
  · have ha' : (a : Int) - 1 = -1 ∨ (a : Int) - 1 = 0 := by (first | lia | omega)
    rcases ha' with e | e <;> rw [e] <;> (rcases this with rfl | rfl | rfl) <;> exact ⟨by decide, by decide, by decide, by decide, .inr ⟨by decide, by decide⟩⟩
theorem pre_all (ns : List Int) (h : ns.length ≤ 63) : ∃ ρ n m L, fPre (script0 ns) = some (.next, ρ) ∧ PreInv ρ n m L 63 ∧ Stops n m := by
  have g0 : getV (script0 ns) "script" = some (.lst (ns.map .int)) := by unfold getV script0; simp
  obtain ⟨hM1, hM2⟩ := nums5_len ns h
  have zl : (ns.map AV.int).length ≤ 1000000 := by rw [List.length_map]; (first | lia | omega)
  generalize script0 ns = ρ at *
  generalize hρ₁ : ρ.set "numbers" (.own ⟨none, (ns.map Int.natAbs).map intA⟩) = ρ₁
  have g1 : getO ρ₁ "numbers" = some ⟨none, (ns.map Int.natAbs).map intA⟩ := by subst hρ₁; (repeat' first | with_reducible exact Mine.getV_hit _ _ _ | with_reducible exact Mine.getO_hit _ _ _ | with_reducible assumption | with_reducible refine Mine.getV_skip ?_ ?_ | with_reducible refine Mine.getO_skip ?_ ?_ | with_reducible exact Mine.truthN_hitB _ _ _ | with_reducible refine Mine.truthN_skip ?_ ?_ | with_reducible exact Mine.aug_int _ _ | with_reducible exact Mine.truth_bool _ | with_reducible exact Mine.iter_lst _ | with_reducible refine Mine.iteT ?_ | with_reducible refine Mine.iteF ?_ | with_reducible apply Mine.bindS | with_reducible refine Mine.thenS ?_ | with_reducible exact Mine.thenA_ret _ _ _ | with_reducible refine Mine.noneS ?_ | with_reducible apply Mine.ifP | with_reducible rfl | exact Nat.le_of_ble_eq_true rfl | exact ⟨rfl, Nat.le_of_ble_eq_true rfl⟩ | decide)
  have gl := getL_own g1
  have ec : cutO (.lst [.int 5, .int 34, .int 4, .int 16, .int 28, .int 54, .int 7]) (some (ns.length : Int)) none = some ((dfl05.drop ns.length).map intA) := by
    show (if ([.int 5, .int 34, .int 4, .int 16, .int 28, .int 54, .int 7] : List AV).length ≤ 1000000 then some (cutL ([.int 5, .int 34, .int 4, .int 16, .int 28, .int 54, .int 7] : List AV) (some (ns.length : Int)) none) else none) = _
    rw [if_pos (by simp), cutL_drop, List.map_drop]; rfl
  obtain ⟨N, hN⟩ : ∃ N, nums5 ns = N := ⟨_, rfl⟩
  have hN' : (ns.map Int.natAbs).map intA ++ (dfl05.drop ns.length).map intA = N.map intA := by rw [← hN, nums5, List.map_append]
  rw [hN] at hM1 hM2
  obtain ⟨n0, N', rfl⟩ : ∃ a l, N = a :: l := by cases N with
    | nil => simp at hM1
    | cons a l => exact ⟨a, l, rfl⟩
  have i0 : idxA (.lst ((n0 :: N').map intA)) (.int 0) = some (intA n0) := rfl
  have m10 : binA .Mod (intA n0) (.int 10) = some (intA (n0 % 10)) := mod_nat n0 10 (by (first | lia | omega))
  have s1 : binA .Sub (intA (n0 % 10)) (.int 1) = some (.int (((n0 % 10 : Nat) : Int) - 1)) := rfl
  have m3 : binA .Mod (intA n0) (.int 3) = some (intA (n0 % 3)) := mod_nat n0 3 (by (first | lia | omega))
  have a1 : binA .Add (.int 1) (intA (n0 % 3)) = some (intA (1 + n0 % 3)) := by unfold intA; rw [Int.natCast_add]; rfl
  have st := stops_of (n0 % 10) (n0 % 3) (by (first | lia | omega)) (by (first | lia | omega))
  have mu : binA .Mult (.int (((n0 % 10 : Nat) : Int) - 1)) (intA (1 + n0 % 3)) = some (.int ((((n0 % 10 : Nat) : Int) - 1) * ((1 + n0 % 3 : Nat) : Int))) := if_pos ⟨by (first | lia | omega), by (first | lia | omega)⟩
  generalize ((n0 % 10 : Nat) : Int) - 1 = n at *
  generalize n * ((1 + n0 % 3 : Nat) : Int) = m at *
  generalize hρ₂ : (ρ₁.set "numbers" (.own ⟨none, (n0 :: N').map intA⟩)).set "numbers" (.val (.lst ((n0 :: N').map intA))) = ρ₂
  have b1 : getV ρ₂ "numbers" = some (.lst ((n0 :: N').map intA)) := by subst hρ₂; (repeat' first | with_reducible exact Mine.getV_hit _ _ _ | with_reducible exact Mine.getO_hit _ _ _ | with_reducible assumption | with_reducible refine Mine.getV_skip ?_ ?_ | with_reducible refine Mine.getO_skip ?_ ?_ | with_reducible exact Mine.truthN_hitB _ _ _ | with_reducible refine Mine.truthN_skip ?_ ?_ | with_reducible exact Mine.aug_int _ _ | with_reducible exact Mine.truth_bool _ | with_reducible exact Mine.iter_lst _ | with_reducible refine Mine.iteT ?_ | with_reducible refine Mine.iteF ?_ | with_reducible apply Mine.bindS | with_reducible refine Mine.thenS ?_ | with_reducible exact Mine.thenA_ret _ _ _ | with_reducible refine Mine.noneS ?_ | with_reducible apply Mine.ifP | with_reducible rfl | exact Nat.le_of_ble_eq_true rfl | exact ⟨rfl, Nat.le_of_ble_eq_true rfl⟩ | decide)
  generalize hρ₃ : ((ρ₂.set "stop" (.val (.int n))).set "wide" (.val (.int m))).set "lines" (.own ⟨none, [.str ""]⟩) = ρ₃
  have c1 : getV ρ₃ "numbers" = some (.lst ((n0 :: N').map intA)) := by subst hρ₃; (repeat' first | with_reducible exact Mine.getV_hit _ _ _ | with_reducible exact Mine.getO_hit _ _ _ | with_reducible assumption | with_reducible refine Mine.getV_skip ?_ ?_ | with_reducible refine Mine.getO_skip ?_ ?_ | with_reducible exact Mine.truthN_hitB _ _ _ | with_reducible refine Mine.truthN_skip ?_ ?_ | with_reducible exact Mine.aug_int _ _ | with_reducible exact Mine.truth_bool _ | with_reducible exact Mine.iter_lst _ | with_reducible refine Mine.iteT ?_ | with_reducible refine Mine.iteF ?_ | with_reducible apply Mine.bindS | with_reducible refine Mine.thenS ?_ | with_reducible exact Mine.thenA_ret _ _ _ | with_reducible refine Mine.noneS ?_ | with_reducible apply Mine.ifP | with_reducible rfl | exact Nat.le_of_ble_eq_true rfl | exact ⟨rfl, Nat.le_of_ble_eq_true rfl⟩ | decide)
  have inv : PreInv ρ₃ n m [[]] 0 := ⟨by subst hρ₃; (repeat' first | with_reducible exact Mine.getV_hit _ _ _ | with_reducible exact Mine.getO_hit _ _ _ | with_reducible assumption | with_reducible refine Mine.getV_skip ?_ ?_ | with_reducible refine Mine.getO_skip ?_ ?_ | with_reducible exact Mine.truthN_hitB _ _ _ | with_reducible refine Mine.truthN_skip ?_ ?_ | with_reducible exact Mine.aug_int _ _ | with_reducible exact Mine.truth_bool _ | with_reducible exact Mine.iter_lst _ | with_reducible refine Mine.iteT ?_ | with_reducible refine Mine.iteF ?_ | with_reducible apply Mine.bindS | with_reducible refine Mine.thenS ?_ | with_reducible exact Mine.thenA_ret _ _ _ | with_reducible refine Mine.noneS ?_ | with_reducible apply Mine.ifP | with_reducible rfl | exact Nat.le_of_ble_eq_true rfl | exact ⟨rfl, Nat.le_of_ble_eq_true rfl⟩ | decide), by subst hρ₃; (repeat' first | with_reducible exact Mine.getV_hit _ _ _ | with_reducible exact Mine.getO_hit _ _ _ | with_reducible assumption | with_reducible refine Mine.getV_skip ?_ ?_ | with_reducible refine Mine.getO_skip ?_ ?_ | with_reducible exact Mine.truthN_hitB _ _ _ | with_reducible refine Mine.truthN_skip ?_ ?_ | with_reducible exact Mine.aug_int _ _ | with_reducible exact Mine.truth_bool _ | with_reducible exact Mine.iter_lst _ | with_reducible refine Mine.iteT ?_ | with_reducible refine Mine.iteF ?_ | with_reducible apply Mine.bindS | with_reducible refine Mine.thenS ?_ | with_reducible exact Mine.thenA_ret _ _ _ | with_reducible refine Mine.noneS ?_ | with_reducible apply Mine.ifP | with_reducible rfl | exact Nat.le_of_ble_eq_true rfl | exact ⟨rfl, Nat.le_of_ble_eq_true rfl⟩ | decide), by subst hρ₃; rw [l_empty]; exact getO_hit _ _ _, by simp, by simp, fun l hl => by rw [List.mem_singleton.mp hl]; simp⟩
  simp only [List.length_cons] at hM2
  obtain ⟨ρ', L, e, hi⟩ := pre_loop N' ρ₃ [[]] 0 inv (by (first | lia | omega))
  have e' := e.forA
  have cu : cutA (.lst ((n0 :: N').map intA)) (some 1) none = some (.lst (N'.map intA)) := by
    rw [cut_lst _ _ _ (by simp; (first | lia | omega))]
    have := cutL_drop ((n0 :: N').map intA) 1
    exact congrArg (fun l => some (AV.lst l)) this
  have k8 : fPre_k8 ρ₃ = some (.next, ρ') := by
    unfold fPre_k8
    exact bindS (bindS (bindS (bindS c1 (bindS rfl (bindS rfl cu))) (iter_lst _)) e') rfl
  have k9 : fPre_k9 ((ρ₂.set "stop" (.val (.int n))).set "wide" (.val (.int m))) = some (.next, ρ') := by
    rw [← hρ₃] at k8
    unfold fPre_k9
    exact bindS (bindS (bindS rfl (ifP (by decide) rfl)) rfl) (thenS k8)
  have k10 : fPre_k10 (ρ₂.set "stop" (.val (.int n))) = some (.next, ρ') := by
    unfold fPre_k10; (repeat' first | with_reducible exact Mine.getV_hit _ _ _ | with_reducible exact Mine.getO_hit _ _ _ | with_reducible assumption | with_reducible refine Mine.getV_skip ?_ ?_ | with_reducible refine Mine.getO_skip ?_ ?_ | with_reducible exact Mine.truthN_hitB _ _ _ | with_reducible refine Mine.truthN_skip ?_ ?_ | with_reducible exact Mine.aug_int _ _ | with_reducible exact Mine.truth_bool _ | with_reducible exact Mine.iter_lst _ | with_reducible refine Mine.iteT ?_ | with_reducible refine Mine.iteF ?_ | with_reducible apply Mine.bindS | with_reducible refine Mine.thenS ?_ | with_reducible exact Mine.thenA_ret _ _ _ | with_reducible refine Mine.noneS ?_ | with_reducible apply Mine.ifP | with_reducible rfl | exact Nat.le_of_ble_eq_true rfl | exact ⟨rfl, Nat.le_of_ble_eq_true rfl⟩ | decide)
  have k11 : fPre_z11 ρ₂ = some (.next, ρ') := by
    unfold fPre_z11; (repeat' first | with_reducible exact Mine.getV_hit _ _ _ | with_reducible exact Mine.getO_hit _ _ _ | with_reducible assumption | with_reducible refine Mine.getV_skip ?_ ?_ | with_reducible refine Mine.getO_skip ?_ ?_ | with_reducible exact Mine.truthN_hitB _ _ _ | with_reducible refine Mine.truthN_skip ?_ ?_ | with_reducible exact Mine.aug_int _ _ | with_reducible exact Mine.truth_bool _ | with_reducible exact Mine.iter_lst _ | with_reducible refine Mine.iteT ?_ | with_reducible refine Mine.iteF ?_ | with_reducible apply Mine.bindS | with_reducible refine Mine.thenS ?_ | with_reducible exact Mine.thenA_ret _ _ _ | with_reducible refine Mine.noneS ?_ | with_reducible apply Mine.ifP | with_reducible rfl | exact Nat.le_of_ble_eq_true rfl | exact ⟨rfl, Nat.le_of_ble_eq_true rfl⟩ | decide)
  have k12 : fPre_k12 (ρ₁.set "numbers" (.own ⟨none, (n0 :: N').map intA⟩)) = some (.next, ρ') := by
    unfold fPre_k12
    rw [freeze_own' (l := ⟨none, (n0 :: N').map intA⟩) (getO_hit _ _ _)]
    show fPre_z11 ((ρ₁.set "numbers" (.own ⟨none, (n0 :: N').map intA⟩)).set "numbers" (.val (.lst ((n0 :: N').map intA)))) = _
    rw [hρ₂]; exact k11
  have ln : ((ns.map Int.natAbs).map intA).length ≤ 16777216 := by simp; (first | lia | omega)
  have ll : (((ns.map Int.natAbs).map intA).length : Int) = (ns.length : Int) := by simp
  have k13 : fPre_k13 ρ₁ = some (.next, ρ') := by
    unfold fPre_k13
    refine bindS (a := (.next, ρ₁.set "numbers" (.own ⟨none, (n0 :: N').map intA⟩))) (bindS g1 (bindS (a := (dfl05.drop ns.length).map intA) (bindS (a := .lst [.int 5, .int 34, .int 4, .int 16, .int 28, .int 54, .int 7]) rfl (bindS (a := some (ns.length : Int)) (bindS (bindS gl (ifP ln rfl)) ?_) (bindS rfl ec))) (ifP ?_ ?_))) (thenS k12)
    · rw [ll]; rfl
    · simp [dfl05]; (first | lia | omega)
    · rw [hN']
  refine ⟨ρ', n, m, L, ?_, ⟨hi.stop, hi.wide, hi.lines, hi.pos, ?_, fun l hl => ?_⟩, st⟩
  · unfold fPre
    refine bindS (bindS (bindS g0 (iter_lst _)) (ifP zl (bindS (comp_abs5 ns _) rfl))) (thenS ?_)
    rw [hρ₁]; exact k13
  · have := hi.few; (first | lia | omega)
  · have := hi.small l hl; (first | lia | omega)
end Mine
end
section
set_option linter.unusedVariables false
set_option linter.unusedSimpArgs false
set_option maxHeartbeats 1000000
namespace Mine
theorem undo_len (n : Int) : ∀ (l : List Nat) (col : Nat), (undo n col l).length ≤ l.length
  | [], _ => Nat.le_refl _
  | c :: r, col => by
    rw [undo]
    have := undo_len n r (nxt c col)
    split <;> simp <;> (first | lia | omega)
theorem rst_len (l : List Nat) : (rst l).length ≤ l.length := by
  obtain ⟨_, k, e⟩ := rst_split l.length l (Nat.le_refl _)
  have := congrArg List.length e
  rw [List.length_append] at this; (first | lia | omega)
theorem E5_len {m : Int} (hm : m ≤ 100) (l : List Nat) : (E5 m l).length ≤ 100 * l.length := by
  have h1 := exp_bound (n := m) (m := 100) (by (first | lia | omega)) (by (first | lia | omega)) l 0
  have h2 := rst_len (expT m 0 l)
  unfold E5; (first | lia | omega)
abbrev FG5 := List AV → Option AV
section
variable {GC GM : FG5}
theorem strip_loop : ∀ (f : Nat) (l : List Nat) (ρ : Slots), l.length < f → l.length ≤ 100000 → getV ρ "plain" = some (.str (tx l)) →
    ∃ ρ', whileA (fPost_C1 GU1 GY1 GC GM) (fPost_B2 GU1 GY1 GC GM) f ρ = some (.next, ρ') ∧ getV ρ' "plain" = some (.str (tx (rst l))) ∧ (∀ x : String, (x == "plain") = false → getV ρ' (Str.ofString x) = getV ρ (Str.ofString x))
  | 0, _, _, h, _, _ => by (first | lia | omega)
  | f + 1, l, ρ, hf, hz, h => by
    have ng : negA (.int 1) = some (.int (-1)) := rfl
    have ni : (asInt (.int (-1))).map some = some (some (-1 : Int)) := rfl
    have c1 : cutA (.str (tx l)) (some (-1)) none = some (.str (tx (l.drop (l.length - 1)))) := by rw [cut_str _ _ _ (by (first | lia | omega)), cut_last]
    have c2 : cutA (.str (tx l)) none (some (-1)) = some (.str (tx (l.take (l.length - 1)))) := by rw [cut_str _ _ _ (by (first | lia | omega)), cut_init]
    have e1 : cmpA .Eq (.str (tx (l.drop (l.length - 1)))) (.str "\n") = some (endsNl l) := by
      rw [l_nl, eq_str]
      refine congrArg some ?_
      rcases snoc_cases l with rfl | ⟨m, c, rfl⟩
      · rfl
      · rw [ends_snoc, show (m ++ [c]).length - 1 = m.length by simp, List.drop_left' rfl, Bool.eq_iff_iff]; simp
    have eC : fPost_C1 GU1 GY1 GC GM ρ = some (endsNl l) := by
      unfold fPost_C1; (repeat' first | with_reducible exact Mine.getV_hit _ _ _ | with_reducible exact Mine.getO_hit _ _ _ | with_reducible assumption | with_reducible refine Mine.getV_skip ?_ ?_ | with_reducible refine Mine.getO_skip ?_ ?_ | with_reducible exact Mine.truthN_hitB _ _ _ | with_reducible refine Mine.truthN_skip ?_ ?_ | with_reducible exact Mine.aug_int _ _ | with_reducible exact Mine.truth_bool _ | with_reducible exact Mine.iter_lst _ | with_reducible refine Mine.iteT ?_ | with_reducible refine Mine.iteF ?_ | with_reducible apply Mine.bindS | with_reducible refine Mine.thenS ?_ | with_reducible exact Mine.thenA_ret _ _ _ | with_reducible refine Mine.noneS ?_ | with_reducible apply Mine.ifP | with_reducible rfl | exact Nat.le_of_ble_eq_true rfl | exact ⟨rfl, Nat.le_of_ble_eq_true rfl⟩ | decide)
    rcases snoc_cases l with rfl | ⟨m, c, rfl⟩
    · refine ⟨ρ, ?_, h, fun _ _ => rfl⟩
      rw [whileA, eC]; rfl
    · rw [ends_snoc] at eC
      rw [show (m ++ [c]).length - 1 = m.length by simp, List.take_left' rfl] at c2
      rw [rst_snoc]
      by_cases hc : c = 10
      · rw [if_pos hc]
        have eB : fPost_B2 GU1 GY1 GC GM ρ = some (.next, ρ.set "plain" (.val (.str (tx m)))) := by
          unfold fPost_B2; (repeat' first | with_reducible exact Mine.getV_hit _ _ _ | with_reducible exact Mine.getO_hit _ _ _ | with_reducible assumption | with_reducible refine Mine.getV_skip ?_ ?_ | with_reducible refine Mine.getO_skip ?_ ?_ | with_reducible exact Mine.truthN_hitB _ _ _ | with_reducible refine Mine.truthN_skip ?_ ?_ | with_reducible exact Mine.aug_int _ _ | with_reducible exact Mine.truth_bool _ | with_reducible exact Mine.iter_lst _ | with_reducible refine Mine.iteT ?_ | with_reducible refine Mine.iteF ?_ | with_reducible apply Mine.bindS | with_reducible refine Mine.thenS ?_ | with_reducible exact Mine.thenA_ret _ _ _ | with_reducible refine Mine.noneS ?_ | with_reducible apply Mine.ifP | with_reducible rfl | exact Nat.le_of_ble_eq_true rfl | exact ⟨rfl, Nat.le_of_ble_eq_true rfl⟩ | decide)
        simp only [List.length_append, List.length_singleton] at hf hz
        obtain ⟨ρ', e', g1, g2⟩ := strip_loop f m (ρ.set "plain" (.val (.str (tx m)))) (by (first | lia | omega)) (by (first | lia | omega)) (getV_hit _ _ _)
        refine ⟨ρ', ?_, g1, fun x hx => (g2 x hx).trans (getV_skip hx rfl)⟩
        rw [whileA, eC, show (c == 10) = true by simp [hc], bind_some', if_pos rfl, eB, bind_some']
        exact e'
      · rw [if_neg hc]
        refine ⟨ρ, ?_, h, fun _ _ => rfl⟩
        rw [whileA, eC, show (c == 10) = false by simpa using hc]; rfl
structure PostSt (ρ : Slots) (n m : Int) (L : List (List Nat)) : Prop where
  stop : getV ρ "stop" = some (.int n)
  wide : getV ρ "wide" = some (.int m)
  lines : getV ρ "lines" = some (.lst (L.map txA))
  once : getV ρ "once" = some (.lst ((L.map (E5 m)).map txA))
theorem post_turn1 {ρ : Slots} {n m : Int} {L : List (List Nat)} (hs : Stops n m) (h : PostSt ρ n m L) (l : List Nat) (hl : l.length ≤ 756) :
    ∃ ρ', (fPost_T6 GU1 GY1 GC GM (.tup [txA l, txA (E5 m l)]) ρ >>= fPost_B7 GU1 GY1 GC GM) = some (.next, ρ') ∧ PostSt ρ' n m L := by
  obtain ⟨h1, h2, h3, h4⟩ := h
  have he := E5_len hs.m8 l
  have r1 : replA "\x00" " " (txA l) = some (txA (l.map (swp 0 32))) := replA_swp "\x00" " " 0 32 l_zero l_blank _ (by (first | lia | omega))
  have ty : GY1 [txA (E5 m l), .int m] = some (.bool true) := by rw [show txA (E5 m l) = .str (tx (E5 m l)) from rfl, GY1_eq _ _ (by (first | lia | omega)), E5_tidy]
  have un : GU1 [txA (E5 m l), .int m] = some (txA (plain5 m l)) := by rw [show txA (E5 m l) = .str (tx (E5 m l)) from rfl, GU1_eq _ _ (by (first | lia | omega)), E5_undo]; rfl
  generalize hρ₁ : ((ρ.set "line" (.val (txA l))).set "told" (.val (txA (E5 m l)))).set "plain" (.val (txA (l.map (swp 0 32)))) = ρ₁
  have fin : ∀ (ρ₂ : Slots) (q : List Nat), (∀ x : String, (x == "plain") = false → getV ρ₂ (Str.ofString x) = getV ρ₁ (Str.ofString x)) → getV ρ₂ "plain" = some (txA q) → q.length ≤ 90000 → rst q = plain5 m l →
      ∃ ρ', fPost_k4 GU1 GY1 GC GM ρ₂ = some (.next, ρ') ∧ PostSt ρ' n m L := fun ρ₂ q hk hq hz hr => by
    obtain ⟨ρ₃, e₃, a, b⟩ := strip_loop (GC := GC) (GM := GM) 100000 q ρ₂ (by (first | lia | omega)) (by (first | lia | omega)) hq
    have k : ∀ x : String, (x == "plain") = false → getV ρ₃ (Str.ofString x) = getV ρ₁ (Str.ofString x) := fun x hx => (b x hx).trans (hk x hx)
    have g1 : getV ρ₃ "stop" = some (.int n) := by rw [k "stop" rfl]; subst hρ₁; (repeat' first | with_reducible exact Mine.getV_hit _ _ _ | with_reducible exact Mine.getO_hit _ _ _ | with_reducible assumption | with_reducible refine Mine.getV_skip ?_ ?_ | with_reducible refine Mine.getO_skip ?_ ?_ | with_reducible exact Mine.truthN_hitB _ _ _ | with_reducible refine Mine.truthN_skip ?_ ?_ | with_reducible exact Mine.aug_int _ _ | with_reducible exact Mine.truth_bool _ | with_reducible exact Mine.iter_lst _ | with_reducible refine Mine.iteT ?_ | with_reducible refine Mine.iteF ?_ | with_reducible apply Mine.bindS | with_reducible refine Mine.thenS ?_ | with_reducible exact Mine.thenA_ret _ _ _ | with_reducible refine Mine.noneS ?_ | with_reducible apply Mine.ifP | with_reducible rfl | exact Nat.le_of_ble_eq_true rfl | exact ⟨rfl, Nat.le_of_ble_eq_true rfl⟩ | decide)
    have g2 : getV ρ₃ "wide" = some (.int m) := by rw [k "wide" rfl]; subst hρ₁; (repeat' first | with_reducible exact Mine.getV_hit _ _ _ | with_reducible exact Mine.getO_hit _ _ _ | with_reducible assumption | with_reducible refine Mine.getV_skip ?_ ?_ | with_reducible refine Mine.getO_skip ?_ ?_ | with_reducible exact Mine.truthN_hitB _ _ _ | with_reducible refine Mine.truthN_skip ?_ ?_ | with_reducible exact Mine.aug_int _ _ | with_reducible exact Mine.truth_bool _ | with_reducible exact Mine.iter_lst _ | with_reducible refine Mine.iteT ?_ | with_reducible refine Mine.iteF ?_ | with_reducible apply Mine.bindS | with_reducible refine Mine.thenS ?_ | with_reducible exact Mine.thenA_ret _ _ _ | with_reducible refine Mine.noneS ?_ | with_reducible apply Mine.ifP | with_reducible rfl | exact Nat.le_of_ble_eq_true rfl | exact ⟨rfl, Nat.le_of_ble_eq_true rfl⟩ | decide)
    have g3 : getV ρ₃ "lines" = some (.lst (L.map txA)) := by rw [k "lines" rfl]; subst hρ₁; (repeat' first | with_reducible exact Mine.getV_hit _ _ _ | with_reducible exact Mine.getO_hit _ _ _ | with_reducible assumption | with_reducible refine Mine.getV_skip ?_ ?_ | with_reducible refine Mine.getO_skip ?_ ?_ | with_reducible exact Mine.truthN_hitB _ _ _ | with_reducible refine Mine.truthN_skip ?_ ?_ | with_reducible exact Mine.aug_int _ _ | with_reducible exact Mine.truth_bool _ | with_reducible exact Mine.iter_lst _ | with_reducible refine Mine.iteT ?_ | with_reducible refine Mine.iteF ?_ | with_reducible apply Mine.bindS | with_reducible refine Mine.thenS ?_ | with_reducible exact Mine.thenA_ret _ _ _ | with_reducible refine Mine.noneS ?_ | with_reducible apply Mine.ifP | with_reducible rfl | exact Nat.le_of_ble_eq_true rfl | exact ⟨rfl, Nat.le_of_ble_eq_true rfl⟩ | decide)
    have g4 : getV ρ₃ "once" = some (.lst ((L.map (E5 m)).map txA)) := by rw [k "once" rfl]; subst hρ₁; (repeat' first | with_reducible exact Mine.getV_hit _ _ _ | with_reducible exact Mine.getO_hit _ _ _ | with_reducible assumption | with_reducible refine Mine.getV_skip ?_ ?_ | with_reducible refine Mine.getO_skip ?_ ?_ | with_reducible exact Mine.truthN_hitB _ _ _ | with_reducible refine Mine.truthN_skip ?_ ?_ | with_reducible exact Mine.aug_int _ _ | with_reducible exact Mine.truth_bool _ | with_reducible exact Mine.iter_lst _ | with_reducible refine Mine.iteT ?_ | with_reducible refine Mine.iteF ?_ | with_reducible apply Mine.bindS | with_reducible refine Mine.thenS ?_ | with_reducible exact Mine.thenA_ret _ _ _ | with_reducible refine Mine.noneS ?_ | with_reducible apply Mine.ifP | with_reducible rfl | exact Nat.le_of_ble_eq_true rfl | exact ⟨rfl, Nat.le_of_ble_eq_true rfl⟩ | decide)
    have g5 : getV ρ₃ "told" = some (txA (E5 m l)) := by rw [k "told" rfl]; subst hρ₁; (repeat' first | with_reducible exact Mine.getV_hit _ _ _ | with_reducible exact Mine.getO_hit _ _ _ | with_reducible assumption | with_reducible refine Mine.getV_skip ?_ ?_ | with_reducible refine Mine.getO_skip ?_ ?_ | with_reducible exact Mine.truthN_hitB _ _ _ | with_reducible refine Mine.truthN_skip ?_ ?_ | with_reducible exact Mine.aug_int _ _ | with_reducible exact Mine.truth_bool _ | with_reducible exact Mine.iter_lst _ | with_reducible refine Mine.iteT ?_ | with_reducible refine Mine.iteF ?_ | with_reducible apply Mine.bindS | with_reducible refine Mine.thenS ?_ | with_reducible exact Mine.thenA_ret _ _ _ | with_reducible refine Mine.noneS ?_ | with_reducible apply Mine.ifP | with_reducible rfl | exact Nat.le_of_ble_eq_true rfl | exact ⟨rfl, Nat.le_of_ble_eq_true rfl⟩ | decide)
    rw [hr] at a
    have a : getV ρ₃ "plain" = some (txA (plain5 m l)) := a
    have ns : cmpA .NotEq (txA (plain5 m l)) (txA (plain5 m l)) = some false := by unfold txA; rw [ne_str, beq_self_eq_true]; rfl
    have nt : Option.map (fun b : Bool => !b) ((((getV ρ₃ "told") >>= fun a => ((getV ρ₃ "wide") >>= fun a => (some []) >>= fun l => some (a :: l)) >>= fun l => some (a :: l)) >>= GY1) >>= truthA) = some false := mapS (bindS (bindS (bindS g5 (bindS (bindS g2 rfl) rfl)) ty) rfl) rfl
    have k3 : fPost_k3 GU1 GY1 GC GM ρ₃ = some (.next, ρ₃) := by
      unfold fPost_k3
      refine bindS (bindS (bindS nt (iteF ?_)) (iteF rfl)) rfl
      refine bindS (bindS (bindS (bindS g5 (bindS (bindS g2 rfl) rfl)) un) (bindS a ns)) (iteF rfl)
    exact ⟨ρ₃, by unfold fPost_k4; exact bindS e₃ (thenS k3), ⟨g1, g2, g3, g4⟩⟩
  have g0 : getV ρ₁ "plain" = some (txA (l.map (swp 0 32))) := by subst hρ₁; (repeat' first | with_reducible exact Mine.getV_hit _ _ _ | with_reducible exact Mine.getO_hit _ _ _ | with_reducible assumption | with_reducible refine Mine.getV_skip ?_ ?_ | with_reducible refine Mine.getO_skip ?_ ?_ | with_reducible exact Mine.truthN_hitB _ _ _ | with_reducible refine Mine.truthN_skip ?_ ?_ | with_reducible exact Mine.aug_int _ _ | with_reducible exact Mine.truth_bool _ | with_reducible exact Mine.iter_lst _ | with_reducible refine Mine.iteT ?_ | with_reducible refine Mine.iteF ?_ | with_reducible apply Mine.bindS | with_reducible refine Mine.thenS ?_ | with_reducible exact Mine.thenA_ret _ _ _ | with_reducible refine Mine.noneS ?_ | with_reducible apply Mine.ifP | with_reducible rfl | exact Nat.le_of_ble_eq_true rfl | exact ⟨rfl, Nat.le_of_ble_eq_true rfl⟩ | decide)
  have gs : getV ρ₁ "stop" = some (.int n) := by subst hρ₁; (repeat' first | with_reducible exact Mine.getV_hit _ _ _ | with_reducible exact Mine.getO_hit _ _ _ | with_reducible assumption | with_reducible refine Mine.getV_skip ?_ ?_ | with_reducible refine Mine.getO_skip ?_ ?_ | with_reducible exact Mine.truthN_hitB _ _ _ | with_reducible refine Mine.truthN_skip ?_ ?_ | with_reducible exact Mine.aug_int _ _ | with_reducible exact Mine.truth_bool _ | with_reducible exact Mine.iter_lst _ | with_reducible refine Mine.iteT ?_ | with_reducible refine Mine.iteF ?_ | with_reducible apply Mine.bindS | with_reducible refine Mine.thenS ?_ | with_reducible exact Mine.thenA_ret _ _ _ | with_reducible refine Mine.noneS ?_ | with_reducible apply Mine.ifP | with_reducible rfl | exact Nat.le_of_ble_eq_true rfl | exact ⟨rfl, Nat.le_of_ble_eq_true rfl⟩ | decide)
  have c1 : cmpA .Lt (.int n) (.int 1) = some (decide (n < 1)) := lt_int' n 1
  have start : ∀ q, fPost_k5 GU1 GY1 GC GM ρ₁ = some (.next, q) → (fPost_T6 GU1 GY1 GC GM (.tup [txA l, txA (E5 m l)]) ρ >>= fPost_B7 GU1 GY1 GC GM) = some (.next, q) := fun q hq => by
    refine bindS (show fPost_T6 GU1 GY1 GC GM (.tup [txA l, txA (E5 m l)]) ρ = some ((ρ.set "line" (.val (txA l))).set "told" (.val (txA (E5 m l)))) from rfl) ?_
    rw [← hρ₁] at hq
    unfold fPost_B7; (repeat' first | with_reducible exact Mine.getV_hit _ _ _ | with_reducible exact Mine.getO_hit _ _ _ | with_reducible assumption | with_reducible refine Mine.getV_skip ?_ ?_ | with_reducible refine Mine.getO_skip ?_ ?_ | with_reducible exact Mine.truthN_hitB _ _ _ | with_reducible refine Mine.truthN_skip ?_ ?_ | with_reducible exact Mine.aug_int _ _ | with_reducible exact Mine.truth_bool _ | with_reducible exact Mine.iter_lst _ | with_reducible refine Mine.iteT ?_ | with_reducible refine Mine.iteF ?_ | with_reducible apply Mine.bindS | with_reducible refine Mine.thenS ?_ | with_reducible exact Mine.thenA_ret _ _ _ | with_reducible refine Mine.noneS ?_ | with_reducible apply Mine.ifP | with_reducible rfl | exact Nat.le_of_ble_eq_true rfl | exact ⟨rfl, Nat.le_of_ble_eq_true rfl⟩ | decide)
  by_cases hn : n < 1
  · rw [decide_eq_true hn] at c1
    have hm : m < 1 := by rcases hs.both with h | h <;> (first | lia | omega)
    have d1 : replA "\t" "" (txA (l.map (swp 0 32))) = some (txA ((l.map (swp 0 32)).filter (· != 9))) := replA_del "\t" "" 9 l_tab l_empty _ (by rw [List.length_map]; (first | lia | omega))
    obtain ⟨ρ', e', st⟩ := fin (ρ₁.set "plain" (.val (txA ((l.map (swp 0 32)).filter (· != 9))))) _ (fun x hx => getV_skip hx rfl) (getV_hit _ _ _) (by have := List.length_filter_le (· != 9) (l.map (swp 0 32)); rw [List.length_map] at this; (first | lia | omega)) (by unfold plain5; rw [if_pos hm])
    refine ⟨ρ', start _ ?_, st⟩
    unfold fPost_k5; (repeat' first | with_reducible exact Mine.getV_hit _ _ _ | with_reducible exact Mine.getO_hit _ _ _ | with_reducible assumption | with_reducible refine Mine.getV_skip ?_ ?_ | with_reducible refine Mine.getO_skip ?_ ?_ | with_reducible exact Mine.truthN_hitB _ _ _ | with_reducible refine Mine.truthN_skip ?_ ?_ | with_reducible exact Mine.aug_int _ _ | with_reducible exact Mine.truth_bool _ | with_reducible exact Mine.iter_lst _ | with_reducible refine Mine.iteT ?_ | with_reducible refine Mine.iteF ?_ | with_reducible apply Mine.bindS | with_reducible refine Mine.thenS ?_ | with_reducible exact Mine.thenA_ret _ _ _ | with_reducible refine Mine.noneS ?_ | with_reducible apply Mine.ifP | with_reducible rfl | exact Nat.le_of_ble_eq_true rfl | exact ⟨rfl, Nat.le_of_ble_eq_true rfl⟩ | decide)
  · rw [decide_eq_false hn] at c1
    have hm : ¬ m < 1 := by rcases hs.both with h | h <;> (first | lia | omega)
    obtain ⟨ρ', e', st⟩ := fin ρ₁ _ (fun x hx => rfl) g0 (by rw [List.length_map]; (first | lia | omega)) (by unfold plain5; rw [if_neg hm])
    refine ⟨ρ', start _ ?_, st⟩
    unfold fPost_k5; (repeat' first | with_reducible exact Mine.getV_hit _ _ _ | with_reducible exact Mine.getO_hit _ _ _ | with_reducible assumption | with_reducible refine Mine.getV_skip ?_ ?_ | with_reducible refine Mine.getO_skip ?_ ?_ | with_reducible exact Mine.truthN_hitB _ _ _ | with_reducible refine Mine.truthN_skip ?_ ?_ | with_reducible exact Mine.aug_int _ _ | with_reducible exact Mine.truth_bool _ | with_reducible exact Mine.iter_lst _ | with_reducible refine Mine.iteT ?_ | with_reducible refine Mine.iteF ?_ | with_reducible apply Mine.bindS | with_reducible refine Mine.thenS ?_ | with_reducible exact Mine.thenA_ret _ _ _ | with_reducible refine Mine.noneS ?_ | with_reducible apply Mine.ifP | with_reducible rfl | exact Nat.le_of_ble_eq_true rfl | exact ⟨rfl, Nat.le_of_ble_eq_true rfl⟩ | decide)
theorem post_loop1 {n m : Int} {L : List (List Nat)} (hs : Stops n m) : ∀ (M : List (List Nat)) (ρ : Slots), PostSt ρ n m L → (∀ l ∈ M, l.length ≤ 756) →
    ∃ ρ', Runs (fPost_T6 GU1 GY1 GC GM) (fPost_B7 GU1 GY1 GC GM) (M.map fun l => .tup [txA l, txA (E5 m l)]) ρ ρ' ∧ PostSt ρ' n m L
  | [], ρ, h, _ => ⟨ρ, .nil, h⟩
  | l :: M, ρ, h, hz => by
    obtain ⟨ρ₁, e₁, h₁⟩ := post_turn1 (GC := GC) (GM := GM) hs h l (hz l List.mem_cons_self)
    obtain ⟨ρ₂, e₂, h₂⟩ := post_loop1 hs M ρ₁ h₁ fun l hl => hz l (List.mem_cons_of_mem _ hl)
    exact ⟨ρ₂, .cons e₁ e₂, h₂⟩
theorem comp_und {n : Int} : ∀ (M : List (List Nat)) (ρ : Slots), (∀ l ∈ M, l.length ≤ 100000) → getV ρ "stop" = some (.int n) → compA (fPost_T8 GU1 GY1 GC GM) (fun _ => some true) (fPost_f9 GU1 GY1 GC GM) (M.map txA) ρ = some ((M.map (undo n 0)).map txA)
  | [], _, _, _ => rfl
  | l :: M, ρ, hz, hs => by
    have h2 : getV (ρ.set "line" (.val (txA l))) "stop" = some (.int n) := by (repeat' first | with_reducible exact Mine.getV_hit _ _ _ | with_reducible exact Mine.getO_hit _ _ _ | with_reducible assumption | with_reducible refine Mine.getV_skip ?_ ?_ | with_reducible refine Mine.getO_skip ?_ ?_ | with_reducible exact Mine.truthN_hitB _ _ _ | with_reducible refine Mine.truthN_skip ?_ ?_ | with_reducible exact Mine.aug_int _ _ | with_reducible exact Mine.truth_bool _ | with_reducible exact Mine.iter_lst _ | with_reducible refine Mine.iteT ?_ | with_reducible refine Mine.iteF ?_ | with_reducible apply Mine.bindS | with_reducible refine Mine.thenS ?_ | with_reducible exact Mine.thenA_ret _ _ _ | with_reducible refine Mine.noneS ?_ | with_reducible apply Mine.ifP | with_reducible rfl | exact Nat.le_of_ble_eq_true rfl | exact ⟨rfl, Nat.le_of_ble_eq_true rfl⟩ | decide)
    have hu : GU1 [txA l, .int n] = some (txA (undo n 0 l)) := GU1_eq n l (hz l List.mem_cons_self)
    have ef : fPost_f9 GU1 GY1 GC GM (ρ.set "line" (.val (txA l))) = some (txA (undo n 0 l)) := by
      unfold fPost_f9; exact bindS (bindS (getV_hit _ _ _) (bindS (bindS h2 rfl) rfl)) hu
    exact bindS (show fPost_T8 GU1 GY1 GC GM (txA l) ρ = _ from rfl) (bindS rfl (iteT (bindS ef (mapS (comp_und M _ (fun m hm => hz m (List.mem_cons_of_mem _ hm)) h2) rfl))))
theorem comp_und' {n : Int} (M : List (List Nat)) (ρ : Slots) (hz : ∀ l ∈ M, l.length ≤ 100000) (hs : getV ρ "stop" = some (.int n)) : compA (fPost_T10 GU1 GY1 GC GM) (fun _ => some true) (fPost_f11 GU1 GY1 GC GM) (M.map txA) ρ = some ((M.map (undo n 0)).map txA) := comp_und (GC := GC) (GM := GM) M ρ hz hs
theorem post_turn2 {ρ : Slots} {n : Int} (h1 : getV ρ "stop" = some (.int n)) (l : List Nat) (hl : l.length ≤ 756) :
    ∃ ρ', (fPost_T13 GU1 GY1 GC GM (.tup [txA l, txA (E5 n (undo n 0 l))]) ρ >>= fPost_B14 GU1 GY1 GC GM) = some (.next, ρ') ∧ getV ρ' "stop" = some (.int n) := by
  generalize hρ₁ : (ρ.set "line" (.val (txA l))).set "back" (.val (txA (E5 n (undo n 0 l)))) = ρ₁
  have g1 : getV ρ₁ "line" = some (txA l) := by subst hρ₁; (repeat' first | with_reducible exact Mine.getV_hit _ _ _ | with_reducible exact Mine.getO_hit _ _ _ | with_reducible assumption | with_reducible refine Mine.getV_skip ?_ ?_ | with_reducible refine Mine.getO_skip ?_ ?_ | with_reducible exact Mine.truthN_hitB _ _ _ | with_reducible refine Mine.truthN_skip ?_ ?_ | with_reducible exact Mine.aug_int _ _ | with_reducible exact Mine.truth_bool _ | with_reducible exact Mine.iter_lst _ | with_reducible refine Mine.iteT ?_ | with_reducible refine Mine.iteF ?_ | with_reducible apply Mine.bindS | with_reducible refine Mine.thenS ?_ | with_reducible exact Mine.thenA_ret _ _ _ | with_reducible refine Mine.noneS ?_ | with_reducible apply Mine.ifP | with_reducible rfl | exact Nat.le_of_ble_eq_true rfl | exact ⟨rfl, Nat.le_of_ble_eq_true rfl⟩ | decide)
  have g2 : getV ρ₁ "back" = some (txA (E5 n (undo n 0 l))) := by subst hρ₁; (repeat' first | with_reducible exact Mine.getV_hit _ _ _ | with_reducible exact Mine.getO_hit _ _ _ | with_reducible assumption | with_reducible refine Mine.getV_skip ?_ ?_ | with_reducible refine Mine.getO_skip ?_ ?_ | with_reducible exact Mine.truthN_hitB _ _ _ | with_reducible refine Mine.truthN_skip ?_ ?_ | with_reducible exact Mine.aug_int _ _ | with_reducible exact Mine.truth_bool _ | with_reducible exact Mine.iter_lst _ | with_reducible refine Mine.iteT ?_ | with_reducible refine Mine.iteF ?_ | with_reducible apply Mine.bindS | with_reducible refine Mine.thenS ?_ | with_reducible exact Mine.thenA_ret _ _ _ | with_reducible refine Mine.noneS ?_ | with_reducible apply Mine.ifP | with_reducible rfl | exact Nat.le_of_ble_eq_true rfl | exact ⟨rfl, Nat.le_of_ble_eq_true rfl⟩ | decide)
  have g3 : getV ρ₁ "stop" = some (.int n) := by subst hρ₁; (repeat' first | with_reducible exact Mine.getV_hit _ _ _ | with_reducible exact Mine.getO_hit _ _ _ | with_reducible assumption | with_reducible refine Mine.getV_skip ?_ ?_ | with_reducible refine Mine.getO_skip ?_ ?_ | with_reducible exact Mine.truthN_hitB _ _ _ | with_reducible refine Mine.truthN_skip ?_ ?_ | with_reducible exact Mine.aug_int _ _ | with_reducible exact Mine.truth_bool _ | with_reducible exact Mine.iter_lst _ | with_reducible refine Mine.iteT ?_ | with_reducible refine Mine.iteF ?_ | with_reducible apply Mine.bindS | with_reducible refine Mine.thenS ?_ | with_reducible exact Mine.thenA_ret _ _ _ | with_reducible refine Mine.noneS ?_ | with_reducible apply Mine.ifP | with_reducible rfl | exact Nat.le_of_ble_eq_true rfl | exact ⟨rfl, Nat.le_of_ble_eq_true rfl⟩ | decide)
  have ty : GY1 [txA l, .int n] = some (.bool (tidyL n 0 l)) := GY1_eq _ _ (by (first | lia | omega))
  have ng : negA (.int 1) = some (.int (-1)) := rfl
  have ni : (asInt (.int (-1))).map some = some (some (-1 : Int)) := rfl
  have c1 : cutA (txA l) (some (-1)) none = some (.str (tx (l.drop (l.length - 1)))) := by unfold txA; rw [cut_str _ _ _ (by (first | lia | omega)), cut_last]
  have e1 : (cmpA .NotEq (.str (tx (l.drop (l.length - 1)))) (.str "\n")).map AV.bool = some (.bool (!endsNl l)) := by
    rw [l_nl, ne_str]
    refine congrArg (fun b => some (AV.bool (!b))) ?_
    rcases snoc_cases l with rfl | ⟨m, c, rfl⟩
    · rfl
    · rw [ends_snoc, show (m ++ [c]).length - 1 = m.length by simp, List.drop_left' rfl, Bool.eq_iff_iff]; simp
  have e2 : (cmpA .NotIn (.str "\x00") (txA l)).map AV.bool = some (.bool (!l.contains 0)) := by
    rw [l_zero]; unfold txA; rw [notin_one]; rfl
  have e3 : (cmpA .Eq (txA (E5 n (undo n 0 l))) (txA l)).map AV.bool = some (.bool (E5 n (undo n 0 l) == l)) := by unfold txA; rw [eq_str]; rfl
  have ev : ((((((getV ρ₁ "line") >>= fun a => ((getV ρ₁ "stop") >>= fun a => (some []) >>= fun l => some (a :: l)) >>= fun l => some (a :: l)) >>= GY1)) >>= fun a => truthA a >>= fun b => if b = true then (((((some (AV.str "\x00")) >>= fun a => (getV ρ₁ "line") >>= fun b => (cmpA .NotIn a b).map AV.bool)) >>= fun a => truthA a >>= fun b => if b = true then (((((getV ρ₁ "line") >>= fun o => ((((some (AV.int 1)) >>= negA)) >>= fun a => (asInt a).map some) >>= fun i => (some none) >>= fun j => cutA o i j)) >>= fun a => (some (AV.str "\n")) >>= fun b => (cmpA .NotEq a b).map AV.bool)) else some a)) else some a)) = some (.bool (tidyL n 0 l && (!l.contains 0) && !endsNl l)) := by
    cases h : tidyL n 0 l with
    | false => rw [h] at ty; exact bindS (bindS (bindS g1 (bindS (bindS g3 rfl) rfl)) ty) (bindS rfl (iteF rfl))
    | true =>
      rw [h] at ty
      refine bindS (bindS (bindS g1 (bindS (bindS g3 rfl) rfl)) ty) (bindS rfl (iteT ?_))
      cases h2 : (!l.contains 0) with
      | false => rw [h2] at e2; exact bindS (bindS rfl (bindS g1 e2)) (bindS rfl (iteF rfl))
      | true =>
        rw [h2] at e2
        refine bindS (bindS rfl (bindS g1 e2)) (bindS rfl (iteT ?_))
        exact bindS (bindS g1 (bindS (bindS (bindS rfl ng) ni) (bindS rfl c1))) (bindS rfl e1)
  rw [E5_fixed] at e3
  generalize (tidyL n 0 l && (!l.contains 0) && !endsNl l) = b at *
  have nb : cmpA .NotEq (.bool b) (.bool b) = some false := by rw [ne_bool, beq_self_eq_true]; rfl
  refine ⟨ρ₁.set "fixed" (.val (.bool b)), bindS (show fPost_T13 GU1 GY1 GC GM (.tup [txA l, txA (E5 n (undo n 0 l))]) ρ = some ρ₁ by subst hρ₁; rfl) ?_, by (repeat' first | with_reducible exact Mine.getV_hit _ _ _ | with_reducible exact Mine.getO_hit _ _ _ | with_reducible assumption | with_reducible refine Mine.getV_skip ?_ ?_ | with_reducible refine Mine.getO_skip ?_ ?_ | with_reducible exact Mine.truthN_hitB _ _ _ | with_reducible refine Mine.truthN_skip ?_ ?_ | with_reducible exact Mine.aug_int _ _ | with_reducible exact Mine.truth_bool _ | with_reducible exact Mine.iter_lst _ | with_reducible refine Mine.iteT ?_ | with_reducible refine Mine.iteF ?_ | with_reducible apply Mine.bindS | with_reducible refine Mine.thenS ?_ | with_reducible exact Mine.thenA_ret _ _ _ | with_reducible refine Mine.noneS ?_ | with_reducible apply Mine.ifP | with_reducible rfl | exact Nat.le_of_ble_eq_true rfl | exact ⟨rfl, Nat.le_of_ble_eq_true rfl⟩ | decide)⟩
  unfold fPost_B14
  refine bindS (bindS ev rfl) (thenS ?_)
  unfold fPost_k12
  exact bindS (bindS (bindS (bindS (getV_skip rfl g2) (bindS (getV_skip rfl g1) e3)) (bindS (getV_hit _ _ _) nb)) (iteF rfl)) rfl
theorem post_loop2 {n : Int} : ∀ (M : List (List Nat)) (ρ : Slots), getV ρ "stop" = some (.int n) → (∀ l ∈ M, l.length ≤ 756) →
    ∃ ρ', Runs (fPost_T13 GU1 GY1 GC GM) (fPost_B14 GU1 GY1 GC GM) (M.map fun l => .tup [txA l, txA (E5 n (undo n 0 l))]) ρ ρ'
  | [], ρ, h, _ => ⟨ρ, .nil⟩
  | l :: M, ρ, h, hz => by
    obtain ⟨ρ₁, e₁, h₁⟩ := post_turn2 (GC := GC) (GM := GM) h l (hz l List.mem_cons_self)
    obtain ⟨ρ₂, e₂⟩ := post_loop2 M ρ₁ h₁ fun l hl => hz l (List.mem_cons_of_mem _ hl)
    exact ⟨ρ₂, .cons e₁ e₂⟩
end
theorem post_all {GC : FG5} {n m : Int} {fs : List (Str × AV)} (hc : GC [.int n] = some (.inst 111 fs)) (hat : attrA 111 "_tabsize" (.inst 111 fs) = some (.int n)) (hno : fs.lookup ("_tab_newline_replace" : Str) = none) {ρ : Slots} {L : List (List Nat)} (hs : Stops n m) (h : PostSt ρ n m L) (ht : getV ρ "turned" = some (.lst ((L.map (E5 m)).map txA).reverse)) (hz : ∀ l ∈ L, l.length ≤ 756) (hL : L.length ≤ 64) :
    ∃ ρ', fPost GU1 GY1 GC GM1 ρ = some (.ret (.bool true), ρ') := by
  obtain ⟨h1, h2, h3, h4⟩ := id h
  have l1 : lenF [.lst ((L.map (E5 m)).map txA)] = some (.int L.length) := by rw [len_lst _ (by simp; (first | lia | omega))]; simp
  have l2 : lenF [.lst (L.map txA)] = some (.int L.length) := by rw [len_lst _ (by simp; (first | lia | omega))]; simp
  have n1 : cmpA .NotEq (.int L.length) (.int L.length) = some false := by rw [ne_int', beq_self_eq_true]; rfl
  have rv : revA (.lst ((L.map (E5 m)).map txA)) = some (.lst ((L.map (E5 m)).map txA).reverse) := rev_lst _ (by simp; (first | lia | omega))
  have n2 : cmpA .NotEq (.lst ((L.map (E5 m)).map txA).reverse) (.lst ((L.map (E5 m)).map txA).reverse) = some false := ne_lst _ (by rw [← List.map_reverse]; exact dat_txs 7 _)
  -- the first loop
  obtain ⟨ρ₁, e₁, st₁⟩ := post_loop1 (GC := GC) (GM := GM1) hs L ρ h hz
  have e₁ := e₁.forA
  have z1 : zipF [.lst (L.map txA), .lst ((L.map (E5 m)).map txA)] = some (L.map fun l => .tup [txA l, txA (E5 m l)]) := by
    show some (zipA (L.map txA) ((L.map (E5 m)).map txA)) = _
    rw [List.map_map, zipA_map]; rfl
  obtain ⟨b1, b2, b3, b4⟩ := st₁
  -- ruled
  have ze : ∀ l ∈ L.map (E5 m), l.length ≤ 100000 := fun l hl => by
    obtain ⟨q, hq, rfl⟩ := List.mem_map.mp hl
    have := E5_len hs.m8 q; have := hz q hq; (first | lia | omega)
  have c1 := comp_und (GC := GC) (GM := GM1) (n := n) L (only ["stop"] ρ₁) (fun l hl => by have := hz l hl; (first | lia | omega)) (by rw [only_hit (by decide)]; exact b1)
  generalize hρ₂ : (ρ₁.set "ruled" (.own ⟨none, (L.map (undo n 0)).map txA⟩)).set "ruled" (.val (.lst ((L.map (undo n 0)).map txA))) = ρ₂
  have d1 : getV ρ₂ "stop" = some (.int n) := by subst hρ₂; (repeat' first | with_reducible exact Mine.getV_hit _ _ _ | with_reducible exact Mine.getO_hit _ _ _ | with_reducible assumption | with_reducible refine Mine.getV_skip ?_ ?_ | with_reducible refine Mine.getO_skip ?_ ?_ | with_reducible exact Mine.truthN_hitB _ _ _ | with_reducible refine Mine.truthN_skip ?_ ?_ | with_reducible exact Mine.aug_int _ _ | with_reducible exact Mine.truth_bool _ | with_reducible exact Mine.iter_lst _ | with_reducible refine Mine.iteT ?_ | with_reducible refine Mine.iteF ?_ | with_reducible apply Mine.bindS | with_reducible refine Mine.thenS ?_ | with_reducible exact Mine.thenA_ret _ _ _ | with_reducible refine Mine.noneS ?_ | with_reducible apply Mine.ifP | with_reducible rfl | exact Nat.le_of_ble_eq_true rfl | exact ⟨rfl, Nat.le_of_ble_eq_true rfl⟩ | decide)
  have d2 : getV ρ₂ "lines" = some (.lst (L.map txA)) := by subst hρ₂; (repeat' first | with_reducible exact Mine.getV_hit _ _ _ | with_reducible exact Mine.getO_hit _ _ _ | with_reducible assumption | with_reducible refine Mine.getV_skip ?_ ?_ | with_reducible refine Mine.getO_skip ?_ ?_ | with_reducible exact Mine.truthN_hitB _ _ _ | with_reducible refine Mine.truthN_skip ?_ ?_ | with_reducible exact Mine.aug_int _ _ | with_reducible exact Mine.truth_bool _ | with_reducible exact Mine.iter_lst _ | with_reducible refine Mine.iteT ?_ | with_reducible refine Mine.iteF ?_ | with_reducible apply Mine.bindS | with_reducible refine Mine.thenS ?_ | with_reducible exact Mine.thenA_ret _ _ _ | with_reducible refine Mine.noneS ?_ | with_reducible apply Mine.ifP | with_reducible rfl | exact Nat.le_of_ble_eq_true rfl | exact ⟨rfl, Nat.le_of_ble_eq_true rfl⟩ | decide)
  have d3 : getV ρ₂ "once" = some (.lst ((L.map (E5 m)).map txA)) := by subst hρ₂; (repeat' first | with_reducible exact Mine.getV_hit _ _ _ | with_reducible exact Mine.getO_hit _ _ _ | with_reducible assumption | with_reducible refine Mine.getV_skip ?_ ?_ | with_reducible refine Mine.getO_skip ?_ ?_ | with_reducible exact Mine.truthN_hitB _ _ _ | with_reducible refine Mine.truthN_skip ?_ ?_ | with_reducible exact Mine.aug_int _ _ | with_reducible exact Mine.truth_bool _ | with_reducible exact Mine.iter_lst _ | with_reducible refine Mine.iteT ?_ | with_reducible refine Mine.iteF ?_ | with_reducible apply Mine.bindS | with_reducible refine Mine.thenS ?_ | with_reducible exact Mine.thenA_ret _ _ _ | with_reducible refine Mine.noneS ?_ | with_reducible apply Mine.ifP | with_reducible rfl | exact Nat.le_of_ble_eq_true rfl | exact ⟨rfl, Nat.le_of_ble_eq_true rfl⟩ | decide)
  have d4 : getV ρ₂ "ruled" = some (.lst ((L.map (undo n 0)).map txA)) := by subst hρ₂; (repeat' first | with_reducible exact Mine.getV_hit _ _ _ | with_reducible exact Mine.getO_hit _ _ _ | with_reducible assumption | with_reducible refine Mine.getV_skip ?_ ?_ | with_reducible refine Mine.getO_skip ?_ ?_ | with_reducible exact Mine.truthN_hitB _ _ _ | with_reducible refine Mine.truthN_skip ?_ ?_ | with_reducible exact Mine.aug_int _ _ | with_reducible exact Mine.truth_bool _ | with_reducible exact Mine.iter_lst _ | with_reducible refine Mine.iteT ?_ | with_reducible refine Mine.iteF ?_ | with_reducible apply Mine.bindS | with_reducible refine Mine.thenS ?_ | with_reducible exact Mine.thenA_ret _ _ _ | with_reducible refine Mine.noneS ?_ | with_reducible apply Mine.ifP | with_reducible rfl | exact Nat.le_of_ble_eq_true rfl | exact ⟨rfl, Nat.le_of_ble_eq_true rfl⟩ | decide)
  have c2 := comp_und' (GC := GC) (GM := GM1) (n := n) (L.map (E5 m)) (only ["stop"] ρ₂) ze (by rw [only_hit (by decide)]; exact d1)
  have zu : ∀ l ∈ L.map (undo n 0), l.length ≤ 1000000 ∧ (expT n 0 l).length ≤ 1000000 := fun l hl => by
    obtain ⟨q, hq, rfl⟩ := List.mem_map.mp hl
    have a := undo_len n q 0; have b := hz q hq
    have c := exp_bound (n := n) (m := 8) (by have := hs.n8; (first | lia | omega)) (by (first | lia | omega)) (undo n 0 q) 0
    exact ⟨by (first | lia | omega), by (first | lia | omega)⟩
  have zv : ∀ l ∈ (L.map (E5 m)).map (undo n 0), l.length ≤ 1000000 ∧ (expT n 0 l).length ≤ 1000000 := fun l hl => by
    obtain ⟨p, hp, rfl⟩ := List.mem_map.mp hl
    obtain ⟨q, hq, rfl⟩ := List.mem_map.mp hp
    have a := undo_len n (E5 m q) 0; have b := hz q hq; have d := E5_len hs.m8 q
    have c := exp_bound (n := n) (m := 8) (by have := hs.n8; (first | lia | omega)) (by (first | lia | omega)) (undo n 0 (E5 m q)) 0
    exact ⟨by (first | lia | omega), by (first | lia | omega)⟩
  have hG := GM1_eq hat (by have := hs.n1; (first | lia | omega)) (by have := hs.n8; (first | lia | omega)) _ _ zu zv (by rw [List.length_map]; (first | lia | omega)) (by rw [List.length_map, List.length_map]; (first | lia | omega))
  have hone : ((L.map (E5 m)).map (undo n 0)).map (fun l => AV.str (tx (rst (expT n 0 l)))) = (L.map (E5 m)).map txA := by
    rw [List.map_map, List.map_map, List.map_map]
    exact List.map_congr_left fun l hl => by show AV.str (tx (E5 n (undo n 0 (E5 m l)))) = AV.str (tx (E5 m l)); rw [E5_twice hs.both]
  have htwo : (L.map (undo n 0)).map (fun l => AV.str (tx (rst (expT n 0 l)))) = (L.map fun l => E5 n (undo n 0 l)).map txA := by
    rw [List.map_map, List.map_map]; rfl
  rw [hone, htwo] at hG
  have hM : methA 111 "_tab_newline_replace" GM1 (.inst 111 fs) [.lst ((L.map (undo n 0)).map txA), .lst (((L.map (E5 m)).map (undo n 0)).map txA)] = some (.tup [.lst ((L.map fun l => E5 n (undo n 0 l)).map txA), .lst ((L.map (E5 m)).map txA)]) := ifP ⟨rfl, hno⟩ hG
  generalize hT : (AV.tup [.lst ((L.map fun l => E5 n (undo n 0 l)).map txA), .lst ((L.map (E5 m)).map txA)]) = T at *
  have t0 : idxA T (.int 0) = some (.lst ((L.map fun l => E5 n (undo n 0 l)).map txA)) := by rw [← hT]; exact (idx_tup2 _ _).1
  have ls : listF [.lst ((L.map fun l => E5 n (undo n 0 l)).map txA)] = some (.lst ((L.map fun l => E5 n (undo n 0 l)).map txA)) := if_pos (by simp; (first | lia | omega))
  have l3 : lenF [.lst ((L.map fun l => E5 n (undo n 0 l)).map txA)] = some (.int L.length) := by rw [len_lst _ (by simp; (first | lia | omega))]; simp
  have n3 : cmpA .NotEq T (.tup [.lst ((L.map fun l => E5 n (undo n 0 l)).map txA), .lst ((L.map (E5 m)).map txA)]) = some false := by
    rw [← hT]
    refine ne_tup _ ?_
    show ([AV.lst ((L.map fun l => E5 n (undo n 0 l)).map txA), .lst ((L.map (E5 m)).map txA)] : List AV).all (dat 7) = true
    rw [List.all_cons, List.all_cons, dat_txs, dat_txs]; rfl
  generalize hρ₃ : ρ₂.set "told" (.val T) = ρ₃
  have f1 : getV ρ₃ "stop" = some (.int n) := by subst hρ₃; (repeat' first | with_reducible exact Mine.getV_hit _ _ _ | with_reducible exact Mine.getO_hit _ _ _ | with_reducible assumption | with_reducible refine Mine.getV_skip ?_ ?_ | with_reducible refine Mine.getO_skip ?_ ?_ | with_reducible exact Mine.truthN_hitB _ _ _ | with_reducible refine Mine.truthN_skip ?_ ?_ | with_reducible exact Mine.aug_int _ _ | with_reducible exact Mine.truth_bool _ | with_reducible exact Mine.iter_lst _ | with_reducible refine Mine.iteT ?_ | with_reducible refine Mine.iteF ?_ | with_reducible apply Mine.bindS | with_reducible refine Mine.thenS ?_ | with_reducible exact Mine.thenA_ret _ _ _ | with_reducible refine Mine.noneS ?_ | with_reducible apply Mine.ifP | with_reducible rfl | exact Nat.le_of_ble_eq_true rfl | exact ⟨rfl, Nat.le_of_ble_eq_true rfl⟩ | decide)
  have f2 : getV ρ₃ "lines" = some (.lst (L.map txA)) := by subst hρ₃; (repeat' first | with_reducible exact Mine.getV_hit _ _ _ | with_reducible exact Mine.getO_hit _ _ _ | with_reducible assumption | with_reducible refine Mine.getV_skip ?_ ?_ | with_reducible refine Mine.getO_skip ?_ ?_ | with_reducible exact Mine.truthN_hitB _ _ _ | with_reducible refine Mine.truthN_skip ?_ ?_ | with_reducible exact Mine.aug_int _ _ | with_reducible exact Mine.truth_bool _ | with_reducible exact Mine.iter_lst _ | with_reducible refine Mine.iteT ?_ | with_reducible refine Mine.iteF ?_ | with_reducible apply Mine.bindS | with_reducible refine Mine.thenS ?_ | with_reducible exact Mine.thenA_ret _ _ _ | with_reducible refine Mine.noneS ?_ | with_reducible apply Mine.ifP | with_reducible rfl | exact Nat.le_of_ble_eq_true rfl | exact ⟨rfl, Nat.le_of_ble_eq_true rfl⟩ | decide)
  have f3 : getV ρ₃ "once" = some (.lst ((L.map (E5 m)).map txA)) := by subst hρ₃; (repeat' first | with_reducible exact Mine.getV_hit _ _ _ | with_reducible exact Mine.getO_hit _ _ _ | with_reducible assumption | with_reducible refine Mine.getV_skip ?_ ?_ | with_reducible refine Mine.getO_skip ?_ ?_ | with_reducible exact Mine.truthN_hitB _ _ _ | with_reducible refine Mine.truthN_skip ?_ ?_ | with_reducible exact Mine.aug_int _ _ | with_reducible exact Mine.truth_bool _ | with_reducible exact Mine.iter_lst _ | with_reducible refine Mine.iteT ?_ | with_reducible refine Mine.iteF ?_ | with_reducible apply Mine.bindS | with_reducible refine Mine.thenS ?_ | with_reducible exact Mine.thenA_ret _ _ _ | with_reducible refine Mine.noneS ?_ | with_reducible apply Mine.ifP | with_reducible rfl | exact Nat.le_of_ble_eq_true rfl | exact ⟨rfl, Nat.le_of_ble_eq_true rfl⟩ | decide)
  have f4 : getV ρ₃ "told" = some T := by subst hρ₃; (repeat' first | with_reducible exact Mine.getV_hit _ _ _ | with_reducible exact Mine.getO_hit _ _ _ | with_reducible assumption | with_reducible refine Mine.getV_skip ?_ ?_ | with_reducible refine Mine.getO_skip ?_ ?_ | with_reducible exact Mine.truthN_hitB _ _ _ | with_reducible refine Mine.truthN_skip ?_ ?_ | with_reducible exact Mine.aug_int _ _ | with_reducible exact Mine.truth_bool _ | with_reducible exact Mine.iter_lst _ | with_reducible refine Mine.iteT ?_ | with_reducible refine Mine.iteF ?_ | with_reducible apply Mine.bindS | with_reducible refine Mine.thenS ?_ | with_reducible exact Mine.thenA_ret _ _ _ | with_reducible refine Mine.noneS ?_ | with_reducible apply Mine.ifP | with_reducible rfl | exact Nat.le_of_ble_eq_true rfl | exact ⟨rfl, Nat.le_of_ble_eq_true rfl⟩ | decide)
  obtain ⟨ρ₄, e₄⟩ := post_loop2 (GC := GC) (GM := GM1) (n := n) L ρ₃ f1 hz
  have e₄ := e₄.forA
  have z2 : zipF [.lst (L.map txA), .lst ((L.map fun l => E5 n (undo n 0 l)).map txA)] = some (L.map fun l => .tup [txA l, txA (E5 n (undo n 0 l))]) := by
    show some (zipA (L.map txA) ((L.map fun l => E5 n (undo n 0 l)).map txA)) = _
    rw [List.map_map, zipA_map]; rfl
  have k15 : fPost_k15 GU1 GY1 GC GM1 ρ₄ = some (.ret (.bool true), ρ₄) := rfl
  have k16 : fPost_k16 GU1 GY1 GC GM1 ρ₃ = some (.ret (.bool true), ρ₄) := by
    unfold fPost_k16; (repeat' first | with_reducible exact Mine.getV_hit _ _ _ | with_reducible exact Mine.getO_hit _ _ _ | with_reducible assumption | with_reducible refine Mine.getV_skip ?_ ?_ | with_reducible refine Mine.getO_skip ?_ ?_ | with_reducible exact Mine.truthN_hitB _ _ _ | with_reducible refine Mine.truthN_skip ?_ ?_ | with_reducible exact Mine.aug_int _ _ | with_reducible exact Mine.truth_bool _ | with_reducible exact Mine.iter_lst _ | with_reducible refine Mine.iteT ?_ | with_reducible refine Mine.iteF ?_ | with_reducible apply Mine.bindS | with_reducible refine Mine.thenS ?_ | with_reducible exact Mine.thenA_ret _ _ _ | with_reducible refine Mine.noneS ?_ | with_reducible apply Mine.ifP | with_reducible rfl | exact Nat.le_of_ble_eq_true rfl | exact ⟨rfl, Nat.le_of_ble_eq_true rfl⟩ | decide)
  have k17 : fPost_k17 GU1 GY1 GC GM1 ρ₃ = some (.ret (.bool true), ρ₄) := by
    unfold fPost_k17; (repeat' first | with_reducible exact Mine.getV_hit _ _ _ | with_reducible exact Mine.getO_hit _ _ _ | with_reducible assumption | with_reducible refine Mine.getV_skip ?_ ?_ | with_reducible refine Mine.getO_skip ?_ ?_ | with_reducible exact Mine.truthN_hitB _ _ _ | with_reducible refine Mine.truthN_skip ?_ ?_ | with_reducible exact Mine.aug_int _ _ | with_reducible exact Mine.truth_bool _ | with_reducible exact Mine.iter_lst _ | with_reducible refine Mine.iteT ?_ | with_reducible refine Mine.iteF ?_ | with_reducible apply Mine.bindS | with_reducible refine Mine.thenS ?_ | with_reducible exact Mine.thenA_ret _ _ _ | with_reducible refine Mine.noneS ?_ | with_reducible apply Mine.ifP | with_reducible rfl | exact Nat.le_of_ble_eq_true rfl | exact ⟨rfl, Nat.le_of_ble_eq_true rfl⟩ | decide)
  have zl : (((L.map (E5 m)).map txA)).length ≤ 1000000 := by simp; (first | lia | omega)
  have cm : Option.map AV.lst (((getV ρ₂ "once") >>= iterA) >>= fun items => if items.length ≤ 1000000 then compA (fPost_T10 GU1 GY1 GC GM1) (fun _ => some true) (fPost_f11 GU1 GY1 GC GM1) items (only ["stop"] ρ₂) else none) = some (.lst (((L.map (E5 m)).map (undo n 0)).map txA)) := mapS (bindS (bindS d3 (iter_lst _)) (ifP zl c2)) rfl
  have k18 : fPost_z18 GU1 GY1 GC GM1 ρ₂ = some (.ret (.bool true), ρ₄) := by
    unfold fPost_z18
    refine bindS (a := (.next, ρ₃)) (bindS (a := T) (bindS (bindS (bindS d1 rfl) hc) (bindS (bindS d4 (bindS (bindS cm rfl) rfl)) hM)) (by rw [← hρ₃])) (thenS k17)
  have k19 : fPost_k19 GU1 GY1 GC GM1 (ρ₁.set "ruled" (.own ⟨none, (L.map (undo n 0)).map txA⟩)) = some (.ret (.bool true), ρ₄) := by
    unfold fPost_k19
    rw [freeze_own' (l := ⟨none, (L.map (undo n 0)).map txA⟩) (getO_hit _ _ _)]
    show fPost_z18 GU1 GY1 GC GM1 ((ρ₁.set "ruled" (.own ⟨none, (L.map (undo n 0)).map txA⟩)).set "ruled" (.val (.lst ((L.map (undo n 0)).map txA)))) = _
    rw [hρ₂]; exact k18
  have zL : (L.map txA).length ≤ 1000000 := by simp; (first | lia | omega)
  have k20 : fPost_k20 GU1 GY1 GC GM1 ρ₁ = some (.ret (.bool true), ρ₄) := by
    unfold fPost_k20; (repeat' first | with_reducible exact Mine.getV_hit _ _ _ | with_reducible exact Mine.getO_hit _ _ _ | with_reducible assumption | with_reducible refine Mine.getV_skip ?_ ?_ | with_reducible refine Mine.getO_skip ?_ ?_ | with_reducible exact Mine.truthN_hitB _ _ _ | with_reducible refine Mine.truthN_skip ?_ ?_ | with_reducible exact Mine.aug_int _ _ | with_reducible exact Mine.truth_bool _ | with_reducible exact Mine.iter_lst _ | with_reducible refine Mine.iteT ?_ | with_reducible refine Mine.iteF ?_ | with_reducible apply Mine.bindS | with_reducible refine Mine.thenS ?_ | with_reducible exact Mine.thenA_ret _ _ _ | with_reducible refine Mine.noneS ?_ | with_reducible apply Mine.ifP | with_reducible rfl | exact Nat.le_of_ble_eq_true rfl | exact ⟨rfl, Nat.le_of_ble_eq_true rfl⟩ | decide)
  have k21 : fPost_k21 GU1 GY1 GC GM1 ρ = some (.ret (.bool true), ρ₄) := by
    unfold fPost_k21; (repeat' first | with_reducible exact Mine.getV_hit _ _ _ | with_reducible exact Mine.getO_hit _ _ _ | with_reducible assumption | with_reducible refine Mine.getV_skip ?_ ?_ | with_reducible refine Mine.getO_skip ?_ ?_ | with_reducible exact Mine.truthN_hitB _ _ _ | with_reducible refine Mine.truthN_skip ?_ ?_ | with_reducible exact Mine.aug_int _ _ | with_reducible exact Mine.truth_bool _ | with_reducible exact Mine.iter_lst _ | with_reducible refine Mine.iteT ?_ | with_reducible refine Mine.iteF ?_ | with_reducible apply Mine.bindS | with_reducible refine Mine.thenS ?_ | with_reducible exact Mine.thenA_ret _ _ _ | with_reducible refine Mine.noneS ?_ | with_reducible apply Mine.ifP | with_reducible rfl | exact Nat.le_of_ble_eq_true rfl | exact ⟨rfl, Nat.le_of_ble_eq_true rfl⟩ | decide)
  refine ⟨ρ₄, ?_⟩
  unfold fPost
  (repeat' first | with_reducible exact Mine.getV_hit _ _ _ | with_reducible exact Mine.getO_hit _ _ _ | with_reducible assumption | with_reducible refine Mine.getV_skip ?_ ?_ | with_reducible refine Mine.getO_skip ?_ ?_ | with_reducible exact Mine.truthN_hitB _ _ _ | with_reducible refine Mine.truthN_skip ?_ ?_ | with_reducible exact Mine.aug_int _ _ | with_reducible exact Mine.truth_bool _ | with_reducible exact Mine.iter_lst _ | with_reducible refine Mine.iteT ?_ | with_reducible refine Mine.iteF ?_ | with_reducible apply Mine.bindS | with_reducible refine Mine.thenS ?_ | with_reducible exact Mine.thenA_ret _ _ _ | with_reducible refine Mine.noneS ?_ | with_reducible apply Mine.ifP | with_reducible rfl | exact Nat.le_of_ble_eq_true rfl | exact ⟨rfl, Nat.le_of_ble_eq_true rfl⟩ | decide)
end Mine
end
section
set_option linter.unusedVariables false
set_option linter.unusedSimpArgs false
set_option maxHeartbeats 1000000
namespace Mine
def ctorB : List AV → Option (List AV)
  | [a] => some [a, .none, .none, .raw (.ref 29)]
  | _ => none
def pInit : Arguments := argsOf (inBody (stAt P05 7) 5)
def GC : List AV → Option AV := fun args => ctorB args >>= fun full => (initA (fun p => (ctorN.zip full).reverse.lookup p) initL []).map (.inst 111)
section
variable {w : World} {h₀ : Heap} {mg mb : Str → Option Value} {os : OsState} {X Z₀ : AddrSet} {d : Nat}
theorem init_eq : initL.map InitSt.stmt = bdInit := by kernel_rfl
theorem binds_one (fd : FuncData) (hp : fd.params = pInit) (hd : fd.defaults = .ref 37) (x v1 : Value) (s : Shared) {K : Frag} (X : K.In s.heap) {o : Obj} (ho : K.lookup 37 = some o) (hs : o.data = .seq #[.int 8 231, .none, .none, .ref 29] 0) : BindsTo s fd ⟨[x, v1], []⟩ (("self", x) :: ctorN.zip [v1, .none, .none, .ref 29]) := by
  obtain ⟨⟩ := fd
  simp only at hp hd
  subst hp
  subst hd
  exact binds_K X rfl ho hs rfl rfl
theorem binds_ctor (x v1 : Value) (s : Shared) (X' : (W05 w h₀ mg mb os X Z₀).K.In s.heap) : BindsTo s (fdK (W05 w h₀ mg mb os X Z₀).K 44 has_init) ⟨[x, v1], []⟩ (("self", x) :: ctorN.zip [v1, .none, .none, .ref 29]) := by
  have ho : ((W05 w h₀ mg mb os X Z₀).K.lookup 37).isSome = true := by kernel_rfl
  obtain ⟨o, ho⟩ := Option.isSome_iff_exists.mp ho
  have hs : ((W05 w h₀ mg mb os X Z₀).K.lookup 37).map (·.data) = some (.seq #[.int 8 231, .none, .none, .ref 29] 0) := by kernel_rfl
  rw [ho] at hs
  exact binds_one _ (by kernel_rfl) (by kernel_rfl) x v1 s X' ho (Option.some.inj hs)
theorem spec_ctor : FSpec (W05 w h₀ mg mb os X Z₀) (d + 1) (.ref 111) GC := by
  have kf := fn_init (w := w) (h₀ := h₀) (mg := mg) (mb := mb) (os := os) (X := X) (Z₀ := Z₀)
  rw [← init_eq] at kf
  refine ctor_spec (names := ctorN) (l := initL) (bd := ctorB) cls_diff kf (fun Z h x vals args full r hb => ?_) (fun x hx => ?_) (by decide) (fun st hst => ?_) (by decide)
  · unfold ctorB at hb
    split at hb
    · cases hb
      obtain ⟨v1, rfl, r1⟩ := r.one
      exact ⟨[v1, .none, .none, .ref 29], fun s X => binds_ctor x v1 s X, .cons r1 (.cons .none (.cons .none (.cons (.raw _) .nil)))⟩
    · cases hb
  · rw [sc_init]
    have : ((("self" : Str) :: ctorN).all fun x => scInit.names.lookup x == some .local) = true := by kernel_rfl
    exact beq_iff_eq.mp (List.all_eq_true.mp this x hx)
  · have : (initL.all fun st => ctorN.contains st.par && !(st.par == ("__debug__" : Str)) && (takerIn (W05 w h₀ mg mb os X Z₀).K 111 st.attr == some none)) = true := by kernel_rfl
    have := List.all_eq_true.mp this st hst
    simp only [Bool.and_eq_true, Bool.not_eq_true', beq_iff_eq, List.contains_iff_mem] at this
    exact ⟨this.1.1, this.1.2, this.2⟩
theorem tnr_split : bdTnr = .FunctionDef "expand_tabs" (argsOf stExp) bdExp [] none [] scExp none "expand_tabs" (posOf stExp) :: bdRest := by kernel_rfl
theorem fn_tnr : FnC (W05 w h₀ mg mb os X Z₀) 58 (fdK (W05 w h₀ mg mb os X Z₀).K 58 has_tnr) (.FunctionDef "expand_tabs" (argsOf stExp) bdExp [] none [] scExp none "expand_tabs" (posOf stExp) :: bdRest) := by
  rw [← tnr_split]
  refine ⟨fdAt_look has_tnr, by kernel_rfl, by kernel_rfl, by kernel_rfl, by kernel_rfl, by kernel_rfl, fun x hx => ?_, by kernel_rfl, by kernel_rfl, by kernel_rfl⟩
  rw [sc_tnr] at hx
  have : (scTnr.names.all fun x => x.2 != .free) = true := by kernel_rfl
  have := List.all_eq_true.mp this _ (lookup_in hx)
  simp at this
theorem spec_und : FSpec (W05 w h₀ mg mb os X Z₀) (d + 1) (.ref 122) GU1 := by
  have hD := fUnd_den (w := w) (h₀ := h₀) (mg := mg) (mb := mb) (os := os) (X := X) (Z₀ := Z₀) (d := d)
  rw [← sc_undone (w := w) (h₀ := h₀) (mg := mg) (mb := mb) (os := os) (X := X) (Z₀ := Z₀)] at hD
  refine fspec_of (names := ["text", "stop"]) fn_undone (fun s vals hv => ?_) (fun x hx => ?_) hD
  · obtain ⟨v1, v2, rfl⟩ := len_two hv; exact BindsTo.of_eq (by kernel_rfl)
  · rw [sc_undone]
    have : ((["text", "stop"] : List Str).all fun x => scUndone.names.lookup x == some .local) = true := by kernel_rfl
    exact beq_iff_eq.mp (List.all_eq_true.mp this x hx)
theorem spec_tid : FSpec (W05 w h₀ mg mb os X Z₀) (d + 1) (.ref 129) GY1 := by
  have hD := fTid_den (w := w) (h₀ := h₀) (mg := mg) (mb := mb) (os := os) (X := X) (Z₀ := Z₀) (d := d)
  rw [← sc_tidy (w := w) (h₀ := h₀) (mg := mg) (mb := mb) (os := os) (X := X) (Z₀ := Z₀)] at hD
  refine fspec_of (names := ["text", "stop"]) fn_tidy (fun s vals hv => ?_) (fun x hx => ?_) hD
  · obtain ⟨v1, v2, rfl⟩ := len_two hv; exact BindsTo.of_eq (by kernel_rfl)
  · rw [sc_tidy]
    have : ((["text", "stop"] : List Str).all fun x => scTidy.names.lookup x == some .local) = true := by kernel_rfl
    exact beq_iff_eq.mp (List.all_eq_true.mp this x hx)
def qualE : Str := "HtmlDiff._tab_newline_replace.<locals>.expand_tabs"
theorem maker : MakerF (W05 w h₀ mg mb os X Z₀) 58 57 55 qualE (fdK (W05 w h₀ mg mb os X Z₀).K 58 has_tnr) ["self", "fromlines", "tolines"] "expand_tabs" (argsOf stExp) bdExp scExp (posOf stExp) bdRest ["line"] where
  fn := fn_tnr
  bind vals hv := by
    obtain ⟨v1, v2, v3, rfl⟩ := len_three hv
    kernel_rfl
  loc x hx := by
    rw [sc_tnr]
    have : ((["self", "fromlines", "tolines"] : List Str).all fun x => scTnr.names.lookup x == some .local || scTnr.names.lookup x == some .cell) = true := by kernel_rfl
    have := List.all_eq_true.mp this x hx
    simpa using this
  self := by rw [sc_tnr]; kernel_rfl
  qual L := by kernel_rfl
  code := by kernel_rfl
  codeHd := by kernel_rfl
  d0 := by kernel_rfl
  k0 := by kernel_rfl
  ann env := by kernel_rfl
  kd := .inr ⟨by rw [sc_tnr]; kernel_rfl, by decide +kernel⟩
  inocell x hx := by
    have : (scExp.names.all fun x => x.2 != .cell) = true := by kernel_rfl
    have := List.all_eq_true.mp this _ hx
    simpa using this
  ifree x hx := by
    have : (scExp.names.all fun x => x.2 != .free || x.1 == frz) = true := by kernel_rfl
    have := List.all_eq_true.mp this _ (lookup_in hx)
    simpa using this
  ihfree := by kernel_rfl
  ifrees := by kernel_rfl
  ikind := by kernel_rfl
  ico := by kernel_rfl
  igen := by kernel_rfl
  ibind qual clos doc pm c' ctv s vals hv := by
    obtain ⟨v1, rfl⟩ := List.length_eq_one_iff.mp hv
    exact BindsTo.of_eq (by kernel_rfl)
  iloc x hx := by cases List.mem_singleton.mp hx; kernel_rfl
  inot := by decide +kernel
theorem den_exp_at (h : Heap) (Z : AddrSet) : DenSs ((W05 w h₀ mg mb os X Z₀).at h Z) d scExp bdExp fExp := fExp_den (X := fun _ => False)
theorem den_rest_at (h : Heap) (Z : AddrSet) (fn : Addr) (GE : List AV → Option AV) (hGE : FSpec ((W05 w h₀ mg mb os X Z₀).at h Z) d (.ref fn) GE) (hfa : ∀ Z' s, Inv ((W05 w h₀ mg mb os X Z₀).at h Z) Z' s → FnAt fn s.heap) : DenSs ((W05 w h₀ mg mb os X Z₀).at h Z) d (fdK (W05 w h₀ mg mb os X Z₀).K 58 has_tnr).scope bdRest (fRest fn GE) := by
  rw [sc_tnr]
  exact fRest_den (X := fun _ => False) hfa hGE
end
theorem GC_eq (n : Int) : ∃ fs, GC [.int n] = some (.inst 111 fs) ∧ attrA 111 "_tabsize" (.inst 111 fs) = some (.int n) ∧ fs.lookup ("_tab_newline_replace" : Str) = none := by
  refine ⟨[("_tabsize", .int n), ("_wrapcolumn", .none), ("_linejunk", .none), ("_charjunk", .raw (.ref 29))], ?_, ?_, ?_⟩
  · kernel_rfl
  · kernel_rfl
  · kernel_rfl
end Mine
end
section
set_option maxRecDepth 100000
set_option maxHeartbeats 8000000
namespace Mine
def onceE : Expr := match stOnce with | .Assign _ e _ => e | _ => .Constant .none 0 ⟨0, 0, 0, 0⟩
def onceT : Expr := match stOnce with | .Assign [t] _ _ => t | _ => .Constant .none 0 ⟨0, 0, 0, 0⟩
def onceO : Expr := match onceE with | .Call (.Attribute o _ _) _ _ _ => o | _ => .Constant .none 0 ⟨0, 0, 0, 0⟩
def onceA : List Expr := match onceE with | .Call _ es _ _ => es | _ => []
def onceP : Pos := match onceE with | .Call (.Attribute _ _ p) _ _ _ => p | _ => ⟨0, 0, 0, 0⟩
def onceQ : Pos := match onceE with | .Call _ _ _ p => p | _ => ⟨0, 0, 0, 0⟩
def onceS : Pos := match stOnce with | .Assign _ _ p => p | _ => ⟨0, 0, 0, 0⟩
theorem once_eq : stOnce = .Assign [onceT] (.Call (.Attribute onceO "_tab_newline_replace" onceP) onceA [] onceQ) onceS := by kernel_rfl
section
variable {w : World} {h₀ : Heap} {mg mb : Str → Option Value} {os : OsState} {X Z₀ : AddrSet} {d : Nat}
theorem onceO_den : DenP (W05 w h₀ mg mb os X Z₀) (d + 1) scLaw onceO fun ρ => ((getV ρ "wide") >>= fun a => (some []) >>= fun l => some (a :: l)) >>= GC :=
  (den_call gl_diff (by kernel_rfl) (by kernel_rfl) ke_diff (denPs_cons (den_name "wide" _ (by kernel_rfl) (by kernel_rfl)) denPs_nil (fun _ => rfl)) (fun _ _ => rfl) spec_ctor)
theorem onceA_den : DenPs (W05 w h₀ mg mb os X Z₀) d scLaw onceA fun ρ => (getV ρ "lines") >>= fun a => (((getV ρ "lines") >>= revA) >>= fun a => (some []) >>= fun l => some (a :: l)) >>= fun l => some (a :: l) :=
  (denPs_cons (den_name "lines" _ (by kernel_rfl) (by kernel_rfl)) (denPs_cons (den_rev (den_name "lines" _ (by kernel_rfl) (by kernel_rfl))) denPs_nil (fun _ => rfl)) (fun _ => rfl))
theorem onceT_den : DenTg (W05 w h₀ mg mb os X Z₀) d scLaw onceT fun a ρ => seqA a >>= fun l => if l.length = 2 then (headTg (fun a ρ => some (Slots.set ρ "once" (.val a))) (headTg (fun a ρ => some (Slots.set ρ "turned" (.val a))) (fun _ ρ => some ρ))) l ρ else none :=
  (tg_tuple (tgs_cons (tg_name (.inl (by kernel_rfl))) (tgs_cons (tg_name (.inl (by kernel_rfl))) tgs_nil (fun _ => rfl)) (fun _ => rfl)) (fun _ => rfl) (fun _ => rfl))
end
theorem fin05 {w : World} {s₀ s₁ : Shared} {mg mb : Str → Option Value} {p : Program} {loose : List Str} {mean : ExcName → Option Value} (T : Top p loose mean mg mb s₁.heap) (KX : (Mine.hd.heap_39 w.params).In s₁.heap) (KT : s₁.heap.get? 55 = some (tabObj #[])) (hg : s₁.gens = #[])
    {a fa : Addr} {vals : List Value} {ns : List Int} (hl : s₁.heap.IsList a vals.toArray) (hi : IntsAre vals ns) (hlt : ¬ ((63 : Nat) : Int) < (ns.length : Int)) {o : Obj} {fd : FuncData} (ho : s₁.heap.get? fa = some o) (hd : o.data = .func fd) (hcd : s₁.heap.CodeRec fd.code fd.qualname)
    (hbody : fd.body = .stmts bdLaw) (hsc : fd.scope = scLaw) (hbind : bindArgs fd ⟨[Value.ref a], []⟩ = pure [(("script" : Str), Value.ref a)]) (hclo : fd.closure = []) (hgl : fd.globals = mainGlobals) (hbl : fd.builtins = builtinsNs) :
    codeAny (model P05 w) callerA (.call (.ref fa) ⟨[.ref a], []⟩) (GoodWG PySem.Challenge.rw_dm0064_05.row.claim (classAt s₀.heap) (ExcName.means s₀.heap) [ofPy (PyData.list (List.map PyData.int ns))] s₁) s₁ := by
  obtain ⟨ρ, n, m, L, hpre, hp, hs⟩ := pre_all ns (by (first | lia | omega))
  obtain ⟨fs, hc, hat, hno⟩ := GC_eq m
  obtain ⟨fs', hc', hat', hno'⟩ := GC_eq n
  have hlen : L.length ≤ 64 := hp.few
  have hsm : ∀ l ∈ L, l.length ≤ 756 := hp.small
  have hz : ∀ l ∈ L, l.length ≤ 1000000 ∧ (expT m 0 l).length ≤ 1000000 := fun l hl => by
    have h1 := hsm l hl
    have h2 := exp_bound (n := m) (m := 100) (by have := hs.m8; (first | lia | omega)) (by (first | lia | omega)) l 0
    exact ⟨by (first | lia | omega), by (first | lia | omega)⟩
  have hG := GM1_eq hat (by have := hs.m1; (first | lia | omega)) (by have := hs.m8; (first | lia | omega)) L L.reverse hz (fun l hl => hz l (List.mem_reverse.mp hl)) (by (first | lia | omega)) (by rw [List.length_reverse]; (first | lia | omega))
  have hfz : freeze "lines" ρ = ρ.set "lines" (.val (.lst (L.map txA))) := freeze_own' hp.lines
  generalize hρ₁ : ρ.set "lines" (.val (.lst (L.map txA))) = ρ₁ at hfz
  have g1 : getV ρ₁ "stop" = some (.int n) := by subst hρ₁; exact getV_skip rfl hp.stop
  have g2 : getV ρ₁ "wide" = some (.int m) := by subst hρ₁; exact getV_skip rfl hp.wide
  have g3 : getV ρ₁ "lines" = some (.lst (L.map txA)) := by subst hρ₁; exact getV_hit _ _ _
  have hrv : revA (.lst (L.map txA)) = some (.lst (L.reverse.map txA)) := by rw [rev_lst _ (by simp; (first | lia | omega)), List.map_reverse]
  have e1 : (L.map fun l => AV.str (tx (rst (expT m 0 l)))) = (L.map (E5 m)).map txA := by rw [List.map_map]; rfl
  have e2 : (L.reverse.map fun l => AV.str (tx (rst (expT m 0 l)))) = ((L.map (E5 m)).map txA).reverse := by rw [List.map_reverse, e1]
  rw [e1, e2] at hG
  obtain ⟨ρ', hpost⟩ := post_all (ρ := (ρ₁.set "once" (.val (.lst ((L.map (E5 m)).map txA)))).set "turned" (.val (.lst ((L.map (E5 m)).map txA).reverse))) (L := L) hc' hat' hno' hs ⟨getV_skip rfl (getV_skip rfl g1), getV_skip rfl (getV_skip rfl g2), getV_skip rfl (getV_skip rfl g3), getV_skip rfl (getV_hit _ _ _)⟩ (getV_hit _ _ _) hsm hlen
  have ok : (W05 w s₁.heap mg mb s₁.os (· = 55) (fun _ => False)).Ok := ⟨T.g, T.b, T.nolimit, T.nodigits, T.builtins, KX, fun a h => by
    rw [show a = 55 from h]
    obtain ⟨mc, hmc, _⟩ := T.nodigits
    exact ⟨by kernel_rfl, ns_noP T.g KT, ns_noP T.b KT, ns_noP hmc KT⟩⟩
  have hbu : s₁.heap.BuiltinsAt mg 55 := bmain_at T KT
  have hPg : mainGlobals ≠ 55 := (ns_noP T.g KT).symm
  refine law_start (W := W05 w s₁.heap mg mb s₁.os (· = 55) (fun _ => False)) (P := 55) ok rfl rfl (fun _ => Iff.rfl) (fun _ h => h) KT hg (by decide +kernel) ho hd T.nolimit hcd hbody hbind hclo (by rw [hsc]; kernel_rfl) (fun x hx => ?_) hgl hbl (by rw [hsc]; kernel_rfl) (by rw [hsc]; kernel_rfl) (by rw [hsc]; kernel_rfl) hl hi fun env Z s α hE st => ?_
  · rw [hsc] at hx
    have : (scLaw.names.all fun x => x.2 != .free) = true := by kernel_rfl
    have := List.all_eq_true.mp this _ (lookup_in hx)
    simp at this
  rw [hsc] at hE
  rw [law_split]
  refine wpAny_execs_app ?_
  refine fPre_den _ env Z s _ α .next ρ (room0 env) hE st.inv st.loc hpre _ _ fun fl s₂ Z₂ α₂ p₂ r₂ => ?_
  cases fl <;> try exact r₂.elim
  have st₂ := st.step p₂
  obtain ⟨Z₃, pf⟩ := st₂.loc.freeze "lines" st₂.inv
  rw [hfz] at pf
  have st₃ := st₂.step pf
  refine wpAny_execs_cons ?_
  rw [once_eq]
  refine exec_Assign (W := W05 w s₁.heap mg mb s₁.os (· = 55) (fun _ => False)) (sw := none) (by obtain ⟨he, _⟩ := hE; cases env; cases he; rfl) (by obtain ⟨he, _⟩ := hE; cases env; cases he; rfl) ?_
  refine st₃.callM (tpos := posOf stExp) (qual := qualE) hE (room0 env) (fun _ h => h) hbu onceO_den (bindS (bindS g2 rfl) hc) hno onceA_den (bindS g3 (bindS (bindS (bindS g3 hrv) rfl) rfl)) (fun _ _ => rfl) me_get me_find me_fn me_keep (fun _ _ => _) (fun _ => rfl)
    (fun Z s vals I hP r Q E' q => maker_run (d := 248) (FI := fExp) (FR := fRest) maker (fun _ h => h) (fun h Z => den_exp_at h Z) (fun h Z fn GE hGE hfa => den_rest_at h Z fn GE hGE hfa) maker_plain (room0 env) I (.inl ⟨rfl, hP⟩) (by
      obtain ⟨bm, ob, a, b, c, hne, e, r⟩ := hbu
      exact ⟨bm, ob, a, b, c, hne, I.base _ _ e (fun h => hne h), r⟩) hPg r hG q) fun rv h₀ Z' s' ps' st' tb hb' r' => ?_
  show wpAny _ _ (do assignAll rv [assign onceT env]; pure Flow.next) _ _ _
  refine wpAny_bind (onceT_den (h₀ := h₀) (X := fun _ => False) (Z₀ := Z') _ env Z' s' _ _ rv _ _ (room0 env) hE st'.inv st'.loc r' (show _ = some ((ρ₁.set "once" (.val (.lst ((L.map (E5 m)).map txA)))).set "turned" (.val (.lst ((L.map (E5 m)).map txA).reverse))) from rfl) _ _ fun s₄ Z₄ α₄ p₄ => wpAny_pure ?_)
  have st₄ := st'.step p₄
  have hM : FSpec (W05 w h₀ mg mb s₁.os (fun _ => False) Z') 250 (.ref 58) GM1 := maker_again (d := 248) (FI := fExp) (FR := fRest) maker (fun _ h => h) (fun h Z => den_exp_at h Z) (fun h Z fn GE hGE hfa => den_rest_at h Z fn GE hGE hfa) maker_plain tb hb' hPg
  refine fPost_den (X := fun _ => False) spec_und spec_tid spec_ctor hM _ env Z₄ s₄ _ α₄ _ ρ' (room0 env) hE st₄.inv st₄.loc hpost _ _ fun fl s₅ Z₅ α₅ p₅ r₅ => ?_
  cases fl <;> try exact r₅.elim
  have st₅ := st₄.step p₅
  cases r₅
  exact ⟨.inl ⟨.bool true, .bool true, [], rfl, fun _ => rfl, .bool _, by kernel_rfl, fun _ => ⟨List.nodup_nil, fun _ h => by cases h⟩⟩, st₅.old (c := 57) KX (by kernel_rfl) (by decide +kernel), st₅.os, st₅.inv.bare⟩
end Mine
theorem PySem.Challenge.cw_dm0064_05_holds : PySem.Challenge.rw_dm0064_05.Holds :=
  Mine.hd (by
  k_fill
  intro w s₀ s₁ mg mb G Y fa o pm cd doc dV kV ho hd hcd hD hmg hg args vals as hpre hlay hrd hwl hlo
  have KX := km_in_of Y
  have KT := km_tabs_of Y
  refine Ground.open G ?_
  intro T B D TE TW
  try (refine guard_noD D (by decide +kernel) ?_; clear D)
  have TA := at_of_top T
  clear hmg
  wrow_args hpre hlay hrd hwl hlo
  refine enter_call ?_
  w_top on
  have he := Dflts.none hD rfl; subst he
  have he := Dflts.noKw hD; subst he
  exact Mine.fin05 T KX (KT 55 (by decide)) hg (by assumption) (by assumption) (by assumption) ho (fd_plain hd) hcd rfl rfl rfl rfl rfl rfl)
end
