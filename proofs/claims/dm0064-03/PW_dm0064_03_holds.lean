import PyProof.Rows.All
import Wide.All
import OpenK.AllK
import Wide.FinOn
import Lean
import PySem.Challenge.RW_dm0064_03
open PySem PySem.W PyProof.Rows
set_option Elab.async false
section
namespace Mine
noncomputable def stAt (p : Program) (i : Nat) : Stmt := p.main.body.getD i (.Pass ⟨0, 0, 0, 0⟩)
noncomputable def bodyOf : Stmt → List Stmt
  | .FunctionDef _ _ b _ _ _ _ _ _ _ => b
  | .ClassDef _ _ _ b _ _ _ _ _ _ _ => b
  | _ => []
noncomputable def scopeOf : Stmt → Scope
  | .FunctionDef _ _ _ _ _ _ s _ _ _ => s
  | _ => { kind := .function, names := [], isGenerator := false, isCoroutine := false }
noncomputable def inBody (st : Stmt) (i : Nat) : Stmt := (bodyOf st).getD i (.Pass ⟨0, 0, 0, 0⟩)
noncomputable def argsOf : Stmt → Arguments
  | .FunctionDef _ a _ _ _ _ _ _ _ _ => a
  | _ => ⟨[], [], none, [], [], none, []⟩
noncomputable def posOf : Stmt → Pos
  | .FunctionDef _ _ _ _ _ _ _ _ _ p => p
  | _ => ⟨0, 0, 0, 0⟩
noncomputable def strOf : Stmt → Str
  | .Assign _ (.Constant (.str s) _ _) _ => s
  | _ => Str.empty
noncomputable def ent (P : Params) (x : Str) (n : Nat) (v : Value) : DictEntry := ⟨PyData.keyHash P x, .str x n, v⟩
noncomputable def fnO (s : Stmt) (name qual : Str) (dV kV doc pm cd ct : Value) (cl : List (Str × Addr)) : Obj :=
  ⟨.type "function", none, .func { name := name, qualname := qual, params := argsOf s, body := .stmts (bodyOf s), scope := scopeOf s, globals := mainGlobals, closure := cl, defaults := dV, kwdefaults := kV, doc := doc, pyModule := pm, annotations := none, code := cd, closureTuple := ct, builtins := builtinsNs }, #[]⟩
noncomputable def tupO (vs : List Value) : Obj := ⟨.type "tuple", none, .seq vs.toArray 0, #[]⟩
noncomputable def codeO (vs : List Value) : Obj := ⟨.type "code", none, .fields vs.toArray, #[]⟩
noncomputable def dicO (es : List DictEntry) (n : Nat) : Obj := ⟨.type "dict", none, .dict es.toArray n, #[]⟩
theorem asg_lit {lk : Look} {n : Str} {p q r : Pos} {k : Nat} {l : List Char} (h : (lk.stores [.Name n p] && lk.name n && PySem.W.Fast.tw15029574424589162856 lk ⟨(l.map Char.toNat).toArray⟩) = true) :
    noRoadLS lk (.Assign [.Name n p] (.Constant (.str (Str.ofString (String.ofList l))) k q) r) = true := by
  rw [← PySem.W.Fast.te15029574424589162856, ← PySem.W.Fast.ofString_ofList] at h
  simp only [Bool.and_eq_true] at h
  simp only [noRoadLS, noRoadLs, noRoadL, Bool.and_eq_true]
  exact ⟨⟨h.1.1, h.1.2, trivial⟩, h.2⟩
noncomputable def plainL (l : List Nat) : Bool := !(l.any fun c => c == 123 || c == 125) && (l.any fun c => Nat.ble c 32)
theorem road_no {l : List Nat} (h : plainL l = true) : roadStr ⟨l.toArray⟩ = false := by
  unfold plainL at h
  rw [Bool.and_eq_true, Bool.not_eq_true'] at h
  unfold roadStr
  show ((l.toArray.any fun c => c == 123 || c == 125) || (l.toArray.any (· == 46) && !l.toArray.any (· ≤ 32))) = false
  have e : (fun c : Nat => decide (c ≤ 32)) = fun c => Nat.ble c 32 := by
    funext c
    cases hc : Nat.ble c 32 with
    | true => exact decide_eq_true (Nat.le_of_ble_eq_true hc)
    | false => exact decide_eq_false fun h => by rw [Nat.ble_eq_true_of_le h] at hc; cases hc
  rw [List.any_toArray, List.any_toArray, List.any_toArray, h.1, e, h.2, Bool.not_true, Bool.and_false]; rfl
theorem asg_long {lk : Look} {n : Str} {p q r : Pos} {k : Nat} {l : List Char} (h : (lk.stores [.Name n p] && lk.name n && PySem.W.Fast.tw12870025360856166794 lk ⟨(l.map Char.toNat).toArray⟩ && plainL (l.map Char.toNat)) = true) :
    noRoadLS lk (.Assign [.Name n p] (.Constant (.str (Str.ofString (String.ofList l))) k q) r) = true := by
  rw [← PySem.W.Fast.te12870025360856166794, ← PySem.W.Fast.ofString_ofList] at h
  simp only [Bool.and_eq_true] at h
  have e := road_no h.2
  rw [← PySem.W.Fast.ofString_ofList] at e
  simp only [noRoadLS, noRoadLs, noRoadL, Bool.and_eq_true]
  refine ⟨⟨h.1.1.1, h.1.1.2, trivial⟩, ?_⟩
  unfold Look.str
  rw [e, h.1.2, Bool.or_true]; rfl
theorem road_app (lk : Look) : ∀ a b : List Stmt, noRoadLSs lk (a ++ b) = (noRoadLSs lk a && noRoadLSs lk b)
  | [], b => by simp [noRoadLSs]
  | s :: a, b => by rw [List.cons_append, noRoadLSs, noRoadLSs, road_app lk a b, Bool.and_assoc]
noncomputable def lk0 : Look := { strict := false, foot := none, bare := [] }
theorem road_of {p : Program} {lk : Look} (hl : lk = lk0) (hb : p.main.body = p.main.body.take 3 ++ (stAt p 3 :: stAt p 4 :: stAt p 5 :: stAt p 6 :: p.main.body.drop 7)) (h1 : PySem.W.Fast.tw8326940854005059898 lk0 (p.main.body.take 3) = true)
    (h3 : noRoadLS lk0 (stAt p 3) = true) (h4 : noRoadLS lk0 (stAt p 4) = true) (h5 : noRoadLS lk0 (stAt p 5) = true) (h6 : noRoadLS lk0 (stAt p 6) = true) (h7 : PySem.W.Fast.tw8326940854005059898 lk0 (p.main.body.drop 7) = true) : noRoadLSs lk p.main.body = true := by
  rw [← PySem.W.Fast.te8326940854005059898] at h1 h7
  rw [hl, hb, road_app, h1, noRoadLSs, h3, noRoadLSs, h4, noRoadLSs, h5, noRoadLSs, h6, h7]; rfl
end Mine
end
section
set_option maxRecDepth 100000
set_option maxHeartbeats 8000000
namespace Mine
noncomputable abbrev P03 := PySem.Challenge.pw_dm0064_03
noncomputable def kk (P : Params) : Frag := [
  (3, dicO [ent P "__name__" 165 (.str "law_dm0064_03" 379),
    ent P "__doc__" 166 .none,
    ent P "__package__" 167 .none,
    ent P "__loader__" 168 (.builtin "__main__.__loader__#opaque"),
    ent P "__spec__" 169 .none,
    ent P "__annotations__" 170 (.ref 6),
    ent P "__builtins__" 171 (.ref 4),
    ent P "__file__" 173 (.str "/claim/cut.py" 172),
    ent P "__cached__" 174 .none,
    ent P "_wall" 193 (.ref 21),
    ent P "IS_CHARACTER_JUNK" 204 (.ref 29),
    ent P "file_template_difflib" 206 (.str (strOf (stAt P03 3)) 205),
    ent P "styles_difflib" 208 (.str (strOf (stAt P03 4)) 207),
    ent P "table_template_difflib" 210 (.str (strOf (stAt P03 5)) 209),
    ent P "legend_difflib" 212 (.str (strOf (stAt P03 6)) 211),
    ent P "HtmlDiff" 378 (.ref 113),
    ent P "_law_link" 389 (.ref 124),
    ent P "law" 395 (.ref 129)] 18),
  (37, tupO [(.int (8) 231), .none, .none, (.ref 29)]),
  (43, codeO [(.str "__init__" 232), (.str "HtmlDiff.__init__" 233), (.str "/claim/cut.py" 234), (.int (18) 0), (.int (5) 0), (.int (0) 0), (.int (0) 0), (.int (3) 0), (.ref 38), (.bool true), (.int (181) 0), (.ref 39), .none, (.ref 40), (.ref 41), (.ref 42), (.int (240) 0), (.int (18) 0), (.str "/claim/cut.py" 241)]),
  (44, fnO (inBody (stAt P03 7) 5) "__init__" "HtmlDiff.__init__" (.ref 37) .none .none (.str "cpy313.difflib" 194) (.ref 43) .none []),
  (66, codeO [(.str "_split_line" 271), (.str "HtmlDiff._split_line" 272), (.str "/claim/cut.py" 273), (.int (30) 0), (.int (4) 0), (.int (0) 0), (.int (0) 0), (.int (3) 0), (.ref 61), (.bool true), (.int (181) 0), (.ref 62), .none, (.ref 63), (.ref 64), (.ref 65), (.int (285) 0), (.int (30) 0), (.str "/claim/cut.py" 286)]),
  (67, fnO (inBody (stAt P03 7) 8) "_split_line" "HtmlDiff._split_line" .none .none .none (.str "cpy313.difflib" 194) (.ref 66) .none []),
  (73, codeO [(.str "_line_wrapper" 288), (.str "HtmlDiff._line_wrapper" 289), (.str "/claim/cut.py" 290), (.int (61) 0), (.int (2) 0), (.int (0) 0), (.int (0) 0), (.int (35) 0), (.ref 68), (.bool true), (.int (181) 0), (.ref 69), .none, (.ref 70), (.ref 71), (.ref 72), (.int (302) 0), (.int (61) 0), (.str "/claim/cut.py" 303)]),
  (74, fnO (inBody (stAt P03 7) 9) "_line_wrapper" "HtmlDiff._line_wrapper" .none .none .none (.str "cpy313.difflib" 194) (.ref 73) .none []),
  (101, codeO [(.str "_convert_flags" 331), (.str "HtmlDiff._convert_flags" 332), (.str "/claim/cut.py" 333), (.int (90) 0), (.int (6) 0), (.int (0) 0), (.int (0) 0), (.int (3) 0), (.ref 96), (.bool true), (.int (181) 0), (.ref 97), .none, (.ref 98), (.ref 99), (.ref 100), (.int (348) 0), (.int (90) 0), (.str "/claim/cut.py" 349)]),
  (102, fnO (inBody (stAt P03 7) 13) "_convert_flags" "HtmlDiff._convert_flags" .none .none .none (.str "cpy313.difflib" 194) (.ref 101) .none []),
  (112, dicO [ent P "__module__" 220 (.str "cpy313.difflib" 194),
    ent P "__firstlineno__" 224 (.int (11) 223),
    ent P "_file_template" 225 (.str (strOf (stAt P03 3)) 205),
    ent P "_styles" 226 (.str (strOf (stAt P03 4)) 207),
    ent P "_table_template" 227 (.str (strOf (stAt P03 5)) 209),
    ent P "_legend" 228 (.str (strOf (stAt P03 6)) 211),
    ent P "_default_prefix" 230 (.int (0) 229),
    ent P "__init__" 242 (.ref 44),
    ent P "make_file" 261 (.ref 53),
    ent P "_tab_newline_replace" 270 (.ref 60),
    ent P "_split_line" 287 (.ref 67),
    ent P "_line_wrapper" 304 (.ref 74),
    ent P "_collect_lines" 312 (.ref 81),
    ent P "_format_line" 323 (.ref 88),
    ent P "_make_prefix" 330 (.ref 95),
    ent P "_convert_flags" 350 (.ref 102),
    ent P "make_table" 366 (.ref 110),
    ent P "__static_attributes__" 371 (.ref 111),
    ent P "__dict__" 373 (.ref 114),
    ent P "__weakref__" 375 (.ref 115),
    ent P "__doc__" 376 .none] 4),
  (113, ⟨(.type "type"), none, .cls (ClassData.mk "HtmlDiff" [(.type "object")] [(.ref 113), (.type "object")] 112 "HtmlDiff" true [] [] false none false), #[some (.ref 30), none, some (.str "HtmlDiff" 213), some (.str "HtmlDiff" 221), some (.builtin "object.__new__"), some (.bool true)]⟩),
  (123, codeO [(.str "_law_link" 381), (.str "_law_link" 382), (.str "/claim/cut.py" 383), (.int (125) 0), (.int (3) 0), (.int (0) 0), (.int (0) 0), (.int (3) 0), (.ref 118), (.bool true), (.int (181) 0), (.ref 119), .none, (.ref 120), (.ref 121), (.ref 122), (.int (387) 0), (.int (125) 0), (.str "/claim/cut.py" 388)]),
  (124, fnO (stAt P03 9) "_law_link" "_law_link" .none .none .none (.str "law_dm0064_03" 379) (.ref 123) .none [])]
noncomputable def kA : List Addr := [3, 37, 43, 44, 66, 67, 73, 74, 101, 102, 112, 113, 123, 124]
theorem kA_eq (P : Params) : kA = (kk P).map (·.1) := rfl
noncomputable def kL : List Str := ["_wall", "IS_CHARACTER_JUNK", "file_template_difflib", "styles_difflib", "table_template_difflib", "legend_difflib", "HtmlDiff", "_law_link"]
noncomputable def kF (s : Shared) : List (Option Obj) := kA.map s.heap.get?
noncomputable def kV (w : World) : List (Option Obj) := (kk w.params).map fun p => some p.2
theorem left : LeftO P03 (view P03 [10]) kL (fun s => recOk [] s) kF kV 1900 := fun w => by
  unfold openEnds fencedOpening topFrom
  rw [PySem.W.Fast.te10274390034422433532, PySem.W.Fast.te14082659384304107361, PySem.W.Fast.te14364793385576792824, PySem.W.Fast.te4187177175401517315, PySem.W.Fast.te1435165496053646825]
  kernel_rfl
theorem road : noRoadLSs { strict := !(importedModules P03.main.body).all cThrough.contains, foot := none, bare := (["vars", "dir", "locals"] : List Str).filter (readsOut P03 P03.main.body) } P03.main.body = true :=
  road_of (by rw [PySem.W.Fast.te13343964577679436407]; kernel_rfl) (by kernel_rfl) (by kernel_rfl) (asg_long (by kernel_rfl)) (asg_lit (by kernel_rfl)) (asg_long (by kernel_rfl)) (asg_long (by kernel_rfl)) (by kernel_rfl)
theorem road' : noRoadLSs { strict := !(importedModules PySem.Challenge.rw_dm0064_03.row.prog.main.body).all cThrough.contains, foot := none, bare := (["vars", "dir", "locals"] : List Str).filter (readsOut PySem.Challenge.rw_dm0064_03.row.prog PySem.Challenge.rw_dm0064_03.row.prog.main.body) } PySem.Challenge.rw_dm0064_03.row.prog.main.body = true := road
theorem said : PySem.Challenge.rw_dm0064_03.wellSaid = true := by
  unfold OpenLaw.wellSaid OpenRow.wellSaid OpenRow.partSaid looksOpen
  repeat' with_reducible apply look_both
  all_goals first
    | with_reducible exact road'
    | (rw [PySem.W.Fast.te8377067652309620493]; kernel_rfl)
    | (rw [PySem.W.Fast.te17119622794617984870]; kernel_rfl)
    | (rw [PySem.W.Fast.te8179353310426384613]; kernel_rfl)
    | (rw [PySem.W.Fast.te8326940854005059898]; kernel_rfl)
    | (rw [PySem.W.Fast.te16286561074155671207]; kernel_rfl)
    | (rw [PySem.W.Fast.te797321630700447069]; kernel_rfl)
    | (rw [PySem.W.Fast.te18344453789297297638]; kernel_rfl)
    | kernel_rfl
noncomputable def lawD : DefRec := ⟨"law", argsOf (stAt P03 10), bodyOf (stAt P03 10), scopeOf (stAt P03 10), posOf (stAt P03 10)⟩
theorem hd (walk : WalkO (view P03 [10]) kL (fun _ _ => True) (InK kk) PySem.Challenge.rw_dm0064_03.row.toRowW lawD [] fun f vs => call f vs) : PySem.Challenge.rw_dm0064_03.Holds :=
  holds_law said fun k => PySem.W.holds_open (q := view P03 [10]) (loose := kL) (Xt := fun s => recOk [] s) (XP := fun _ _ => True) (Yf := kF) (Ya := kV) (YP := InK kk) (d := lawD) (kwd := []) (N := 1900)
    left (fun w s x => InK.of kA_eq w s x) InK.keeps (fun _ _ => trivial) (fun _ _ _ _ _ => trivial) (by kernel_rfl) (by kernel_rfl) (by kernel_rfl) (fun s e => recFacts_of e) (by kernel_rfl) k (by kernel_rfl) ⟨rfl, rfl, rfl, rfl, rfl, by decide +kernel⟩ ⟨[.list [.int 0]], by decide +kernel, by decide +kernel⟩ walk
end Mine
end
section
namespace Mine
inductive AV where
  | none
  | bool (b : Bool)
  | int (i : Int)
  | str (s : Str)
  | bytes (b : Array UInt8)
  | tup (l : List AV)
  | lst (l : List AV)
  | inst (c : Addr) (fs : List (Str × AV))
  | raw (v : Value)
structure OL where
  place : Option Addr
  items : List AV
inductive SV where
  | val (v : AV)
  | own (l : OL)
noncomputable abbrev Slots := Str → Option SV
noncomputable def Slots.set (ρ : Slots) (x : Str) (v : SV) : Slots := fun y => if y = x then some v else ρ y
noncomputable abbrev AddrSet := Addr → Prop
noncomputable def IsLst (h : Heap) (a : Addr) (items : Array Value) : Prop := ∃ o, h.get? a = some o ∧ o.cls = .type "list" ∧ o.dict = none ∧ ∃ n, o.data = .seq items n
theorem IsLst.list {h : Heap} {a : Addr} {items : Array Value} : IsLst h a items → h.IsList a items := fun ⟨o, ho, hc, _, r⟩ => ⟨o, ho, hc, r⟩
mutual
inductive RepV (Z : AddrSet) (h : Heap) : Value → AV → Prop where
  | none : RepV Z h .none .none
  | bool (b : Bool) : RepV Z h (.bool b) (.bool b)
  | int (i : Int) (t : Tok) : RepV Z h (.int i t) (.int i)
  | str (x : Str) (t : Tok) : RepV Z h (.str x t) (.str x)
  | bytes (b : Array UInt8) (t : Tok) : RepV Z h (.bytes b t) (.bytes b)
  | tup {a : Addr} {vs : List Value} {l : List AV} : Z a → IsTup h a vs.toArray → RepVs Z h vs l → RepV Z h (.ref a) (.tup l)
  | lst {a : Addr} {vs : List Value} {l : List AV} : Z a → IsLst h a vs.toArray → RepVs Z h vs l → RepV Z h (.ref a) (.lst l)
  | inst {x dx c : Addr} {es : List DictEntry} {n : Nat} {fs : List (Str × AV)} : Z x → Z dx → h.get? x = some (instObj c dx) → h.get? dx = some (dictOf es n) →
      RepEs Z h es fs → RepV Z h (.ref x) (.inst c fs)
  | raw (v : Value) : RepV Z h v (.raw v)
inductive RepVs (Z : AddrSet) (h : Heap) : List Value → List AV → Prop where
  | nil : RepVs Z h [] []
  | cons {v : Value} {vs : List Value} {a : AV} {l : List AV} : RepV Z h v a → RepVs Z h vs l → RepVs Z h (v :: vs) (a :: l)
inductive RepEs (Z : AddrSet) (h : Heap) : List DictEntry → List (Str × AV) → Prop where
  | nil : RepEs Z h [] []
  | cons {hs : Int} {x : Str} {t : Tok} {v : Value} {es : List DictEntry} {a : AV} {fs : List (Str × AV)} : RepV Z h v a → RepEs Z h es fs → RepEs Z h (⟨hs, .str x t, v⟩ :: es) ((x, a) :: fs)
end
section
variable {Z Z' : AddrSet} {h h' : Heap}
theorem RepV.mono (hz : ∀ a, Z a → Z' a) (hk : ∀ a o, Z a → h.get? a = some o → h'.get? a = some o) {v : Value} {a : AV} (r : RepV Z h v a) : RepV Z' h' v a :=
  RepV.rec (motive_1 := fun v a _ => RepV Z' h' v a) (motive_2 := fun vs l _ => RepVs Z' h' vs l) (motive_3 := fun es fs _ => RepEs Z' h' es fs)
    .none .bool .int .str .bytes (fun z ho _ rs => .tup (hz _ z) (let ⟨o, ho, r⟩ := ho; ⟨o, hk _ _ z ho, r⟩) rs) (fun z ho _ rs => .lst (hz _ z) (let ⟨o, ho, r⟩ := ho; ⟨o, hk _ _ z ho, r⟩) rs)
    (fun z1 z2 h1 h2 _ rs => .inst (hz _ z1) (hz _ z2) (hk _ _ z1 h1) (hk _ _ z2 h2) rs) .raw .nil (fun _ _ r rs => .cons r rs) .nil (fun _ _ r rs => .cons r rs) r
theorem RepVs.mono (hz : ∀ a, Z a → Z' a) (hk : ∀ a o, Z a → h.get? a = some o → h'.get? a = some o) {vs : List Value} {l : List AV} (r : RepVs Z h vs l) : RepVs Z' h' vs l :=
  RepVs.rec (motive_1 := fun v a _ => RepV Z' h' v a) (motive_2 := fun vs l _ => RepVs Z' h' vs l) (motive_3 := fun es fs _ => RepEs Z' h' es fs)
    .none .bool .int .str .bytes (fun z ho _ rs => .tup (hz _ z) (let ⟨o, ho, r⟩ := ho; ⟨o, hk _ _ z ho, r⟩) rs) (fun z ho _ rs => .lst (hz _ z) (let ⟨o, ho, r⟩ := ho; ⟨o, hk _ _ z ho, r⟩) rs)
    (fun z1 z2 h1 h2 _ rs => .inst (hz _ z1) (hz _ z2) (hk _ _ z1 h1) (hk _ _ z2 h2) rs) .raw .nil (fun _ _ r rs => .cons r rs) .nil (fun _ _ r rs => .cons r rs) r
theorem RepEs.mono (hz : ∀ a, Z a → Z' a) (hk : ∀ a o, Z a → h.get? a = some o → h'.get? a = some o) {vs : List DictEntry} {l : List (Str × AV)} (r : RepEs Z h vs l) : RepEs Z' h' vs l :=
  RepEs.rec (motive_1 := fun v a _ => RepV Z' h' v a) (motive_2 := fun vs l _ => RepVs Z' h' vs l) (motive_3 := fun es fs _ => RepEs Z' h' es fs)
    .none .bool .int .str .bytes (fun z ho _ rs => .tup (hz _ z) (let ⟨o, ho, r⟩ := ho; ⟨o, hk _ _ z ho, r⟩) rs) (fun z ho _ rs => .lst (hz _ z) (let ⟨o, ho, r⟩ := ho; ⟨o, hk _ _ z ho, r⟩) rs)
    (fun z1 z2 h1 h2 _ rs => .inst (hz _ z1) (hz _ z2) (hk _ _ z1 h1) (hk _ _ z2 h2) rs) .raw .nil (fun _ _ r rs => .cons r rs) .nil (fun _ _ r rs => .cons r rs) r
theorem RepV.none' {v : Value} (r : RepV Z h v .none) : v = .none := by cases r; rfl
theorem RepV.bool' {v : Value} {b : Bool} (r : RepV Z h v (.bool b)) : v = .bool b := by cases r; rfl
theorem RepV.int' {v : Value} {i : Int} (r : RepV Z h v (.int i)) : ∃ t, v = .int i t := by cases r; exact ⟨_, rfl⟩
theorem RepV.str' {v : Value} {x : Str} (r : RepV Z h v (.str x)) : ∃ t, v = .str x t := by cases r; exact ⟨_, rfl⟩
theorem RepV.tup' {v : Value} {l : List AV} (r : RepV Z h v (.tup l)) : ∃ a vs, v = .ref a ∧ Z a ∧ IsTup h a vs.toArray ∧ RepVs Z h vs l := by cases r with | tup z i rs => exact ⟨_, _, rfl, z, i, rs⟩
theorem RepV.lst' {v : Value} {l : List AV} (r : RepV Z h v (.lst l)) : ∃ a vs, v = .ref a ∧ Z a ∧ h.IsList a vs.toArray ∧ RepVs Z h vs l := by cases r with | lst z i rs => exact ⟨_, _, rfl, z, i.list, rs⟩
theorem RepV.lstP {v : Value} {l : List AV} (r : RepV Z h v (.lst l)) : ∃ a vs, v = .ref a ∧ Z a ∧ IsLst h a vs.toArray ∧ RepVs Z h vs l := by cases r with | lst z i rs => exact ⟨_, _, rfl, z, i, rs⟩
theorem RepVs.nil' {vs : List Value} (r : RepVs Z h vs []) : vs = [] := by cases r; rfl
theorem RepVs.cons' {vs : List Value} {a : AV} {l : List AV} (r : RepVs Z h vs (a :: l)) : ∃ v ws, vs = v :: ws ∧ RepV Z h v a ∧ RepVs Z h ws l := by cases r with | cons r rs => exact ⟨_, _, rfl, r, rs⟩
theorem RepVs.length {vs : List Value} {l : List AV} (r : RepVs Z h vs l) : vs.length = l.length := by
  induction l generalizing vs with
  | nil => rw [r.nil']; rfl
  | cons a l ih => obtain ⟨v, ws, rfl, _, rs⟩ := r.cons'; exact congrArg (· + 1) (ih rs)
theorem RepVs.get {vs : List Value} {l : List AV} (r : RepVs Z h vs l) {i : Nat} {a : AV} (e : l[i]? = some a) : ∃ v, vs[i]? = some v ∧ RepV Z h v a := by
  induction l generalizing vs i with
  | nil => cases e
  | cons b l ih =>
    obtain ⟨v, ws, rfl, r, rs⟩ := r.cons'
    cases i with
    | zero => cases e; exact ⟨v, rfl, r⟩
    | succ i => exact ih rs e
theorem RepVs.append {vs : List Value} {l : List AV} {ws : List Value} {m : List AV} (r : RepVs Z h vs l) (k : RepVs Z h ws m) : RepVs Z h (vs ++ ws) (l ++ m) := by
  induction l generalizing vs with
  | nil => rw [r.nil']; exact k
  | cons b l ih => obtain ⟨v, us, rfl, r, rs⟩ := r.cons'; exact .cons r (ih rs)
theorem RepVs.snoc {vs : List Value} {l : List AV} {v : Value} {a : AV} (r : RepVs Z h vs l) (q : RepV Z h v a) : RepVs Z h (vs ++ [v]) (l ++ [a]) := r.append (.cons q .nil)
theorem RepVs.take (n : Nat) {vs : List Value} {l : List AV} (r : RepVs Z h vs l) : RepVs Z h (vs.take n) (l.take n) := by
  induction n generalizing vs l with
  | zero => exact .nil
  | succ n ih =>
    cases l with
    | nil => rw [r.nil']; exact .nil
    | cons a l => obtain ⟨v, us, rfl, r, rs⟩ := r.cons'; exact .cons r (ih rs)
theorem RepVs.drop (n : Nat) {vs : List Value} {l : List AV} (r : RepVs Z h vs l) : RepVs Z h (vs.drop n) (l.drop n) := by
  induction n generalizing vs l with
  | zero => exact r
  | succ n ih =>
    cases l with
    | nil => rw [r.nil']; exact .nil
    | cons a l => obtain ⟨v, us, rfl, r, rs⟩ := r.cons'; exact ih rs
end
end Mine
end
section
namespace Mine
structure Wd where
  prog : Program
  w : World
  K : Frag
  h₀ : Heap
  mg : Str → Option Value
  mb : Str → Option Value
  os : OsState
  X : AddrSet
  Z₀ : AddrSet
noncomputable abbrev Wd.M (W : Wd) : Model := model W.prog W.w
structure Wd.Ok (W : Wd) : Prop where
  g : W.h₀.Ns mainGlobals W.mg
  b : W.h₀.Ns builtinsNs W.mb
  nolimit : W.h₀.NoLimit
  nodigits : ∃ mc, W.h₀.Ns cStatics mc ∧ mc "sys.int_max_str_digits" = none
  builtins : ∀ x : Str, x ≠ "__name__" → W.mb x = bootBuiltins x
  kin : W.K.In W.h₀
  xk : ∀ a, W.X a → W.K.lookup a = none ∧ a ≠ mainGlobals ∧ a ≠ builtinsNs ∧ a ≠ cStatics
structure Inv (W : Wd) (Z : AddrSet) (s : Shared) : Prop where
  ok : W.Ok
  base : ∀ b o, W.h₀.get? b = some o → ¬ W.X b → s.heap.get? b = some o
  xs : ∀ b, W.X b → ∃ o, s.heap.get? b = some o
  zin : ∀ a, Z a → ∃ o, s.heap.get? a = some o
  os : s.os = W.os
  bare : AllBare s.gens
  zx : ∀ a, Z a → ¬ W.X a
  z0 : ∀ a, W.Z₀ a → Z a
  tk : 1 ≤ s.toks
namespace Inv
variable {W : Wd} {Z : AddrSet} {s : Shared}
theorem ns_of (I : Inv W Z s) {a : Addr} {m : Str → Option Value} (hn : W.h₀.Ns a m) (hx : ¬ W.X a) : s.heap.Ns a m := by
  obtain ⟨o, es, ep, ho, r⟩ := hn
  exact ⟨o, es, ep, I.base _ _ ho hx, r⟩
theorem g (I : Inv W Z s) : s.heap.Ns mainGlobals W.mg := I.ns_of I.ok.g fun h => (I.ok.xk _ h).2.1 rfl
theorem b (I : Inv W Z s) : s.heap.Ns builtinsNs W.mb := I.ns_of I.ok.b fun h => (I.ok.xk _ h).2.2.1 rfl
theorem nolimit (I : Inv W Z s) : s.heap.NoLimit := by
  obtain ⟨mc, h1, h2⟩ := I.ok.nolimit
  exact ⟨mc, I.ns_of h1 fun h => (I.ok.xk _ h).2.2.2 rfl, h2⟩
theorem kin (I : Inv W Z s) : W.K.In s.heap := fun a o e => I.base _ _ (I.ok.kin a o e) fun h => by rw [(I.ok.xk _ h).1] at e; cases e
theorem fresh_z (I : Inv W Z s) {a : Addr} (h : s.heap.get? a = none) : ¬ Z a := fun z => by obtain ⟨o, e⟩ := I.zin a z; rw [h] at e; cases e
theorem fresh_b (I : Inv W Z s) {a : Addr} (h : s.heap.get? a = none) : W.h₀.get? a = none := by
  cases e : W.h₀.get? a with
  | none => rfl
  | some o =>
    by_cases hx : W.X a
    · obtain ⟨o, e⟩ := I.xs a hx; rw [h] at e; cases e
    · have := I.base a o e hx; rw [h] at this; cases this
theorem fresh_x (I : Inv W Z s) {a : Addr} (h : s.heap.get? a = none) : ¬ W.X a := fun hx => by obtain ⟨o, e⟩ := I.xs a hx; rw [h] at e; cases e
end Inv
structure Own where
  a : Addr → Prop
  g : Nat → Prop
noncomputable def Own.none : Own := ⟨fun _ => False, fun _ => False⟩
noncomputable def Own.addrs (p : Addr → Prop) : Own := ⟨p, fun _ => False⟩
structure Step (W : Wd) (O : Own) (Z : AddrSet) (s : Shared) (Z' : AddrSet) (s' : Shared) : Prop where
  inv : Inv W Z' s'
  keep : ∀ b o, ¬ O.a b → s.heap.get? b = some o → s'.heap.get? b = some o
  zsub : ∀ a, Z a → Z' a
  znew : ∀ a, Z' a → Z a ∨ O.a a ∨ s.heap.get? a = none
  gens : ∀ i x, ¬ O.g i → s.gens[i]? = some x → s'.gens[i]? = some x
namespace Step
variable {W : Wd} {O O₁ : Own} {Z Z₁ Z₂ : AddrSet} {s s₁ s₂ : Shared}
theorem none_back (p : Step W O Z s Z₁ s₁) {a : Addr} (h : s₁.heap.get? a = none) : O.a a ∨ s.heap.get? a = none := by
  by_cases ho : O.a a
  · exact .inl ho
  · refine .inr ?_
    cases e : s.heap.get? a with
    | none => rfl
    | some o => rw [p.keep a o ho e] at h; cases h
theorem id (I : Inv W Z s) : Step W O Z s Z s := ⟨I, fun _ _ _ e => e, fun _ h => h, fun _ h => .inl h, fun _ _ _ e => e⟩
theorem trans (p : Step W O Z s Z₁ s₁) (q : Step W O₁ Z₁ s₁ Z₂ s₂) (ho : ∀ a, O₁.a a → O.a a ∨ s.heap.get? a = none) (hg : ∀ i, O₁.g i → O.g i ∨ s.gens[i]? = none) : Step W O Z s Z₂ s₂ where
  inv := q.inv
  keep b o hb e := q.keep b o (fun h => (ho b h).elim hb fun h' => by rw [h'] at e; cases e) (p.keep b o hb e)
  zsub a h := q.zsub a (p.zsub a h)
  znew a h := by
    rcases q.znew a h with h | h | h
    · exact p.znew a h
    · exact .inr (ho a h)
    · exact .inr (p.none_back h)
  gens i x hi e := q.gens i x (fun h => (hg i h).elim hi fun h' => by rw [h'] at e; cases e) (p.gens i x hi e)
theorem tr (p : Step W .none Z s Z₁ s₁) (q : Step W .none Z₁ s₁ Z₂ s₂) : Step W .none Z s Z₂ s₂ := p.trans q (fun _ h => .inl h) (fun _ h => .inl h)
theorem mono (p : Step W O Z s Z₁ s₁) (ho : ∀ a, O.a a → O₁.a a ∨ s.heap.get? a = none) (hg : ∀ i, O.g i → O₁.g i ∨ s.gens[i]? = none) : Step W O₁ Z s Z₁ s₁ where
  inv := p.inv
  keep b o hb e := p.keep b o (fun h => (ho b h).elim hb fun h' => by rw [h'] at e; cases e) e
  zsub := p.zsub
  znew a h := (p.znew a h).imp (fun h => h) fun h => h.elim (ho a) .inr
  gens i x hi e := p.gens i x (fun h => (hg i h).elim hi fun h' => by rw [h'] at e; cases e) e
theorem weak (p : Step W .none Z s Z₁ s₁) : Step W O Z s Z₁ s₁ := p.mono (fun _ h => h.elim) (fun _ h => h.elim)
theorem toks (I : Inv W Z s) (tk : Nat) (htk : s.toks ≤ tk := by first | exact Nat.le_refl _ | exact Nat.le_add_right _ _ | assumption | (first | lia | omega)) : Step W O Z s Z { s with toks := tk } := ⟨⟨I.ok, I.base, I.xs, I.zin, I.os, I.bare, I.zx, I.z0, Nat.le_trans I.tk htk⟩, fun _ _ _ e => e, fun _ h => h, fun _ h => .inl h, fun _ _ _ e => e⟩
theorem grow (I : Inv W Z s) {h' : Heap} {tk : Nat} (hk : ∀ b o, s.heap.get? b = some o → h'.get? b = some o) (htk : s.toks ≤ tk := by first | exact Nat.le_refl _ | exact Nat.le_add_right _ _ | assumption | (first | lia | omega)) : Step W O Z s Z { s with heap := h', toks := tk } :=
  ⟨⟨I.ok, fun b o e x => hk _ _ (I.base b o e x), fun b x => let ⟨o, e⟩ := I.xs b x; ⟨o, hk _ _ e⟩, fun a z => let ⟨o, e⟩ := I.zin a z; ⟨o, hk _ _ e⟩, I.os, I.bare, I.zx, I.z0, Nat.le_trans I.tk htk⟩, fun b o _ e => hk b o e, fun _ h => h, fun _ h => .inl h, fun _ _ _ e => e⟩
theorem grow1 (I : Inv W Z s) {h' : Heap} {tk : Nat} {a : Addr} {oa : Obj} (hk : ∀ b o, s.heap.get? b = some o → h'.get? b = some o) (hn : s.heap.get? a = none) (ha : h'.get? a = some oa) (htk : s.toks ≤ tk := by first | exact Nat.le_refl _ | exact Nat.le_add_right _ _ | assumption | (first | lia | omega)) :
    Step W O Z s (fun b => Z b ∨ b = a) { s with heap := h', toks := tk } :=
  ⟨⟨I.ok, fun b o e x => hk _ _ (I.base b o e x), fun b x => let ⟨o, e⟩ := I.xs b x; ⟨o, hk _ _ e⟩, fun b z => z.elim (fun z => let ⟨o, e⟩ := I.zin b z; ⟨o, hk _ _ e⟩) fun e => ⟨oa, e ▸ ha⟩, I.os, I.bare, fun b z => z.elim (I.zx b) fun e => e ▸ I.fresh_x hn, fun b h => .inl (I.z0 b h), Nat.le_trans I.tk htk⟩,
    fun b o _ e => hk b o e, fun _ h => .inl h, fun _ h => h.elim .inl fun e => .inr (.inr (e ▸ hn)), fun _ _ _ e => e⟩
theorem rep (p : Step W O Z s Z₁ s₁) (ho : ∀ a, Z a → ¬ O.a a) {v : Value} {a : AV} (r : RepV Z s.heap v a) : RepV Z₁ s₁.heap v a := r.mono p.zsub fun a o z e => p.keep a o (ho a z) e
theorem reps (p : Step W O Z s Z₁ s₁) (ho : ∀ a, Z a → ¬ O.a a) {v : List Value} {a : List AV} (r : RepVs Z s.heap v a) : RepVs Z₁ s₁.heap v a := r.mono p.zsub fun a o z e => p.keep a o (ho a z) e
theorem rep0 (p : Step W .none Z s Z₁ s₁) {v : Value} {a : AV} (r : RepV Z s.heap v a) : RepV Z₁ s₁.heap v a := p.rep (fun _ _ h => h) r
theorem reps0 (p : Step W .none Z s Z₁ s₁) {v : List Value} {a : List AV} (r : RepVs Z s.heap v a) : RepVs Z₁ s₁.heap v a := p.reps (fun _ _ h => h) r
end Step
structure Room (A : Around) (d : Nat) : Prop where
  handled : A.handled = none
  depth : A.depth + 2 * d + 10 < recursionLimit
  units : A.units + 30 * d + 100 < cLine
theorem Room.deeper {A : Around} {d : Nat} (r : Room A (d + 1)) (env : Env) : Room (A.deeper env) d := ⟨r.handled, by have h : A.depth + 2 * (d + 1) + 10 < recursionLimit := r.depth; show A.depth + 1 + 2 * d + 10 < recursionLimit; (first | lia | omega), by have h : A.units + 30 * (d + 1) + 100 < cLine := r.units; show A.units + 3 + 30 * d + 100 < cLine; (first | lia | omega)⟩
theorem Room.lt {A : Around} {d : Nat} (r : Room A d) : A.depth < recursionLimit := by have := r.depth; (first | lia | omega)
theorem Room.ult {A : Around} {d : Nat} (r : Room A d) : A.units + 50 < cLine := by have := r.units; (first | lia | omega)
theorem Room.le {A : Around} {d e : Nat} (r : Room A d) (h : e ≤ d) : Room A e := ⟨r.handled, Nat.lt_of_le_of_lt (Nat.add_le_add_right (Nat.add_le_add_left (Nat.mul_le_mul_left 2 h) _) _) r.depth, Nat.lt_of_le_of_lt (Nat.add_le_add_right (Nat.add_le_add_left (Nat.mul_le_mul_left 30 h) _) _) r.units⟩
structure EnvOk (env : Env) (sc : Scope) : Prop where
  scope : env.scope = sc
  globals : env.globals = mainGlobals
  builtins : env.builtins = builtinsNs
  fn : sc.kind = .function
  cells : ∀ x, sc.names.lookup x = some .cell ∨ sc.names.lookup x = some .free → ∃ c, env.cells.lookup x = some c
noncomputable def At (h : Heap) (env : Env) (m : Str → Option Value) (x : Str) (v : Value) : Prop :=
  (env.kindOf x = some .local ∧ m x = some v) ∨ ((env.kindOf x = some .cell ∨ env.kindOf x = some .free) ∧ ∃ c, env.cells.lookup x = some c ∧ h.IsCell c (some v))
noncomputable def SRep (Z : AddrSet) (h : Heap) (a : Addr) (v : Value) : SV → Prop
  | .val av => RepV Z h v av
  | .own l => v = .ref a ∧ ∃ vs : List Value, h.PlainList a vs.toArray ∧ RepVs Z h vs l.items
noncomputable def frz : Str := "self"
noncomputable abbrev Kd (sc : Scope) (x : Str) : Prop := sc.names.lookup x = some .local ∨ (sc.names.lookup x = some .cell ∧ x ≠ frz)
noncomputable def FOwn (env : Env) (ρ : Slots) (α : Str → Addr) (a : Addr) : Prop := a = env.locals ∨ (∃ x, x ≠ frz ∧ env.cells.lookup x = some a) ∨ ∃ x l, ρ x = some (.own l) ∧ α x = a
structure Loc (W : Wd) (Z : AddrSet) (h : Heap) (env : Env) (ρ : Slots) (α : Str → Addr) : Prop where
  ns : ∃ m, h.Ns env.locals m ∧ ∀ x sv, ρ x = some sv → ∃ v, At h env m x v ∧ SRep Z h (α x) v sv
  nz : ∀ a, FOwn env ρ α a → ¬ Z a
  nb : ∀ a, FOwn env ρ α a → W.h₀.get? a = none ∧ ¬ W.X a
  fix : ∀ x l b, ρ x = some (.own l) → l.place = some b → α x = b
  inj : ∀ x y l l', ρ x = some (.own l) → ρ y = some (.own l') → α x = α y → x = y
  cell : ∀ x c, env.cells.lookup x = some c → ∃ v, h.IsCell c v
  cinj : ∀ x y c, env.cells.lookup x = some c → env.cells.lookup y = some c → x = y
  slf : ∀ c, env.cells.lookup frz = some c → Z c
end Mine
end
section
namespace Mine
section
variable {W : Wd} {Z Z' Z₁ : AddrSet} {s s' s₁ : Shared} {h h' : Heap} {env : Env} {sc : Scope} {ρ ρ' ρ₁ : Slots} {α α' α₁ : Str → Addr} {A : Around} {E' : Value → Shared → Prop}
theorem EnvOk.kind (E : EnvOk env sc) (x : Str) : env.kindOf x = sc.names.lookup x := by unfold Env.kindOf; rw [E.scope]
theorem EnvOk.kfn (E : EnvOk env sc) : env.scope.kind = .function := by rw [E.scope]; exact E.fn
theorem At.mono {m : Str → Option Value} {x : Str} {v : Value} (a : At h env m x v) (hk : ∀ x c o, env.cells.lookup x = some c → h.get? c = some o → h'.get? c = some o) : At h' env m x v := by
  rcases a with a | ⟨k, c, hc, o, ho, hd⟩
  · exact .inl a
  · exact .inr ⟨k, c, hc, o, hk _ _ _ hc ho, hd⟩
theorem Loc.alive (L : Loc W Z h env ρ α) {a : Addr} (ha : FOwn env ρ α a) : ∃ o, h.get? a = some o := by
  obtain ⟨m, ⟨o, es, ep, ho, _⟩, hv⟩ := L.ns
  rcases ha with rfl | ⟨x, _, hx⟩ | ⟨x, l, hx, rfl⟩
  · exact ⟨o, ho⟩
  · obtain ⟨v, o, ho, _⟩ := L.cell _ _ hx; exact ⟨o, ho⟩
  · obtain ⟨v, _, _, vs, ⟨n, hn⟩, _⟩ := hv x _ hx; exact ⟨_, hn⟩
theorem Loc.step {O : Own} (L : Loc W Z s.heap env ρ α) (p : Step W O Z s Z' s') (ho : ∀ a, O.a a → ¬ FOwn env ρ α a ∧ ¬ Z a) : Loc W Z' s'.heap env ρ α := by
  have hk : ∀ a o, FOwn env ρ α a → s.heap.get? a = some o → s'.heap.get? a = some o := fun a o f e => p.keep a o (fun h => (ho a h).1 f) e
  have hz : ∀ a o, Z a → s.heap.get? a = some o → s'.heap.get? a = some o := fun a o f e => p.keep a o (fun h => (ho a h).2 f) e
  have hcl : ∀ x c o, env.cells.lookup x = some c → s.heap.get? c = some o → s'.heap.get? c = some o := fun x c o hc e => by
    by_cases q : x = frz
    · exact hz c o (L.slf c (q ▸ hc)) e
    · exact hk c o (.inr (.inl ⟨x, q, hc⟩)) e
  refine ⟨?_, fun a f z => ?_, L.nb, L.fix, L.inj, fun x c hc => ?_, L.cinj, fun c hc => p.zsub c (L.slf c hc)⟩
  · obtain ⟨m, ⟨o, es, ep, e, r⟩, hv⟩ := L.ns
    refine ⟨m, ⟨o, es, ep, hk _ _ (.inl rfl) e, r⟩, fun x sv hx => ?_⟩
    obtain ⟨v, at', r⟩ := hv x sv hx
    refine ⟨v, at'.mono fun y c o hc e => hcl y c o hc e, ?_⟩
    cases sv with
    | val av => exact r.mono p.zsub hz
    | own l => obtain ⟨e, vs, ⟨n, hn⟩, rs⟩ := r; exact ⟨e, vs, ⟨n, hk _ _ (.inr (.inr ⟨x, l, hx, rfl⟩)) hn⟩, rs.mono p.zsub hz⟩
  · obtain ⟨o, e⟩ := L.alive f
    rcases p.znew a z with z | z | z
    · exact L.nz a f z
    · exact (ho a z).1 f
    · rw [e] at z; cases z
  · obtain ⟨v, o, e, d⟩ := L.cell x c hc; exact ⟨v, o, hcl x c o hc e, d⟩
theorem Loc.step0 (L : Loc W Z s.heap env ρ α) (p : Step W .none Z s Z' s') : Loc W Z' s'.heap env ρ α := L.step p fun _ h => h.elim
theorem Loc.load {x : Str} {sv : SV} {Q : Value → Shared → Prop} (L : Loc W Z s.heap env ρ α) (E : EnvOk env sc) (hx : ρ x = some sv) (h : ∀ v, SRep Z s.heap (α x) v sv → Q v s)
    (hn : (x == ("__classdict__" : Str)) = false) : wpAny W.M A (loadName env x) Q E' s := by
  obtain ⟨m, ns, hv⟩ := L.ns
  obtain ⟨v, at', r⟩ := hv x sv hx
  rcases at' with ⟨k, e⟩ | ⟨k | k, c, hc, e⟩
  · exact wpAny_loadName_local E.kfn k ns e (h v r)
  · exact wpAny_loadName_cell E.kfn k hc e (h v r)
  · exact wpAny_loadName_free E.kfn k hc e (h v r) hn
structure FStep (W : Wd) (env : Env) (Z : AddrSet) (s : Shared) (ρ : Slots) (α : Str → Addr) (Z' : AddrSet) (s' : Shared) (ρ' : Slots) (α' : Str → Addr) : Prop where
  step : Step W (.addrs (FOwn env ρ α)) Z s Z' s'
  fo : ∀ a, FOwn env ρ' α' a → FOwn env ρ α a ∨ s.heap.get? a = none
  loc : Loc W Z' s'.heap env ρ' α'
theorem FStep.id (I : Inv W Z s) (L : Loc W Z s.heap env ρ α) : FStep W env Z s ρ α Z s ρ α := ⟨.id I, fun _ h => .inl h, L⟩
theorem FStep.trans (p : FStep W env Z s ρ α Z₁ s₁ ρ₁ α₁) (q : FStep W env Z₁ s₁ ρ₁ α₁ Z' s' ρ' α') : FStep W env Z s ρ α Z' s' ρ' α' where
  step := p.step.trans q.step (fun a h => p.fo a h) (fun _ h => h.elim)
  fo a h := by
    rcases q.fo a h with h | h
    · exact p.fo a h
    · exact p.step.none_back h
  loc := q.loc
theorem FStep.pure (L : Loc W Z s.heap env ρ α) (p : Step W .none Z s Z' s') : FStep W env Z s ρ α Z' s' ρ α := ⟨p.weak, fun _ h => .inl h, L.step0 p⟩
noncomputable def setA (α : Str → Addr) (x : Str) (a : Addr) : Str → Addr := fun y => if y = x then a else α y
theorem store_fo {x : Str} {sv : SV} {a : Addr} : ∀ b, FOwn env (ρ.set x sv) (setA α x a) b → FOwn env ρ α b ∨ ((∃ l, sv = .own l) ∧ b = a) := by
  rintro b (rfl | ⟨y, hn, hy⟩ | ⟨y, l, hy, rfl⟩)
  · exact .inl (.inl rfl)
  · exact .inl (.inr (.inl ⟨y, hn, hy⟩))
  · unfold Slots.set at hy
    unfold setA
    by_cases e : y = x
    · rw [if_pos e] at hy ⊢; exact .inr ⟨⟨l, Option.some.inj hy⟩, rfl⟩
    · rw [if_neg e] at hy ⊢; exact .inl (.inr (.inr ⟨y, l, hy, rfl⟩))
noncomputable def StoreOk (W : Wd) (Z : AddrSet) (ρ : Slots) (α : Str → Addr) (x : Str) (a : Addr) (sv : SV) : Prop := ∀ l, sv = .own l → ¬ Z a ∧ W.h₀.get? a = none ∧ ¬ W.X a ∧ (∀ b, l.place = some b → a = b) ∧ ∀ y l', y ≠ x → ρ y = some (.own l') → α y ≠ a
theorem store_loc {x : Str} {v : Value} {sv : SV} {a b : Addr} {h' : Heap} {m m' : Str → Option Value} (L : Loc W Z h env ρ α) (fb : FOwn env ρ α b) (hm : ∀ x sv, ρ x = some sv → ∃ v, At h env m x v ∧ SRep Z h (α x) v sv) (r : SRep Z h a v sv) (hf : StoreOk W Z ρ α x a sv) (hs : Heap.SameBut b h h')
    (hns : h'.Ns env.locals m') (hat : ∀ y w, y ≠ x → At h env m y w → At h' env m' y w) (hatx : At h' env m' x v) (hc : ∀ y c, env.cells.lookup y = some c → ∃ w, h'.IsCell c w) (hnl : ∀ vs, ¬ h.PlainList b vs) : Loc W Z h' env (ρ.set x sv) (setA α x a) := by
  have kz : ∀ c o, Z c → h.get? c = some o → h'.get? c = some o := fun c o z e => (hs.2 c (fun q => L.nz b fb (q ▸ z))).trans e
  have ks : ∀ {c : Addr} {w : Value} {sv : SV}, SRep Z h c w sv → SRep Z h' c w sv := fun {c w sv} r => by
    cases sv with
    | val av => exact RepV.mono (fun _ z => z) kz r
    | own l => obtain ⟨e, vs, ⟨n, hn⟩, rs⟩ := r; exact ⟨e, vs, ⟨n, (hs.2 c (fun q => hnl vs.toArray ⟨n, by rw [← q]; exact hn⟩)).trans hn⟩, rs.mono (fun _ z => z) kz⟩
  refine ⟨⟨m', hns, fun y sv' hy => ?_⟩, fun b f => ?_, fun b f => ?_, fun y l b hy hb => ?_, fun y z l l' hy hz e => ?_, hc, L.cinj, L.slf⟩
  · unfold Slots.set at hy
    unfold setA
    by_cases e : y = x
    · rw [if_pos e] at hy ⊢
      exact ⟨v, e ▸ hatx, Option.some.inj hy ▸ ks r⟩
    · rw [if_neg e] at hy ⊢
      obtain ⟨w, aw, rw'⟩ := hm y sv' hy
      exact ⟨w, hat y w e aw, ks rw'⟩
  · rcases store_fo b f with f | ⟨⟨l, e⟩, rfl⟩
    · exact L.nz b f
    · exact (hf l e).1
  · rcases store_fo b f with f | ⟨⟨l, e⟩, rfl⟩
    · exact L.nb b f
    · exact ⟨(hf l e).2.1, (hf l e).2.2.1⟩
  · unfold Slots.set at hy
    unfold setA
    by_cases e : y = x
    · rw [if_pos e] at hy ⊢; exact (hf l (Option.some.inj hy)).2.2.2.1 b hb
    · rw [if_neg e] at hy ⊢; exact L.fix y l b hy hb
  · unfold Slots.set at hy hz
    unfold setA at e
    by_cases ey : y = x <;> by_cases ez : z = x
    · rw [ey, ez]
    · rw [if_pos ey] at hy e; rw [if_neg ez] at hz e
      exact ((hf l (Option.some.inj hy)).2.2.2.2 z l' ez hz e.symm).elim
    · rw [if_neg ey] at hy e; rw [if_pos ez] at hz e
      exact ((hf l' (Option.some.inj hz)).2.2.2.2 y l ey hy e).elim
    · rw [if_neg ey] at hy e; rw [if_neg ez] at hz e
      exact L.inj y z l l' hy hz e
theorem store_step {b : Addr} {h' : Heap} {tk : Nat} (I : Inv W Z s) (L : Loc W Z s.heap env ρ α) (fb : FOwn env ρ α b) (hs : Heap.SameBut b s.heap h') (htk : s.toks ≤ tk := by first | exact Nat.le_refl _ | exact Nat.le_add_right _ _ | assumption | (first | lia | omega)) : Step W (.addrs (· = b)) Z s Z { s with heap := h', toks := tk } := by
  have kz : ∀ c o, Z c → s.heap.get? c = some o → h'.get? c = some o := fun c o z e => (hs.2 c (fun q => L.nz b fb (q ▸ z))).trans e
  refine ⟨⟨I.ok, fun c o e x => ?_, fun c x => ?_, fun c z => let ⟨o, e⟩ := I.zin c z; ⟨o, kz c o z e⟩, I.os, I.bare, I.zx, I.z0, Nat.le_trans I.tk htk⟩, fun c o hc e => (hs.2 c hc).trans e, fun _ z => z, fun _ z => .inl z, fun _ _ _ e => e⟩
  · exact (hs.2 c (fun q => by rw [q, (L.nb b fb).1] at e; cases e)).trans (I.base c o e x)
  · by_cases q : c = b
    · exact absurd (q ▸ x) (L.nb b fb).2
    · obtain ⟨o, e⟩ := I.xs c x; exact ⟨o, (hs.2 c q).trans e⟩
theorem ns_cell {c : Addr} {w : Option Value} {m : Str → Option Value} (hc : h.IsCell c w) (ns : h.Ns env.locals m) : c ≠ env.locals := fun q => by
  obtain ⟨o, e1, d1⟩ := hc
  obtain ⟨o', es, ep, e2, d2, _⟩ := ns
  rw [q, e2] at e1; cases e1; rw [d1] at d2; cases d2
theorem Loc.store' {x : Str} {v : Value} {sv : SV} {a : Addr} (I : Inv W Z s) (L : Loc W Z s.heap env ρ α) (E : EnvOk env sc) (hk : Kd sc x)
    (r : SRep Z s.heap a v sv) (hf : ∀ l, sv = .own l → ¬ Z a ∧ W.h₀.get? a = none ∧ ¬ W.X a ∧ (∀ b, l.place = some b → a = b) ∧ ∀ y l', y ≠ x → ρ y = some (.own l') → α y ≠ a)
    {Q : Unit → Shared → Prop} (h : ∀ s' c, FOwn env ρ α c → (sc.names.lookup x = some .local → c = env.locals) → Step W (.addrs (· = c)) Z s Z s' → (∀ b, FOwn env (ρ.set x sv) (setA α x a) b → FOwn env ρ α b ∨ ((∃ l, sv = .own l) ∧ b = a)) → Loc W Z s'.heap env (ρ.set x sv) (setA α x a) → Q () s') :
    wpAny W.M A (storeName env x v) Q E' s := by
  obtain ⟨m, ns, hv⟩ := L.ns
  rcases hk with hk | ⟨hk, hne⟩
  · have k : env.kindOf x = some .local := (E.kind x).trans hk
    refine wpAny_storeName_local k ns (fun h' ns' hs => h _ env.locals (.inl rfl) (fun _ => rfl) (store_step I L (.inl rfl) hs) store_fo (store_loc L (.inl rfl) hv r hf hs ns' (fun y w hy aw => ?_) (.inl ⟨k, by simp⟩) (fun y c hc => ?_) ?_)) (by rw [E.kfn]; rfl)
    · rcases aw with ⟨k', e⟩ | ⟨k', c, hc, e⟩
      · exact .inl ⟨k', by simpa [hy] using e⟩
      · exact .inr ⟨k', c, hc, e.sameBut hs (ns_cell e ns)⟩
    · obtain ⟨w, hw⟩ := L.cell y c hc; exact ⟨w, hw.sameBut hs (ns_cell hw ns)⟩
    · rintro vs ⟨n, e⟩; obtain ⟨o', es, ep, e2, d2, _⟩ := ns; rw [e2] at e; cases e; cases d2
  · have k : env.kindOf x = some .cell := (E.kind x).trans hk
    obtain ⟨c, hc⟩ := E.cells x (.inl hk)
    obtain ⟨v₀, hv₀⟩ := L.cell x c hc
    refine wpAny_storeName_cell E.kfn k hc hv₀ (fun h' hc' hs => h _ c (.inr (.inl ⟨x, hne, hc⟩)) (fun q => by rw [hk] at q; cases q) (store_step (tk := s.toks) I L (.inr (.inl ⟨x, hne, hc⟩)) hs) store_fo (store_loc L (.inr (.inl ⟨x, hne, hc⟩)) hv r hf hs (ns.sameBut hs (ns_cell hv₀ ns).symm) (fun y w hy aw => ?_) (.inr ⟨.inl k, c, hc, hc'⟩) (fun y c' hy => ?_) ?_))
    · rcases aw with ⟨k', e⟩ | ⟨k', c', hc'', e⟩
      · exact .inl ⟨k', e⟩
      · exact .inr ⟨k', c', hc'', e.sameBut hs fun q => hy (L.cinj y x c (q ▸ hc'') hc)⟩
    · by_cases q : c' = c
      · exact ⟨_, q ▸ hc'⟩
      · obtain ⟨w, hw⟩ := L.cell y c' hy; exact ⟨w, hw.sameBut hs q⟩
    · rintro vs ⟨n, e⟩; obtain ⟨o, e1, d1⟩ := hv₀; rw [e1] at e; cases e; cases d1
theorem Loc.store {x : Str} {v : Value} {sv : SV} {a : Addr} (I : Inv W Z s) (L : Loc W Z s.heap env ρ α) (E : EnvOk env sc) (hk : Kd sc x)
    (r : SRep Z s.heap a v sv) (hf : ∀ l, sv = .own l → ¬ Z a ∧ W.h₀.get? a = none ∧ ¬ W.X a ∧ (∀ b, l.place = some b → a = b) ∧ ∀ y l', y ≠ x → ρ y = some (.own l') → α y ≠ a)
    {Q : Unit → Shared → Prop} (h : ∀ s', Step W (.addrs (FOwn env ρ α)) Z s Z s' → (∀ b, FOwn env (ρ.set x sv) (setA α x a) b → FOwn env ρ α b ∨ ((∃ l, sv = .own l) ∧ b = a)) → Loc W Z s'.heap env (ρ.set x sv) (setA α x a) → Q () s') :
    wpAny W.M A (storeName env x v) Q E' s :=
  L.store' I E hk r hf fun s' c fc _ p fo l => h s' (p.mono (fun b e => .inl (by rw [show b = c from e]; exact fc)) fun _ h => h.elim) fo l
end
end Mine
end
section
set_option linter.unusedVariables false
namespace Mine
section
variable {W : Wd} {Z Z' Z₁ : AddrSet} {s s' s₁ : Shared} {env : Env} {sc : Scope} {ρ : Slots} {α : Str → Addr} {A : Around} {d : Nat}
noncomputable def Gives (W : Wd) (A : Around) (Z : AddrSet) (s : Shared) (t : Sem Value) (av : AV) : Prop :=
  ∀ (Q : Value → Shared → Prop) (E' : Value → Shared → Prop), (∀ rv s' Z', Step W .none Z s Z' s' → RepV Z' s'.heap rv av → Q rv s') → wpAny W.M A t Q E' s
noncomputable def GivesB (W : Wd) (A : Around) (Z : AddrSet) (s : Shared) (t : Sem Bool) (b : Bool) : Prop :=
  ∀ (Q : Bool → Shared → Prop) (E' : Value → Shared → Prop), (∀ s' Z', Step W .none Z s Z' s' → Q b s') → wpAny W.M A t Q E' s
noncomputable def DenP (W : Wd) (d : Nat) (sc : Scope) (e : Expr) (f : Slots → Option AV) : Prop :=
  ∀ (A : Around) (env : Env) (Z : AddrSet) (s : Shared) (ρ : Slots) (α : Str → Addr) (av : AV), Room A d → EnvOk env sc → Inv W Z s → Loc W Z s.heap env ρ α → f ρ = some av → Gives W A Z s (eval e env) av
noncomputable def DenT (W : Wd) (d : Nat) (sc : Scope) (e : Expr) (f : Slots → Option Bool) : Prop :=
  ∀ (A : Around) (env : Env) (Z : AddrSet) (s : Shared) (ρ : Slots) (α : Str → Addr) (b : Bool), Room A d → EnvOk env sc → Inv W Z s → Loc W Z s.heap env ρ α → f ρ = some b → GivesB W A Z s (isTrue e env (eval e env)) b
theorem bindO {β γ : Type} {x : Option β} {f : β → Option γ} {c : γ} (h : (x >>= f) = some c) : ∃ b, x = some b ∧ f b = some c := by
  cases x with
  | none => cases h
  | some b => exact ⟨b, rfl, h⟩
theorem Gives.val (I : Inv W Z s) {t : Sem Value} {av : AV} (h : ∀ (Q : Value → Shared → Prop) E', (∀ v tk, RepV Z s.heap v av → Q v { s with toks := tk }) → wpAny W.M A t Q E' s) : Gives W A Z s t av :=
  fun Q E' q => wpAny_with_toks (Nat.le_refl _) (h _ _ fun v tk r htk => q v _ Z (.toks I tk htk) r)
theorem den_int (i : Int) (k : Nat) (pos : Pos) : DenP W d sc (.Constant (.int i) k pos) fun _ => some (.int i) := by
  intro A env Z s ρ α av hr hE I L hf; cases hf
  exact .val I fun Q E' q => wpAny_Constant_int (q _ _ (.int _ _))
theorem den_str (x : Str) (k : Nat) (pos : Pos) : DenP W d sc (.Constant (.str x) k pos) fun _ => some (.str x) := by
  intro A env Z s ρ α av hr hE I L hf; cases hf
  exact .val I fun Q E' q => wpAny_Constant_str (q _ _ (.str _ _))
theorem den_none (k : Nat) (pos : Pos) : DenP W d sc (.Constant .none k pos) fun _ => some .none := by
  intro A env Z s ρ α av hr hE I L hf; cases hf
  exact .val I fun Q E' q => wpAny_Constant_none (q _ s.toks .none)
theorem den_bool (b : Bool) (k : Nat) (pos : Pos) : DenP W d sc (.Constant (.bool b) k pos) fun _ => some (.bool b) := by
  intro A env Z s ρ α av hr hE I L hf; cases hf
  exact .val I fun Q E' q => wpAny_Constant_bool (q _ s.toks (.bool b))
-- names
noncomputable def getV (ρ : Slots) (x : Str) : Option AV := match ρ x with | some (.val v) => some v | _ => none
theorem getV_eq {x : Str} {av : AV} (h : getV ρ x = some av) : ρ x = some (.val av) := by
  unfold getV at h
  split at h
  · cases h; assumption
  · cases h
theorem den_name (x : Str) (pos : Pos) (h1 : (x == ("__debug__" : Str)) = false) (h2 : (x == ("__classdict__" : Str)) = false) : DenP W d sc (.Name x pos) fun ρ => getV ρ x := by
  intro A env Z s ρ α av hr hE I L hf
  exact .val I fun Q E' q => wpAny_Name (L.load hE (getV_eq hf) (fun v r => q v s.toks r) h2) h1
noncomputable def Wd.Glob (W : Wd) (x : Str) (v : Value) : Prop := nsIn W.K mainGlobals x = some (some v) ∨ (nsIn W.K mainGlobals x = some none ∧ bootBuiltins x = some v ∧ x ≠ "__name__")
theorem load_glob {x : Str} {pos : Pos} {v : Value} {Q : Value → Shared → Prop} {E' : Value → Shared → Prop} (hE : EnvOk env sc) (I : Inv W Z s) (hg : W.Glob x v) (hk : sc.names.lookup x = some .globalImplicit) (h1 : (x == ("__debug__" : Str)) = false) (q : Q v s) :
    wpAny W.M A (eval (.Name x pos) env) Q E' s := by
  refine Calls.Name_function_global hE.kfn ((hE.kind x).trans hk) ?_ h1
  rcases hg with e | ⟨e, hb, hn⟩
  · exact Calls.loadGlobal_global (hE.globals ▸ I.g) (mg_of I.ok.kin I.ok.g e) q
  · exact Calls.loadGlobal_builtin (hE.globals ▸ I.g) (mg_none_of I.ok.kin I.ok.g e) (hE.builtins ▸ I.b) ((I.ok.builtins x hn).trans hb) q
noncomputable def repStr (x : Str) (n : Int) : Str := ⟨(List.replicate n.toNat x.cps.toList).flatten.toArray⟩
noncomputable def AV.int? : AV → Option Int
  | .int i => some i
  | _ => Option.none
noncomputable def AV.str? : AV → Option Str
  | .str i => some i
  | _ => Option.none
noncomputable def AV.lst? : AV → Option (List AV)
  | .lst i => some i
  | _ => Option.none
theorem int?_eq {a : AV} {i : Int} (e : a.int? = some i) : a = .int i := by cases a <;> cases e; rfl
theorem str?_eq {a : AV} {i : Str} (e : a.str? = some i) : a = .str i := by cases a <;> cases e; rfl
theorem lst?_eq {a : AV} {i : List AV} (e : a.lst? = some i) : a = .lst i := by cases a <;> cases e; rfl
theorem int?_rep {h : Heap} {v : Value} {a : AV} {i : Int} (e : a.int? = some i) (r : RepV Z h v a) : ∃ t, v = .int i t := (int?_eq e ▸ r).int'
theorem str?_rep {h : Heap} {v : Value} {a : AV} {i : Str} (e : a.str? = some i) (r : RepV Z h v a) : ∃ t, v = .str i t := (str?_eq e ▸ r).str'
theorem lst?_rep {h : Heap} {v : Value} {a : AV} {l : List AV} (e : a.lst? = some l) (r : RepV Z h v a) : ∃ a vs, v = .ref a ∧ Z a ∧ h.IsList a vs.toArray ∧ RepVs Z h vs l := (lst?_eq e ▸ r).lst'
theorem iteO {β : Type} {p : Prop} [Decidable p] {x : Option β} {c : β} (h : (if p then x else none) = some c) : p ∧ x = some c := by
  by_cases hp : p
  · rw [if_pos hp] at h; exact ⟨hp, h⟩
  · rw [if_neg hp] at h; cases h
noncomputable def addA : AV → AV → Option AV
  | .int a, y => y.int? >>= fun b => some (.int (a + b))
  | .str x, y => y.str? >>= fun y => if x.length + y.length ≤ 16777216 then some (.str (x ++ y)) else none
  | .lst x, y => y.lst? >>= fun y => if x.length + y.length ≤ 16777216 then some (.lst (x ++ y)) else none
  | _, _ => none
noncomputable def multA : AV → AV → Option AV
  | .int a, y => y.int? >>= fun b => if a.natAbs < 1073741824 ∧ b.natAbs < 1073741824 then some (.int (a * b)) else none
  | .str x, y => y.int? >>= fun n => if n < 16777216 ∧ -16777216 < n ∧ x.length * n.toNat ≤ 16777216 then some (.str (repStr x n)) else none
  | .lst x, y => y.int? >>= fun n => if n < 16777216 ∧ -16777216 < n ∧ x.length * n.toNat ≤ 16777216 then some (.lst (List.replicate n.toNat x).flatten) else none
  | _, _ => none
noncomputable def binA : Operator → AV → AV → Option AV
  | .Add, x, y => addA x y
  | .Sub, x, y => x.int? >>= fun a => y.int? >>= fun b => some (.int (a - b))
  | .FloorDiv, x, y => x.int? >>= fun a => y.int? >>= fun b => if b ≠ 0 ∧ b.natAbs < 1073741824 then some (.int (a.fdiv b)) else none
  | .Mod, x, y => x.int? >>= fun a => y.int? >>= fun b => if b ≠ 0 then some (.int (a.fmod b)) else none
  | .Mult, x, y => multA x y
  | _, _, _ => none
end
end Mine
end
section
set_option linter.unusedVariables false
namespace Mine
section
variable {W : Wd} {Z Z' Z₁ : AddrSet} {s s' s₁ : Shared} {env : Env} {sc : Scope} {ρ : Slots} {α : Str → Addr} {A : Around} {d : Nat}
theorem push_keep (h : Heap) (o : Obj) : ∀ b o', h.get? b = some o' → (h.push o).get? b = some o' := fun _ _ e => Heap.get?_push_of_some o e
theorem push_none (h : Heap) : h.get? h.objs.size = none := by
  cases e : h.get? h.objs.size with
  | none => rfl
  | some o => exact absurd (Heap.lt_size e) (Nat.lt_irrefl _)
theorem Gives.newLst (I : Inv W Z s) {t : Sem Value} {vs : List Value} {l : List AV} {n : Nat} (r : RepVs Z s.heap vs l)
    (h : ∀ (Q : Value → Shared → Prop) E', (∀ tk, Q (.ref s.heap.objs.size) { s with heap := s.heap.push { cls := .type "list", data := .seq vs.toArray n }, toks := tk }) → wpAny W.M A t Q E' s) : Gives W A Z s t (.lst l) :=
  fun Q E' q => wpAny_with_toks (Nat.le_refl _) (h _ _ fun tk (htk : s.toks ≤ tk) => by
    have hg := Heap.get?_push_size s.heap (o := { cls := .type "list", data := .seq vs.toArray n }) rfl
    exact q _ _ _ (.grow1 I (push_keep _ _) (push_none _) hg) (.lst (.inr rfl) ⟨_, hg, rfl, rfl, n, rfl⟩ (r.mono (fun _ z => .inl z) fun a o _ e => push_keep _ _ _ _ e)))
theorem Gives.newTup (I : Inv W Z s) {t : Sem Value} {vs : List Value} {l : List AV} {n : Nat} (r : RepVs Z s.heap vs l)
    (h : ∀ (Q : Value → Shared → Prop) E', (∀ tk, Q (.ref s.heap.objs.size) { s with heap := s.heap.push { cls := .type "tuple", data := .seq vs.toArray n }, toks := tk }) → wpAny W.M A t Q E' s) : Gives W A Z s t (.tup l) :=
  fun Q E' q => wpAny_with_toks (Nat.le_refl _) (h _ _ fun tk (htk : s.toks ≤ tk) => by
    have hg := Heap.get?_push_size s.heap (o := { cls := .type "tuple", data := .seq vs.toArray n }) rfl
    exact q _ _ _ (.grow1 I (push_keep _ _) (push_none _) hg) (.tup (.inr rfl) ⟨_, hg, rfl, n, rfl⟩ (r.mono (fun _ z => .inl z) fun a o _ e => push_keep _ _ _ _ e)))
theorem intBits_small {a : Int} (h : a.natAbs < 1073741824) : Builtin.Int.intBits a ≤ 64 := by
  unfold Builtin.Int.intBits
  split
  · (first | lia | omega)
  · have : a.natAbs.log2 < 30 := by
      rw [Nat.log2_lt (by rename_i q; intro e; exact q (by simpa using e))]; (first | lia | omega)
    (first | lia | omega)
theorem repStr_one (x : Str) : repStr x 1 = x := by
  obtain ⟨c⟩ := x
  simp [repStr]
theorem foldl_app (l : List (Array Nat)) (acc : Array Nat) : l.foldl (· ++ ·) acc = acc ++ (l.map Array.toList).flatten.toArray := by
  induction l generalizing acc with
  | nil => simp
  | cons a r ih => rw [List.foldl_cons, ih]; apply Array.toList_inj.mp; simp
theorem repStr_eq (x : Str) (n : Int) : (⟨(List.replicate n.toNat x.cps).foldl (· ++ ·) #[]⟩ : Str) = repStr x n := by
  rw [foldl_app]; simp [repStr]
theorem repStr_length (x : Str) (n : Int) : (repStr x n).length = n.toNat * x.length := by
  simp [repStr, Str.length]
theorem repStr_neg (x : Str) {n : Int} (h : n < 1) : repStr x n = Str.empty := by
  have : n.toNat = 0 := by (first | lia | omega)
  simp [repStr, this, Str.empty]
theorem foldl_appV (l : List (Array Value)) (acc : Array Value) : l.foldl (· ++ ·) acc = acc ++ (l.map Array.toList).flatten.toArray := by
  induction l generalizing acc with
  | nil => simp
  | cons a r ih => rw [List.foldl_cons, ih]; apply Array.toList_inj.mp; simp
theorem RepVs.rep {h : Heap} {vs : List Value} {l : List AV} (r : RepVs Z h vs l) : ∀ n : Nat, RepVs Z h (List.replicate n vs).flatten (List.replicate n l).flatten
  | 0 => .nil
  | n + 1 => by simp only [List.replicate_succ, List.flatten_cons]; exact r.append (r.rep n)
theorem mul_list_raw {a : Addr} {vs : List Value} {n : Int} {u : Tok} (hl : s.heap.IsList a vs.toArray) (h1 : n < 16777216) (h2 : -16777216 < n) (h3 : vs.length * n.toNat ≤ 16777216) {Q : Value → Shared → Prop} {E' : Value → Shared → Prop}
    (q : ∀ tk, Q (.ref s.heap.objs.size) { s with heap := s.heap.push { cls := .type "list", data := .seq (List.replicate n.toNat vs).flatten.toArray 0 }, toks := tk }) : wpAny W.M A (binaryOp .Mult (.ref a) (.int n u)) Q E' s := by
  obtain ⟨⟨cls, dd, data, sl⟩, ho, hc, k, hd⟩ := hl
  simp only at hc hd
  subst hc hd
  refine wpAny_binaryOp_repeat_ref (T := "list") (U := "int") (by decide) ⟨_, ho, rfl⟩ (fun s' => typeIs_int s' n u) noFill_list_mul F.fills_int_mul F.slot_int_rmul repeat_list F.slot_int_index.lookup
    (call_meets F.slot_int_rmul (typeIs_int s n u) F.entry_int_rmul (F.args_int_rmul_2 _ _) (lm_int_rmul_list_any n u a vs.toArray k dd sl)
      ⟨ho, rfl, ⟨_, ho, rfl⟩, call_meets F.slot_list_mul ⟨_, ho, rfl⟩ F.entry_list_mul (F.args_list_mul_2 _ _)
        (lm_list_mul_any a vs.toArray k dd sl n u (by simp [Builtin.List.listFitsIndex]; (first | lia | omega)) (by simp only [List.size_toArray]; (first | lia | omega)) (by simp only [Builtin.List.listTooLong, sizeLine, List.size_toArray]; simp; (first | lia | omega))) ⟨ho, ?_⟩⟩)
  have e : List.foldl (fun x1 x2 => x1 ++ x2) #[] (List.replicate (if vs.toArray.isEmpty = true then 0 else n.toNat) vs.toArray) = (List.replicate n.toNat vs).flatten.toArray := by
    rw [foldl_appV]
    cases vs with
    | nil => simp
    | cons v r => simp
  rw [e]
  exact q _
theorem mul_list_gives (I : Inv W Z s) {a : Addr} {vs : List Value} {l : List AV} {n : Int} {u : Tok} (hl : s.heap.IsList a vs.toArray) (r : RepVs Z s.heap vs l) (h1 : n < 16777216) (h2 : -16777216 < n) (h3 : vs.length * n.toNat ≤ 16777216) :
    Gives W A Z s (binaryOp .Mult (.ref a) (.int n u)) (.lst (List.replicate n.toNat l).flatten) :=
  .newLst (vs := (List.replicate n.toNat vs).flatten) (n := 0) I (r.rep _) fun Q E' q => mul_list_raw hl h1 h2 h3 q
theorem add_list_gives (I : Inv W Z s) {a b : Addr} {vs ws : List Value} {l m : List AV} (hl : s.heap.IsList a vs.toArray) (hb : s.heap.IsList b ws.toArray) (r : RepVs Z s.heap vs l) (r' : RepVs Z s.heap ws m) (hz : vs.length + ws.length ≤ 16777216) :
    Gives W A Z s (binaryOp .Add (.ref a) (.ref b)) (.lst (l ++ m)) := by
  obtain ⟨⟨cls, dd, data, sl⟩, ho, hc, k, hd⟩ := hl
  obtain ⟨⟨cls2, dd2, data2, sl2⟩, ho2, hc2, k2, hd2⟩ := hb
  simp only at hc hd hc2 hd2
  subst hc hd hc2 hd2
  refine .newLst (vs := vs ++ ws) (n := 0) I (r.append r') fun Q E' q => ?_
  refine concat_meets ⟨_, ho, rfl⟩ ⟨_, ho2, rfl⟩ noFill_list_add seq_list_add F.slot_list_add F.entry_list_add (F.args_list_add_2 _ _) (list_addW a b vs.toArray ws.toArray k k2 dd dd2 sl sl2 (by simpa [sizeLine] using hz)) ⟨ho, ho2, ?_⟩
  have e : vs.toArray ++ ws.toArray = (vs ++ ws).toArray := by simp
  rw [e]
  exact q _
theorem mul_str_gives (I : Inv W Z s) {x : Str} {n : Int} {t t' : Tok} (h1 : n < 16777216) (h2 : -16777216 < n) (h3 : x.length * n.toNat ≤ 16777216) : Gives W A Z s (binaryOp .Mult (.str x t) (.int n t')) (.str (repStr x n)) := by
  refine .val I fun Q E' q => P.mul_str (by rw [decide_eq_false (by (first | lia | omega)), decide_eq_false (by (first | lia | omega))]; rfl) (fun p1 p2 => ?_) (fun p1 p2 => ?_) ?_
  · have hx : (x.length : Int) * n ≤ 16777216 := by
      have hn : (n.toNat : Int) = n := by (first | lia | omega)
      have := Int.ofNat_le.mpr h3
      rw [Int.natCast_mul, hn] at this
      exact this
    have : (x.length : Int) ≤ (2 ^ 63 - 1) / n := by
      rw [Int.le_ediv_iff_mul_le (by (first | lia | omega))]; (first | lia | omega)
    (first | lia | omega)
  · unfold Builtin.Str.tooLong; exact decide_eq_false (by unfold sizeLine; (first | lia | omega))
  · split
    · rename_i hn; rw [repStr_neg x hn] at q; exact ⟨by decide, q _ _ (.str _ _)⟩
    · split
      · rename_i hn ho
        have e : repStr x n = x := by
          rcases Bool.or_eq_true_iff.mp ho with ho | ho
          · rw [show n = 1 by simpa using ho]; exact repStr_one x
          · have hx : x.cps = #[] := by simpa [Str.length] using ho
            obtain ⟨c⟩ := x
            simp at hx
            subst hx
            simp [repStr]
        rw [e] at q; exact q _ s.toks (.str _ _)
      · rw [repStr_eq]
        exact ⟨by rw [repStr_length]; unfold sizeLine; rw [Nat.mul_comm]; exact h3, q _ _ (.str _ _)⟩
theorem addA_ok (I : Inv W Z s) {a b c : AV} {va vb : Value} (ra : RepV Z s.heap va a) (rb : RepV Z s.heap vb b) (h : addA a b = some c) : Gives W A Z s (binaryOp .Add va vb) c := by
  cases a with
  | int i =>
    obtain ⟨j, hj, h⟩ := bindO h; cases h
    obtain ⟨t, rfl⟩ := ra.int'; obtain ⟨t', rfl⟩ := int?_rep hj rb
    exact .val I fun Q E' q => add_int (q _ _ (.int _ _))
  | str x =>
    obtain ⟨y, hj, h⟩ := bindO h; obtain ⟨hc, h⟩ := iteO h; cases h
    obtain ⟨t, rfl⟩ := ra.str'; obtain ⟨t', rfl⟩ := str?_rep hj rb
    exact .val I fun Q E' q => add_str (fun t' tk => q _ _ (.str _ _)) hc
  | lst x =>
    obtain ⟨y, hj, h⟩ := bindO h; obtain ⟨hc, h⟩ := iteO h; cases h
    obtain ⟨a, vs, rfl, z1, hl, rl⟩ := ra.lst'; obtain ⟨a', vs', rfl, z2, hm, rm⟩ := lst?_rep hj rb
    exact add_list_gives I hl hm rl rm (by rw [rl.length, rm.length]; exact hc)
  | _ => cases h
theorem multA_ok (I : Inv W Z s) {a b c : AV} {va vb : Value} (ra : RepV Z s.heap va a) (rb : RepV Z s.heap vb b) (h : multA a b = some c) : Gives W A Z s (binaryOp .Mult va vb) c := by
  cases a with
  | int i =>
    obtain ⟨j, hj, h⟩ := bindO h; obtain ⟨hc, h⟩ := iteO h; cases h
    obtain ⟨t, rfl⟩ := ra.int'; obtain ⟨t', rfl⟩ := int?_rep hj rb
    exact .val I fun Q E' q => mul_int (q _ _ (.int _ _)) (.of_left (intBits_small hc.1))
  | str x =>
    obtain ⟨y, hj, h⟩ := bindO h; obtain ⟨hc, h⟩ := iteO h; cases h
    obtain ⟨t, rfl⟩ := ra.str'; obtain ⟨t', rfl⟩ := int?_rep hj rb
    exact mul_str_gives I hc.1 hc.2.1 hc.2.2
  | lst x =>
    obtain ⟨y, hj, h⟩ := bindO h; obtain ⟨hc, h⟩ := iteO h; cases h
    obtain ⟨a, vs, rfl, z1, hl, rl⟩ := ra.lst'; obtain ⟨t', rfl⟩ := int?_rep hj rb
    exact mul_list_gives I hl rl hc.1 hc.2.1 (by rw [rl.length]; exact hc.2.2)
  | _ => cases h
theorem binA_ok (I : Inv W Z s) {op : Operator} {a b c : AV} {va vb : Value} (ra : RepV Z s.heap va a) (rb : RepV Z s.heap vb b) (h : binA op a b = some c) : Gives W A Z s (binaryOp op va vb) c := by
  have two : ∀ {f : Int → Int → Option AV}, (a.int? >>= fun i => b.int? >>= fun j => f i j) = some c → ∃ i j t t', va = .int i t ∧ vb = .int j t' ∧ f i j = some c := fun h => by
    obtain ⟨i, hi, h⟩ := bindO h
    obtain ⟨j, hj, h⟩ := bindO h
    obtain ⟨t, e⟩ := int?_rep hi ra
    obtain ⟨t', e'⟩ := int?_rep hj rb
    exact ⟨i, j, t, t', e, e', h⟩
  cases op with
  | Add => exact addA_ok I ra rb h
  | Mult => exact multA_ok I ra rb h
  | Sub => obtain ⟨i, j, t, t', rfl, rfl, h⟩ := two h; cases h; exact .val I fun Q E' q => sub_int (q _ _ (.int _ _))
  | FloorDiv => obtain ⟨i, j, t, t', rfl, rfl, h⟩ := two h; obtain ⟨hc, h⟩ := iteO h; cases h; exact .val I fun Q E' q => floordiv_int hc.1 (q _ _ (.int _ _)) (.inl (PyProof.noPylong_small hc.2))
  | Mod => obtain ⟨i, j, t, t', rfl, rfl, h⟩ := two h; obtain ⟨hc, h⟩ := iteO h; cases h; exact .val I fun Q E' q => mod_int' hc (q _ _ (.int _ _))
  | _ => cases h
theorem den_bin {l r : Expr} {op : Operator} {pos : Pos} {f g : Slots → Option AV} (hl : DenP W d sc l f) (hr : DenP W d sc r g) :
    DenP W d sc (.BinOp l op r pos) fun ρ => f ρ >>= fun a => g ρ >>= fun b => binA op a b := by
  intro A env Z s ρ α av R hE I L hf Q E' q
  obtain ⟨a, ha, hf⟩ := bindO hf
  obtain ⟨b, hb, hf⟩ := bindO hf
  exact wpAny_BinOp (hl A env Z s ρ α a R hE I L ha _ _ fun va s₁ Z₁ p₁ r₁ => hr A env Z₁ s₁ ρ α b R hE p₁.inv (L.step0 p₁) hb _ _ fun vb s₂ Z₂ p₂ r₂ =>
    binA_ok p₂.inv (p₂.rep0 r₁) r₂ hf _ _ fun v s₃ Z₃ p₃ r₃ => q v s₃ Z₃ (p₁.tr (p₂.tr p₃)) r₃)
end
end Mine
end
section
open PySem PySem.W PyProof.Rows PySem.SeqAt
set_option linter.unusedVariables false
namespace Mine
section
variable {W : Wd} {Z Z' Z₁ : AddrSet} {s s' s₁ : Shared} {env : Env} {sc : Scope} {ρ : Slots} {α : Str → Addr} {A : Around} {d : Nat}
noncomputable def baseA : AV → Bool
  | .none => true
  | .bool _ => true
  | .int _ => true
  | .str _ => true
  | _ => false
noncomputable def dat : Nat → AV → Bool
  | 0, a => baseA a
  | n + 1, a => match a with
    | .tup l => l.all (dat n)
    | .lst l => l.all (dat n)
    | a => baseA a
theorem RepVs.get2 {h : Heap} {vs ws : List Value} {l : List AV} (r : RepVs Z h vs l) (q : RepVs Z h ws l) {j : Nat} (h1 : j < vs.length) (h2 : j < ws.length) : ∃ a ∈ l, RepV Z h vs[j] a ∧ RepV Z h ws[j] a := by
  have hj : j < l.length := by rw [← r.length]; exact h1
  obtain ⟨v, e1, r1⟩ := r.get (List.getElem?_eq_getElem hj)
  obtain ⟨w, e2, r2⟩ := q.get (List.getElem?_eq_getElem hj)
  rw [List.getElem?_eq_getElem h1] at e1
  rw [List.getElem?_eq_getElem h2] at e2
  cases e1; cases e2
  exact ⟨_, List.getElem_mem hj, r1, r2⟩
theorem all_true (n : Nat) : (List.range n).all (fun _ => true) = true := by rw [List.all_eq_true]; exact fun _ _ => rfl
structure Same3 (A : Around) (s : Shared) (v w : Value) : Prop where
  eq : EqAt A s v w true
  rc : RcAt A s v w true
  ne : RcNeAt A s v w false
theorem base3 {A : Around} {a : AV} {v w : Value} (hd : baseA a = true) (r : RepV Z s.heap v a) (q : RepV Z s.heap w a) : Same3 A s v w := by
  cases a with
  | none => rw [r.none', q.none']; exact ⟨EqAt.same _, RcAt.none_none, RcNeAt.none_none⟩
  | bool b =>
    rw [r.bool', q.bool']
    have h1 := RcAt.bool_bool (A := A) (s := s) b b; have h2 := RcNeAt.bool_bool (A := A) (s := s) b b
    rw [beq_self_eq_true] at h1 h2
    exact ⟨EqAt.same _, h1, h2⟩
  | int i =>
    obtain ⟨t, rfl⟩ := r.int'; obtain ⟨u, rfl⟩ := q.int'
    have h0 := EqAt.int_int (A := A) (s := s) i t i u; have h1 := RcAt.int_int (A := A) (s := s) i t i u; have h2 := RcNeAt.int_int (A := A) (s := s) i t i u
    rw [beq_self_eq_true] at h0 h1 h2
    exact ⟨h0, h1, h2⟩
  | str i =>
    obtain ⟨t, rfl⟩ := r.str'; obtain ⟨u, rfl⟩ := q.str'
    have h0 := EqAt.str_str (A := A) (s := s) i t i u; have h1 := RcAt.str_str (A := A) (s := s) i t i u; have h2 := RcNeAt.str_str (A := A) (s := s) i t i u
    rw [beq_self_eq_true] at h0 h1 h2
    exact ⟨h0, h1, h2⟩
  | _ => cases hd
theorem tup3 {a1 a2 : Addr} {vs ws : List Value} (h1 : IsTup s.heap a1 vs.toArray) (h2 : IsTup s.heap a2 ws.toArray) (hl : vs.length = ws.length) (hu : A.units < cLine)
    (he : ∀ j, (g1 : j < vs.toArray.size) → (g2 : j < ws.toArray.size) → EqAt A.in1 s vs.toArray[j] ws.toArray[j] true) : Same3 A s (.ref a1) (.ref a2) := by
  have q1 := RcAt.tuples (A := A) (e := fun _ => true) h1 h2 hu he
  have q2 := RcNeAt.tuples (A := A) (e := fun _ => true) h1 h2 hu he
  simp only [List.size_toArray, hl, all_true, beq_self_eq_true, Bool.and_self, Bool.and_true, Nat.min_self, Bool.not_true] at q1 q2
  refine ⟨?_, q1, q2⟩
  by_cases e : a1 = a2
  · subst e; exact EqAt.same _
  · exact EqAt.of_refs e q1
theorem lst3 {a1 a2 : Addr} {vs ws : List Value} (h1 : s.heap.IsList a1 vs.toArray) (h2 : s.heap.IsList a2 ws.toArray) (hl : vs.toArray.size = ws.toArray.size) (hu : A.units < cLine)
    (he : ∀ j, (g1 : j < vs.toArray.size) → (g2 : j < ws.toArray.size) → EqAt A.in1 s vs.toArray[j] ws.toArray[j] true) : Same3 A s (.ref a1) (.ref a2) := by
  have q1 := RcAt.lists (A := A) (e := fun _ => true) h1 h2 hl hu he
  have q2 := RcNeAt.lists (A := A) (e := fun _ => true) h1 h2 hl hu he
  simp only [all_true, Bool.not_true] at q1 q2
  refine ⟨?_, q1, q2⟩
  by_cases e : a1 = a2
  · subst e; exact EqAt.same _
  · exact EqAt.of_refs e q1
theorem same3 (n : Nat) {A : Around} {a : AV} {v w : Value} (hd : dat n a = true) (r : RepV Z s.heap v a) (q : RepV Z s.heap w a) (hu : A.units + n + 1 < cLine) : Same3 A s v w := by
  induction n generalizing A a v w with
  | zero => exact base3 hd r q
  | succ n ih =>
    have el : ∀ {l : List AV} {vs ws : List Value}, l.all (dat n) = true → RepVs Z s.heap vs l → RepVs Z s.heap ws l → ∀ j, (g1 : j < vs.toArray.size) → (g2 : j < ws.toArray.size) → EqAt A.in1 s vs.toArray[j] ws.toArray[j] true := fun hd r1 r2 j g1 g2 => by
      obtain ⟨a, ha, ra, qa⟩ := r1.get2 r2 g1 g2
      exact (ih (List.all_eq_true.mp hd a ha) ra qa (by show A.units + 1 + n + 1 < cLine; (first | lia | omega))).eq
    cases a with
    | tup l =>
      obtain ⟨a1, vs, rfl, _, h1, r1⟩ := r.tup'
      obtain ⟨a2, ws, rfl, _, h2, r2⟩ := q.tup'
      exact tup3 h1 h2 (r1.length.trans r2.length.symm) (by (first | lia | omega)) (el hd r1 r2)
    | lst l =>
      obtain ⟨a1, vs, rfl, _, h1, r1⟩ := r.lst'
      obtain ⟨a2, ws, rfl, _, h2, r2⟩ := q.lst'
      exact lst3 h1 h2 (r1.length.trans r2.length.symm) (by (first | lia | omega)) (el hd r1 r2)
    | _ => refine base3 ?_ r q; exact hd
end
end Mine
end
section
open PySem PySem.W PyProof.Rows PySem.SeqAt
set_option linter.unusedVariables false
namespace Mine
section
variable {W : Wd} {Z Z' Z₁ : AddrSet} {s s' s₁ : Shared} {env : Env} {sc : Scope} {ρ : Slots} {α : Str → Addr} {A : Around} {d : Nat}
noncomputable def inStr (y x : Str) : Bool := !(Builtin.Str.occurrences x y 0 x.length 1).isEmpty
noncomputable def intsOf : List AV → Option (List Int)
  | [] => some []
  | .int i :: r => (intsOf r).map (i :: ·)
  | _ :: _ => none
noncomputable def isNoneA : AV → Option Bool
  | .none => some true
  | .bool _ => some false
  | .int _ => some false
  | .str _ => some false
  | _ => none
noncomputable def eqI (i : Int) : AV → Option Bool
  | .int j => some (i == j)
  | .str _ => some false
  | .none => some false
  | _ => none
noncomputable def eqS (x : Str) : AV → Option Bool
  | .int _ => some false
  | .str y => some (x == y)
  | .none => some false
  | _ => none
noncomputable def eqN : AV → Option Bool
  | .int _ => some false
  | .str _ => some false
  | .none => some true
  | _ => none
noncomputable def eqB (p : Bool) : AV → Option Bool
  | .bool q => some (p == q)
  | _ => none
open Classical in
noncomputable def eqL (a : List AV) (y : AV) : Option Bool := y.lst? >>= fun b => if a = b ∧ dat 8 (.lst a) = true then some true else if a.length ≠ b.length then some false else none
open Classical in
noncomputable def sameA (a b : AV) : Option Bool := if a = b ∧ dat 8 a = true then some true else none
noncomputable def eqA : AV → AV → Option Bool
  | .int a, y => eqI a y
  | .str a, y => eqS a y
  | .bool a, y => eqB a y
  | .none, y => eqN y
  | .lst a, y => eqL a y
  | a, b => sameA a b
noncomputable def inA : AV → AV → Option Bool
  | .str y, b => b.str? >>= fun x => some (inStr y x)
  | .int i, b => b.lst? >>= fun l => (intsOf l).map fun ns => decide (i ∈ ns)
  | _, _ => none
noncomputable def ofNone (r : Option Bool) : AV → Option Bool
  | .none => r
  | _ => none
noncomputable def int2 (a b : AV) (f : Int → Int → Bool) : Option Bool := a.int? >>= fun i => b.int? >>= fun j => some (f i j)
noncomputable def cmpA : CmpOp → AV → AV → Option Bool
  | .Eq, a, b => eqA a b
  | .NotEq, a, b => (eqA a b).map (!·)
  | .Lt, a, b => int2 a b fun a b => decide (a < b)
  | .LtE, a, b => int2 a b fun a b => decide (a ≤ b)
  | .Gt, a, b => int2 a b fun a b => decide (b < a)
  | .GtE, a, b => int2 a b fun a b => decide (b ≤ a)
  | .Is, a, b => ofNone (isNoneA a) b
  | .IsNot, a, b => ofNone ((isNoneA a).map (!·)) b
  | .In, a, b => inA a b
  | .NotIn, a, b => a.str? >>= fun y => b.str? >>= fun x => some (!inStr y x)
theorem eq_rc {Q : Value → Shared → Prop} {E' : Value → Shared → Prop} {v w : Value} {b : Bool} (h : RcAt A s v w b) (q : Q (.bool b) s) : wpAny W.M A (compareOp .Eq v w) Q E' s := h _ _ _ _ q
theorem ne_rc {Q : Value → Shared → Prop} {E' : Value → Shared → Prop} {v w : Value} {b : Bool} (h : RcNeAt A s v w b) (q : Q (.bool b) s) : wpAny W.M A (compareOp .NotEq v w) Q E' s := h _ _ _ _ q
noncomputable def Rc2 (A : Around) (s : Shared) (v w : Value) (c : Bool) : Prop := RcAt A s v w c ∧ RcNeAt A s v w (!c)
theorem eqI_rc {i : Int} {t : Tok} {b : AV} {vb : Value} {c : Bool} (rb : RepV Z s.heap vb b) (h : eqI i b = some c) : Rc2 A s (.int i t) vb c := by
  cases b with
  | int j => cases h; obtain ⟨t', rfl⟩ := rb.int'; exact ⟨RcAt.int_int _ _ _ _, RcNeAt.int_int _ _ _ _⟩
  | str y => cases h; obtain ⟨t', rfl⟩ := rb.str'; exact ⟨RcAt.int_str _ _ _ _, RcNeAt.int_str _ _ _ _⟩
  | none => cases h; rw [rb.none']; exact ⟨RcAt.int_none _ _, RcNeAt.int_none _ _⟩
  | _ => cases h
theorem eqS_rc {i : Str} {t : Tok} {b : AV} {vb : Value} {c : Bool} (rb : RepV Z s.heap vb b) (h : eqS i b = some c) : Rc2 A s (.str i t) vb c := by
  cases b with
  | int j => cases h; obtain ⟨t', rfl⟩ := rb.int'; exact ⟨RcAt.str_int _ _ _ _, RcNeAt.str_int _ _ _ _⟩
  | str y => cases h; obtain ⟨t', rfl⟩ := rb.str'; exact ⟨RcAt.str_str _ _ _ _, RcNeAt.str_str _ _ _ _⟩
  | none => cases h; rw [rb.none']; exact ⟨RcAt.str_none _ _, RcNeAt.str_none _ _⟩
  | _ => cases h
theorem eqN_rc {b : AV} {vb : Value} {c : Bool} (rb : RepV Z s.heap vb b) (h : eqN b = some c) : Rc2 A s .none vb c := by
  cases b with
  | int j => cases h; obtain ⟨t', rfl⟩ := rb.int'; exact ⟨RcAt.none_int _ _, RcNeAt.none_int _ _⟩
  | str y => cases h; obtain ⟨t', rfl⟩ := rb.str'; exact ⟨RcAt.none_str _ _, RcNeAt.none_str _ _⟩
  | none => cases h; rw [rb.none']; exact ⟨RcAt.none_none, RcNeAt.none_none⟩
  | _ => cases h
theorem eqB_rc {p : Bool} {b : AV} {vb : Value} {c : Bool} (rb : RepV Z s.heap vb b) (h : eqB p b = some c) : Rc2 A s (.bool p) vb c := by
  cases b with
  | bool q => cases h; rw [rb.bool']; exact ⟨RcAt.bool_bool _ _, RcNeAt.bool_bool _ _⟩
  | _ => cases h
theorem same_rc {a : AV} {va vb : Value} (hu : A.units + 50 < cLine) (hd : dat 8 a = true) (ra : RepV Z s.heap va a) (rb : RepV Z s.heap vb a) : Rc2 A s va vb true :=
  have h := same3 8 hd ra rb (A := A) (by (first | lia | omega))
  ⟨h.rc, h.ne⟩
theorem eqL_rc {l : List AV} {b : AV} {va vb : Value} {c : Bool} (hu : A.units + 50 < cLine) (ra : RepV Z s.heap va (.lst l)) (rb : RepV Z s.heap vb b) (h : eqL l b = some c) : Rc2 A s va vb c := by
  obtain ⟨m, hm, h⟩ := bindO h
  by_cases hc : l = m ∧ dat 8 (.lst l) = true
  · rw [if_pos hc] at h; cases h
    have := lst?_eq hm
    subst this
    exact same_rc hu hc.2 ra (hc.1 ▸ rb)
  · rw [if_neg hc] at h
    obtain ⟨hl, h⟩ := iteO h; cases h
    obtain ⟨a1, vs, rfl, _, h1, r1⟩ := ra.lst'
    obtain ⟨a2, ws, rfl, _, h2, r2⟩ := lst?_rep hm rb
    have hn : (vs.toArray.size != ws.toArray.size) = true := by rw [List.size_toArray, List.size_toArray, r1.length, r2.length]; exact bne_iff_ne.mpr hl
    exact ⟨RcAt.lists_lengths h1 h2 hn (by (first | lia | omega)), RcNeAt.lists_lengths h1 h2 hn (by (first | lia | omega))⟩
theorem sameA_rc {a b : AV} {va vb : Value} {c : Bool} (hu : A.units + 50 < cLine) (ra : RepV Z s.heap va a) (rb : RepV Z s.heap vb b) (h : sameA a b = some c) : Rc2 A s va vb c := by
  by_cases hc : a = b ∧ dat 8 a = true
  · rw [sameA, if_pos hc] at h; cases h
    exact same_rc hu hc.2 ra (hc.1 ▸ rb)
  · rw [sameA, if_neg hc] at h; cases h
theorem eqA_rc {a b : AV} {va vb : Value} {c : Bool} (hu : A.units + 50 < cLine) (ra : RepV Z s.heap va a) (rb : RepV Z s.heap vb b) (h : eqA a b = some c) : RcAt A s va vb c ∧ RcNeAt A s va vb (!c) := by
  cases a with
  | int i => obtain ⟨t, rfl⟩ := ra.int'; exact eqI_rc rb h
  | str i => obtain ⟨t, rfl⟩ := ra.str'; exact eqS_rc rb h
  | none => rw [ra.none']; exact eqN_rc rb h
  | bool i => rw [ra.bool']; exact eqB_rc rb h
  | lst l => exact eqL_rc hu ra rb h
  | _ => exact sameA_rc hu ra rb h
theorem isNone_rep {a : AV} {v : Value} {b : Bool} {h : Heap} (r : RepV Z h v a) (e : isNoneA a = some b) : (v == .none) = b := by
  cases a with
  | none => cases e; rw [r.none']; rfl
  | bool => cases e; rw [r.bool']; rfl
  | int => cases e; obtain ⟨t, rfl⟩ := r.int'; rfl
  | str => cases e; obtain ⟨t, rfl⟩ := r.str'; rfl
  | _ => cases e
theorem ints_rep {h : Heap} {vs : List Value} {l : List AV} {ns : List Int} (r : RepVs Z h vs l) (e : intsOf l = some ns) : IntsAre vs ns := by
  induction l generalizing vs ns with
  | nil => cases e; rw [r.nil']; exact .nil
  | cons a l ih =>
    obtain ⟨v, ws, rfl, r, rs⟩ := r.cons'
    cases a with
    | int i =>
      obtain ⟨ns, hn, rfl⟩ := Option.map_eq_some_iff.mp e
      obtain ⟨t, rfl⟩ := r.int'
      exact .cons _ _ (ih rs hn)
    | _ => cases e
theorem in_ints {a : Addr} {vs : List Value} {ns : List Int} {i : Int} {t : Tok} {Q : Value → Shared → Prop} {E' : Value → Shared → Prop} (hl : s.heap.IsList a vs.toArray) (hi : IntsAre vs ns) (q : Q (.bool (decide (i ∈ ns))) s) :
    wpAny W.M A (compareOp .In (.int i t) (.ref a)) Q E' s := by
  have key : ∀ {vs : List Value} {ns : List Int}, IntsAre vs ns → vs.any (fun v => match v with | .int k _ => k == i | _ => false) = decide (i ∈ ns) := by
    intro vs ns h
    induction h with
    | nil => rfl
    | cons n t _ ih =>
      rw [List.any_cons, ih]
      by_cases e : n = i
      · subst e; simp
      · have e' : ¬ i = n := fun c => e c.symm
        simp [e, e']
  refine in_listAt (fun v => match v with | .int k _ => k == i | _ => false) hl (fun y hy => ?_) ?_
  · have hy' : y ∈ vs := by simpa using hy
    have : ∃ k u, y = .int k u := by
      clear hl q hy
      induction hi with
      | nil => cases hy'
      | cons n t _ ih =>
        rcases List.mem_cons.mp hy' with e | e
        · exact ⟨n, t, e⟩
        · exact ih e
    obtain ⟨k, u, rfl⟩ := this
    exact EqAt.int_int _ _ _ _
  · have := key hi
    simp only [List.any_toArray]
    rw [this]; exact q
theorem cmp_ints {op : CmpOp} {f : Int → Int → Bool} (hop : ∀ (i j : Int) (t t' : Tok) (Q : Value → Shared → Prop) (E' : Value → Shared → Prop), Q (.bool (f i j)) s → wpAny W.M A (compareOp op (.int i t) (.int j t')) Q E' s) {a b : AV} {c : Bool} {va vb : Value} (ra : RepV Z s.heap va a) (rb : RepV Z s.heap vb b) (h : int2 a b f = some c) {Q : Value → Shared → Prop} {E' : Value → Shared → Prop} (q : Q (.bool c) s) : wpAny W.M A (compareOp op va vb) Q E' s := by
  obtain ⟨i, hi, h⟩ := bindO h
  obtain ⟨j, hj, h⟩ := bindO h
  obtain ⟨t, e⟩ := int?_rep hi ra
  obtain ⟨t', e'⟩ := int?_rep hj rb
  rw [e, e']
  exact hop i j t t' Q E' (Option.some.inj h ▸ q)
theorem ofNone_rep {r : Option Bool} {b : AV} {c : Bool} {vb : Value} {h : Heap} (rb : RepV Z h vb b) (e : ofNone r b = some c) : vb = .none ∧ r = some c := by
  cases b with
  | none => exact ⟨rb.none', e⟩
  | _ => cases e
theorem inA_ok {a b : AV} {c : Bool} {va vb : Value} (ra : RepV Z s.heap va a) (rb : RepV Z s.heap vb b) (h : inA a b = some c) {Q : Value → Shared → Prop} {E' : Value → Shared → Prop} (q : Q (.bool c) s) : wpAny W.M A (compareOp .In va vb) Q E' s := by
  cases a with
  | str y =>
    obtain ⟨x, hx, h⟩ := bindO h
    obtain ⟨t, e⟩ := ra.str'; obtain ⟨t', e'⟩ := str?_rep hx rb
    rw [e, e']
    cases h
    exact in_str q
  | int i =>
    obtain ⟨l, hl, h⟩ := bindO h
    obtain ⟨ns, hn, hc⟩ := Option.map_eq_some_iff.mp h
    obtain ⟨t, e⟩ := ra.int'; obtain ⟨a, vs, e', _, hl, rl⟩ := lst?_rep hl rb
    rw [e, e']
    exact in_ints hl (ints_rep rl hn) (hc ▸ q)
  | _ => cases h
theorem cmpA_ok (hr : Room A d) (I : Inv W Z s) {op : CmpOp} {a b : AV} {c : Bool} {va vb : Value} (ra : RepV Z s.heap va a) (rb : RepV Z s.heap vb b) (h : cmpA op a b = some c) {Q : Value → Shared → Prop} {E' : Value → Shared → Prop} (q : Q (.bool c) s) :
    wpAny W.M A (compareOp op va vb) Q E' s := by
  have hu := hr.ult
  cases op with
  | Eq => exact eq_rc (eqA_rc hu ra rb h).1 q
  | NotEq =>
    obtain ⟨c', hc, e⟩ := Option.map_eq_some_iff.mp h
    exact ne_rc (eqA_rc hu ra rb hc).2 (e ▸ q)
  | Lt => exact cmp_ints (fun _ _ _ _ _ _ q => lt_int q) ra rb h q
  | LtE => exact cmp_ints (fun _ _ _ _ _ _ q => le_int q) ra rb h q
  | Gt => exact cmp_ints (fun _ _ _ _ _ _ q => gt_int q) ra rb h q
  | GtE => exact cmp_ints (fun _ _ _ _ _ _ q => ge_int q) ra rb h q
  | Is => obtain ⟨e, h⟩ := ofNone_rep rb h; rw [e]; exact is_none (by rw [isNone_rep ra h]; exact q)
  | IsNot =>
    obtain ⟨e, h⟩ := ofNone_rep rb h
    obtain ⟨c', hc, e'⟩ := Option.map_eq_some_iff.mp h
    rw [e]
    subst e'
    exact isNot_none (by rw [isNone_rep ra hc]; exact q)
  | NotIn =>
    obtain ⟨y, hy, h⟩ := bindO h
    obtain ⟨x, hx, h⟩ := bindO h
    obtain ⟨t, e⟩ := str?_rep hy ra; obtain ⟨t', e'⟩ := str?_rep hx rb
    rw [e, e']
    cases h
    exact notIn_str q
  | In => exact inA_ok ra rb h q
theorem den_cmp {l r : Expr} {op : CmpOp} {pos : Pos} {f g : Slots → Option AV} (hl : DenP W d sc l f) (hr : DenP W d sc r g) (hm : behindInMarks op r = false) :
    DenP W d sc (.Compare l [op] [r] pos) fun ρ => f ρ >>= fun a => g ρ >>= fun b => (cmpA op a b).map .bool := by
  intro A env Z s ρ α av R hE I L hf Q E' q
  obtain ⟨a, ha, hf⟩ := bindO hf
  obtain ⟨b, hb, hf⟩ := bindO hf
  obtain ⟨c, hc, rfl⟩ := Option.map_eq_some_iff.mp hf
  exact wpAny_Compare1 (hl A env Z s ρ α a R hE I L ha _ _ fun va s₁ Z₁ p₁ r₁ => hr A env Z₁ s₁ ρ α b R hE p₁.inv (L.step0 p₁) hb _ _ fun vb s₂ Z₂ p₂ r₂ =>
    cmpA_ok R p₂.inv (p₂.rep0 r₁) r₂ hc (q _ s₂ Z₂ (p₁.tr p₂) (.bool c))) hm
theorem denT_cmp {l r : Expr} {op : CmpOp} {pos : Pos} {f g : Slots → Option AV} (hl : DenP W d sc l f) (hr : DenP W d sc r g) (hm : behindInMarks op r = false) :
    DenT W d sc (.Compare l [op] [r] pos) fun ρ => f ρ >>= fun a => g ρ >>= fun b => cmpA op a b := by
  intro A env Z s ρ α av R hE I L hf Q E' q
  obtain ⟨a, ha, hf⟩ := bindO hf
  obtain ⟨b, hb, hf⟩ := bindO hf
  exact wpAny_isTrue_Compare1 (hl A env Z s ρ α a R hE I L ha _ _ fun va s₁ Z₁ p₁ r₁ => hr A env Z₁ s₁ ρ α b R hE p₁.inv (L.step0 p₁) hb _ _ fun vb s₂ Z₂ p₂ r₂ =>
    cmpA_ok R p₂.inv (p₂.rep0 r₁) r₂ hf (wpAny_truthy_bool (q s₂ Z₂ (p₁.tr p₂)))) hm
noncomputable def truthA : AV → Option Bool
  | .none => some false
  | .bool b => some b
  | .int i => some (i != 0)
  | .str x => if x.length ≤ 16777216 then some (x.length != 0) else none
  | .lst l => if l.length ≤ 16777216 then some (!l.isEmpty) else none
  | _ => none
theorem truthA_ok (I : Inv W Z s) {a : AV} {v : Value} {b : Bool} (r : RepV Z s.heap v a) (h : truthA a = some b) : GivesB W A Z s (truthy v) b := by
  intro Q E' q
  cases a with
  | none => cases h; rw [r.none']; exact fun _ _ _ => q s Z (.id I)
  | bool b => cases h; rw [r.bool']; exact wpAny_truthy_bool (q s Z (.id I))
  | int i => cases h; obtain ⟨t, rfl⟩ := r.int'; exact truthy_int (q s Z (.id I))
  | str x =>
    obtain ⟨hx, h⟩ := iteO h; cases h
    obtain ⟨t, rfl⟩ := r.str'
    refine P.truthy_str (by (first | lia | omega)) ?_
    have : ((x.length : Int) != 0) = (x.length != 0) := by
      rw [Bool.eq_iff_iff]; simp
    rw [this]; exact q _ Z (.toks I _)
  | lst l =>
    obtain ⟨hl, h⟩ := iteO h; cases h
    obtain ⟨a, vs, rfl, z, hl', rl⟩ := r.lst'
    refine wpAny_truthy_list hl' (by rw [List.size_toArray, rl.length]; (first | lia | omega)) ?_
    have e : vs.toArray.isEmpty = l.isEmpty := by
      cases l with
      | nil => rw [rl.nil']; rfl
      | cons a l => obtain ⟨v, ws, rfl, _⟩ := rl.cons'; rfl
    rw [e]; exact q _ Z (.toks I _)
  | _ => cases h
theorem denT_val {e : Expr} {f : Slots → Option AV} (hl : DenP W d sc e f) (he : ∀ env whole, isTrue e env whole = (do let v ← whole; standAt e.pos; holding [v] (truthy v))) :
    DenT W d sc e fun ρ => f ρ >>= truthA := by
  intro A env Z s ρ α av R hE I L hf Q E' q
  obtain ⟨a, ha, hf⟩ := bindO hf
  exact wpAny_isTrue_value (hl A env Z s ρ α a R hE I L ha _ _ fun va s₁ Z₁ p₁ r₁ => truthA_ok p₁.inv r₁ hf _ _ fun s₂ Z₂ p₂ => q s₂ Z₂ (p₁.tr p₂)) (he _ _)
theorem denT_not {x : Expr} {pos : Pos} {f : Slots → Option Bool} (hx : DenT W d sc x f) : DenT W d sc (.UnaryOp .Not x pos) fun ρ => (f ρ).map (!·) := by
  intro A env Z s ρ α av R hE I L hf Q E' q
  obtain ⟨b, hb, rfl⟩ := Option.map_eq_some_iff.mp hf
  exact wpAny_isTrue_Not (hx A env Z s ρ α b R hE I L hb _ _ fun s₁ Z₁ p₁ => q s₁ Z₁ p₁)
noncomputable def DenTs (W : Wd) (d : Nat) (sc : Scope) (op : BoolOp) (es : List Expr) (f : Slots → Option Bool) : Prop :=
  ∀ (A : Around) (env : Env) (Z : AddrSet) (s : Shared) (ρ : Slots) (α : Str → Addr) (b : Bool), Room A d → EnvOk env sc → Inv W Z s → Loc W Z s.heap env ρ α → f ρ = some b → GivesB W A Z s (allTrue op es env) b
theorem denTs_and0 : DenTs W d sc .And [] fun _ => some true := by
  intro A env Z s ρ α av R hE I L hf Q E' q; cases hf; exact wpAny_allTrue_And_nil (q s Z (.id I))
theorem denTs_or0 : DenTs W d sc .Or [] fun _ => some false := by
  intro A env Z s ρ α av R hE I L hf Q E' q; cases hf; exact wpAny_allTrue_Or_nil (q s Z (.id I))
theorem denTs_and {x : Expr} {rest : List Expr} {f g : Slots → Option Bool} (hx : DenT W d sc x f) (hr : DenTs W d sc .And rest g) : DenTs W d sc .And (x :: rest) fun ρ => f ρ >>= fun b => if b = true then g ρ else some false := by
  intro A env Z s ρ α av R hE I L hf Q E' q
  obtain ⟨b, hb, hf⟩ := bindO hf
  refine wpAny_allTrue_And_cons (hx A env Z s ρ α b R hE I L hb _ _ fun s₁ Z₁ p₁ => ?_)
  cases b with
  | true => exact hr A env Z₁ s₁ ρ α av R hE p₁.inv (L.step0 p₁) hf _ _ fun s₂ Z₂ p₂ => q s₂ Z₂ (p₁.tr p₂)
  | false => cases hf; exact q s₁ Z₁ p₁
theorem denTs_or {x : Expr} {rest : List Expr} {f g : Slots → Option Bool} (hx : DenT W d sc x f) (hr : DenTs W d sc .Or rest g) : DenTs W d sc .Or (x :: rest) fun ρ => f ρ >>= fun b => if b = true then some true else g ρ := by
  intro A env Z s ρ α av R hE I L hf Q E' q
  obtain ⟨b, hb, hf⟩ := bindO hf
  refine wpAny_allTrue_Or_cons (hx A env Z s ρ α b R hE I L hb _ _ fun s₁ Z₁ p₁ => ?_)
  cases b with
  | true => cases hf; exact q s₁ Z₁ p₁
  | false => exact hr A env Z₁ s₁ ρ α av R hE p₁.inv (L.step0 p₁) hf _ _ fun s₂ Z₂ p₂ => q s₂ Z₂ (p₁.tr p₂)
theorem denT_bool {op : BoolOp} {es : List Expr} {pos : Pos} {f : Slots → Option Bool} (h : DenTs W d sc op es f) : DenT W d sc (.BoolOp op es pos) f := by
  intro A env Z s ρ α av R hE I L hf Q E' q
  exact wpAny_isTrue_BoolOp (h A env Z s ρ α av R hE I L hf _ _ q)
theorem den_ite {t b o : Expr} {pos : Pos} {c : Slots → Option Bool} {f g : Slots → Option AV} (ht : DenT W d sc t c) (hb : DenP W d sc b f) (ho : DenP W d sc o g) :
    DenP W d sc (.IfExp t b o pos) fun ρ => c ρ >>= fun x => if x = true then f ρ else g ρ := by
  intro A env Z s ρ α av R hE I L hf Q E' q
  obtain ⟨x, hx, hf⟩ := bindO hf
  refine wpAny_IfExp (ht A env Z s ρ α x R hE I L hx _ _ fun s₁ Z₁ p₁ => ?_)
  cases x with
  | true => exact hb A env Z₁ s₁ ρ α av R hE p₁.inv (L.step0 p₁) hf _ _ fun v s₂ Z₂ p₂ r₂ => q v s₂ Z₂ (p₁.tr p₂) r₂
  | false => exact ho A env Z₁ s₁ ρ α av R hE p₁.inv (L.step0 p₁) hf _ _ fun v s₂ Z₂ p₂ r₂ => q v s₂ Z₂ (p₁.tr p₂) r₂
noncomputable def negA (a : AV) : Option AV := a.int? >>= fun i => some (.int (-i))
theorem den_neg {x : Expr} {pos : Pos} {f : Slots → Option AV} (hx : DenP W d sc x f) : DenP W d sc (.UnaryOp .USub x pos) fun ρ => f ρ >>= negA := by
  intro A env Z s ρ α av R hE I L hf Q E' q
  obtain ⟨a, ha, hf⟩ := bindO hf
  refine wpAny_UnaryOp (hx A env Z s ρ α a R hE I L ha _ _ fun va s₁ Z₁ p₁ r₁ => ?_)
  obtain ⟨i, hi, hf⟩ := bindO hf
  cases hf; obtain ⟨t, rfl⟩ := int?_rep hi r₁; exact neg_int (q _ _ Z₁ (p₁.tr (.toks p₁.inv _)) (.int _ _))
end
end Mine
end
section
set_option linter.unusedVariables false
namespace Mine
section
variable {W : Wd} {Z Z' Z₁ : AddrSet} {s s' s₁ : Shared} {env : Env} {sc : Scope} {ρ : Slots} {α : Str → Addr} {A : Around} {d : Nat}
noncomputable def itemL {β : Type} (l : List β) (k : Int) : Option β := if 0 ≤ k then l[k.toNat]? else if -(l.length : Int) ≤ k then l[(k + l.length).toNat]? else none
noncomputable def sign1 (c : Nat) : Str := ⟨#[c]⟩
noncomputable def idxA : AV → AV → Option AV
  | .lst l, i => i.int? >>= fun k => if -1000000000 < k ∧ k < 1000000000 then itemL l k else none
  | .tup l, i => i.int? >>= fun k => if -1000000000 < k ∧ k < 1000000000 then itemL l k else none
  | .str x, i => i.int? >>= fun k => if -1000000000 < k ∧ k < 1000000000 then (itemL x.cps.toList k).map fun c => .str (sign1 c) else none
  | _, _ => none
theorem idxA_lst (l : List AV) (k : Int) : idxA (.lst l) (.int k) = if -1000000000 < k ∧ k < 1000000000 then itemL l k else none := rfl
theorem itemL_seq {β : Type} {l : List β} {k : Int} {b : β} (h : itemL l k = some b) : ∃ j, seqIndex? k l.length = some j ∧ l[j]? = some b := by
  unfold itemL at h
  unfold seqIndex?
  split at h
  · rename_i h0
    have hlt : k.toNat < l.length := by
      rcases Nat.lt_or_ge k.toNat l.length with e | e
      · exact e
      · rw [List.getElem?_eq_none e] at h; cases h
    refine ⟨k.toNat, ?_, h⟩
    have n0 : ¬ k < 0 := by (first | lia | omega)
    simp only [n0, if_false]
    have : (decide (0 ≤ k) && decide (k < (l.length : Int))) = true := by simp; (first | lia | omega)
    rw [if_pos this]
  · split at h
    · rename_i h0 h1
      have n0 : k < 0 := by (first | lia | omega)
      have hlt : (k + l.length).toNat < l.length := by (first | lia | omega)
      refine ⟨(k + l.length).toNat, ?_, h⟩
      simp only [n0, if_true]
      have : (decide (0 ≤ k + (l.length : Int)) && decide (k + (l.length : Int) < (l.length : Int))) = true := by simp; (first | lia | omega)
      rw [if_pos this]
    · cases h
theorem list_item_gives (I : Inv W Z s) {a : Addr} {vs : List Value} {l : List AV} {k : Int} {t : Tok} {av : AV} (hl : s.heap.IsList a vs.toArray) (rl : RepVs Z s.heap vs l) (hk : -1000000000 < k ∧ k < 1000000000) (h : itemL l k = some av) :
    ∃ v, RepV Z s.heap v av ∧ ∀ (Q : Value → Shared → Prop) E', Q v s → wpAny W.M A (getItem (.ref a) (.int k t)) Q E' s := by
  unfold itemL at h
  split at h
  · rename_i h0
    obtain ⟨v, hv, r⟩ := rl.get h
    exact ⟨v, r, fun Q E' q => wpAny_getItem_list hl h0 (by (first | lia | omega)) (by simpa using hv) q⟩
  · split at h
    · rename_i h0 h1
      obtain ⟨v, hv, r⟩ := rl.get h
      refine ⟨v, r, fun Q E' q => wpAny_getItem_list_neg hl (by (first | lia | omega)) (by simp only [List.size_toArray, rl.length]; exact h1) (by (first | lia | omega)) ?_ q⟩
      simp only [List.size_toArray, rl.length]
      simpa using hv
    · cases h
theorem idxA_ok (I : Inv W Z s) {value slice : Expr} {o i r : AV} {vo vi : Value} (ro : RepV Z s.heap vo o) (ri : RepV Z s.heap vi i) (h : idxA o i = some r)
    (hs : ∀ o i, subscripted slice false o i = operate [o, i] (getItem o i)) : Gives W A Z s (subscriptTail value slice vo vi) r := by
  intro Q E' q
  cases o with
  | lst l =>
    obtain ⟨k, hk', h⟩ := bindO h; obtain ⟨hk, h⟩ := iteO h
    obtain ⟨a, vs, rfl, z, hl, rl⟩ := ro.lst'; obtain ⟨t, rfl⟩ := int?_rep hk' ri
    obtain ⟨v, rv, g⟩ := list_item_gives (W := W) (A := A) I hl rl hk h
    exact tail_any hl.typeIs slot_list_getitem.lookup (g _ _ (q v s Z (.id I) rv)) (hs _ _)
  | tup l =>
    obtain ⟨k, hk', h⟩ := bindO h; obtain ⟨hk, h⟩ := iteO h
    obtain ⟨a, vs, rfl, z, ht, rl⟩ := ro.tup'; obtain ⟨t, rfl⟩ := int?_rep hk' ri
    obtain ⟨j, hj, hx⟩ := itemL_seq h
    obtain ⟨v, hv, rv⟩ := rl.get hx
    exact tail_any (T := "tuple") (let ⟨o, e, c, _⟩ := ht; ⟨o, e, c⟩) slot_tuple_getitem.lookup (PyProof.Rows.getItem_tuple ht (by (first | lia | omega)) (by (first | lia | omega)) (by rw [List.size_toArray, rl.length]; exact hj) (by rw [List.getElem?_toArray]; exact hv) (q v s Z (.id I) rv)) (hs _ _)
  | str x =>
    obtain ⟨k, hk', h⟩ := bindO h; obtain ⟨hk, h⟩ := iteO h
    obtain ⟨t, rfl⟩ := ro.str'; obtain ⟨u, rfl⟩ := int?_rep hk' ri
    obtain ⟨c, hc, rfl⟩ := Option.map_eq_some_iff.mp h
    obtain ⟨j, hj, hx⟩ := itemL_seq hc
    have e : Txt.charAt x k = some c := by
      unfold Txt.charAt
      rw [Array.length_toList] at hj
      show Option.bind (seqIndex? k x.cps.size) _ = _
      rw [hj]; rw [Array.getElem?_toList] at hx; exact hx
    have hf : fitsSsize k = true := by unfold fitsSsize; simp; (first | lia | omega)
    obtain ⟨T, id, hl, hT, hg⟩ := SB.item (prog := W.prog) (w := W.w) (A := A) (E := E') (s := s) (t := t) (u := u) hf (by rw [e]; rfl) (q _ _ Z (.toks I _) (by unfold Txt.item; rw [e]; exact .str _ _))
    exact tail_any hT hl hg (hs _ _)
  | _ => cases h
theorem den_idx {value slice : Expr} {pos : Pos} {f g : Slots → Option AV} (hv : DenP W d sc value f) (hi : DenP W d sc slice g) (hs : ∀ o i, subscripted slice false o i = operate [o, i] (getItem o i)) :
    DenP W d sc (.Subscript value slice pos) fun ρ => f ρ >>= fun o => g ρ >>= fun i => idxA o i := by
  intro A env Z s ρ α av R hE I L hf Q E' q
  obtain ⟨a, ha, hf⟩ := bindO hf
  obtain ⟨b, hb, hf⟩ := bindO hf
  exact Subscript_ (hv A env Z s ρ α a R hE I L ha _ _ fun va s₁ Z₁ p₁ r₁ => hi A env Z₁ s₁ ρ α b R hE p₁.inv (L.step0 p₁) hb _ _ fun vb s₂ Z₂ p₂ r₂ =>
    idxA_ok p₂.inv (p₂.rep0 r₁) r₂ hf hs _ _ fun v s₃ Z₃ p₃ r₃ => q v s₃ Z₃ (p₁.tr (p₂.tr p₃)) r₃)
-- slices
noncomputable def cutL {β : Type} (l : List β) (lo hi : Option Int) : List β := (l.drop (lo.elim 0 (clipAt l.length))).take (hi.elim l.length (clipAt l.length) - lo.elim 0 (clipAt l.length))
noncomputable def cutS (x : Str) (lo hi : Option Int) : Str := ⟨(cutL x.cps.toList lo hi).toArray⟩
noncomputable def asInt : AV → Option Int
  | .int i => some i
  | _ => none
noncomputable def cutA : AV → Option Int → Option Int → Option AV
  | .lst l, lo, hi => if l.length ≤ 16777216 then some (.lst (cutL l lo hi)) else none
  | .str x, lo, hi => if x.length ≤ 16777216 then some (.str (cutS x lo hi)) else none
  | _, _, _ => none
noncomputable def DenPart (W : Wd) (d : Nat) (sc : Scope) (x : Option Expr) (g : Slots → Option (Option Int)) : Prop :=
  ∀ (A : Around) (env : Env) (Z : AddrSet) (s : Shared) (ρ : Slots) (α : Str → Addr) (oi : Option Int), Room A d → EnvOk env sc → Inv W Z s → Loc W Z s.heap env ρ α → g ρ = some oi →
    ∀ (Q : Value → Shared → Prop) E', (∀ v s' Z', Step W .none Z s Z' s' → IsPart v oi → Q v s') → wpAny W.M A (evalPart x env) Q E' s
theorem part_none : DenPart W d sc none fun _ => some none := by
  intro A env Z s ρ α oi R hE I L hf Q E' q; cases hf; exact wpAny_pure (q _ s Z (.id I) .none)
theorem part_some {e : Expr} {f : Slots → Option AV} (h : DenP W d sc e f) : DenPart W d sc (some e) fun ρ => f ρ >>= fun a => (asInt a).map some := by
  intro A env Z s ρ α oi R hE I L hf Q E' q
  obtain ⟨a, ha, hf⟩ := bindO hf
  obtain ⟨i, hi, rfl⟩ := Option.map_eq_some_iff.mp hf
  refine h A env Z s ρ α a R hE I L ha _ _ fun v s₁ Z₁ p r => q v s₁ Z₁ p ?_
  unfold asInt at hi
  split at hi
  · cases hi; cases r; exact .int _ _
  · cases hi
theorem part_of {v : Value} {oi : Option Int} (p : IsPart v oi) : ∃ l : Option (Int × Tok), v = partValue l ∧ l.map (·.1) = oi := by
  cases p with
  | none => exact ⟨none, rfl, rfl⟩
  | int i t => exact ⟨some (i, t), rfl, rfl⟩
theorem strSlice_plain (x : Str) (lo hi : Option Int) : ((Builtin.Str.strSliceIndices lo hi 1 x.length).filterMap (x.cps[·]?)) = cutL x.cps.toList lo hi := by
  have h : Builtin.Str.strSliceIndices lo hi 1 x.length = sliceRange (sliceBounds lo hi none x.length).1 (sliceBounds lo hi none x.length).2.1 (sliceBounds lo hi none x.length).2.2 := by
    unfold Builtin.Str.strSliceIndices sliceBounds
    rfl
  rw [h, sliceBounds_plain]
  simp only [sliceRange_one, pick_run]
  unfold cutL
  simp [Str.length]
theorem cutL_length_le {β : Type} (l : List β) (lo hi : Option Int) : (cutL l lo hi).length ≤ l.length := by
  unfold cutL; exact Nat.le_trans (List.length_take_le' _ _) (by rw [List.length_drop]; exact Nat.sub_le _ _)
theorem RepVs.cut {h : Heap} {vs : List Value} {l : List AV} (r : RepVs Z h vs l) (lo hi : Option Int) : RepVs Z h (cutL vs lo hi) (cutL l lo hi) := by
  unfold cutL; rw [r.length]; exact (r.drop _).take _
theorem cut_all {x : Str} {lo hi : Option Int} (hlen : (Builtin.Str.strSliceIndices lo hi 1 x.length).length = x.length) : cutS x lo hi = x := by
  have hb : Builtin.Str.strSliceIndices lo hi 1 x.length = (List.range (hi.elim x.length (clipAt x.length) - lo.elim 0 (clipAt x.length))).map (lo.elim 0 (clipAt x.length) + ·) := by
    have h : Builtin.Str.strSliceIndices lo hi 1 x.length = sliceRange (sliceBounds lo hi none x.length).1 (sliceBounds lo hi none x.length).2.1 (sliceBounds lo hi none x.length).2.2 := by
      unfold Builtin.Str.strSliceIndices sliceBounds; rfl
    rw [h, sliceBounds_plain]
    simp only [sliceRange_one]
  rw [hb, List.length_map, List.length_range] at hlen
  have hcl : ∀ i, clipAt x.length i ≤ x.length := fun i => Int.toNat_le.mpr (Int.max_le.mpr ⟨Int.natCast_nonneg _, Int.min_le_right _ _⟩)
  have hhi : hi.elim x.length (clipAt x.length) ≤ x.length := by
    cases hi with
    | none => exact Nat.le_refl _
    | some i => exact hcl i
  have hL : x.cps.toList.length = x.length := rfl
  unfold cutS cutL
  rw [hL]
  generalize hi.elim x.length (clipAt x.length) = u at *
  generalize lo.elim 0 (clipAt x.length) = l at *
  have h0 : l = 0 ∨ x.length = 0 := by
    rcases Nat.eq_zero_or_pos l with h | h
    · exact .inl h
    · rcases Nat.eq_zero_or_pos u with hu | hu
      · exact .inr (by rw [← hlen, hu, Nat.zero_sub])
      · exact absurd hlen (Nat.ne_of_lt (Nat.lt_of_lt_of_le (Nat.sub_lt hu h) hhi))
  rcases h0 with h0 | h0
  · rw [h0, List.drop_zero, List.take_of_length_le (by rw [hL]; (first | lia | omega))]
  · have : x.cps.toList = [] := List.length_eq_zero_iff.mp (hL.trans h0)
    rw [this, List.drop_nil, List.take_nil, ← this]
theorem cut_gives (I : Inv W Z s) {o r : AV} {vo : Value} {lo hi : Option Int} {sl : Addr} {vl vu : Value} {value slice : Expr} (ro : RepV Z s.heap vo o) (h : cutA o lo hi = some r) (pl : IsPart vl lo) (pu : IsPart vu hi) (hsl : s.heap.IsSliceOf sl vl vu .none)
    (hs : ∀ o i, subscripted slice false o i = operate [i, o] (getItem o i)) : Gives W A Z s (subscriptTail value slice vo (.ref sl)) r := by
  cases o with
  | lst l =>
    obtain ⟨hz, h⟩ := iteO h; cases h
    obtain ⟨a, vs, rfl, z, hl, rl⟩ := ro.lst'
    have e : slicePick vs.toArray lo hi none = (cutL vs lo hi).toArray := by
      rw [slicePick_plain]; unfold cutL; simp
    refine .newLst (n := 0) I (rl.cut lo hi) fun Q E' q => tail_any hl.typeIs slot_list_getitem.lookup (wpAny_getItem_list_slice hl hsl pl pu .none (by intro c; cases c) ?_ (by rw [List.size_toArray, rl.length, sizeLine]; exact hz)) (hs _ _)
    rw [e]; exact q s.toks
  | str x =>
    obtain ⟨hz, h⟩ := iteO h; cases h
    obtain ⟨t, rfl⟩ := ro.str'
    obtain ⟨l, rfl, e1⟩ := part_of pl
    obtain ⟨u, rfl, e2⟩ := part_of pu
    refine .val I fun Q E' q => tail_any (T := "str") (typeIs_str s x t) F.slot_str_getitem.lookup (wpAny_getItem_str_slice (st := none) hsl rfl ?_) (hs _ _)
    unfold sliceMade slicePicked
    rw [e1, e2]
    simp only [Option.map_none, Option.getD_none]
    rw [strSlice_plain x lo hi]
    split
    · rename_i hc
      rw [cut_all (by simpa using hc)] at q
      exact q _ s.toks (.str _ _)
    · refine ⟨?_, q _ _ (.str _ _)⟩
      have : (cutL x.cps.toList lo hi).length ≤ x.length := cutL_length_le x.cps.toList lo hi
      exact Nat.le_trans this hz
  | _ => cases h
theorem den_cut {value : Expr} {lo hi : Option Expr} {p pos : Pos} {f : Slots → Option AV} {g h : Slots → Option (Option Int)} (hv : DenP W d sc value f) (hl : DenPart W d sc lo g) (hh : DenPart W d sc hi h) :
    DenP W d sc (.Subscript value (.Slice lo hi none p) pos) fun ρ => f ρ >>= fun o => g ρ >>= fun i => h ρ >>= fun j => cutA o i j := by
  intro A env Z s ρ α av R hE I L hf Q E' q
  obtain ⟨a, ha, hf⟩ := bindO hf
  obtain ⟨i, hi, hf⟩ := bindO hf
  obtain ⟨j, hj, hf⟩ := bindO hf
  refine Subscript_ (hv A env Z s ρ α a R hE I L ha _ _ fun va s₁ Z₁ p₁ r₁ => wpAny_Slice (hl A env Z₁ s₁ ρ α i R hE p₁.inv (L.step0 p₁) hi _ _ fun vl s₂ Z₂ p₂ q₂ =>
    hh A env Z₂ s₂ ρ α j R hE p₂.inv ((L.step0 p₁).step0 p₂) hj _ _ fun vu s₃ Z₃ p₃ q₃ => ?_))
  have p₄ : Step W .none Z₃ s₃ Z₃ { s₃ with heap := s₃.heap.push { cls := .type "slice", data := .fields #[vl, vu, .none] } } := .grow p₃.inv (tk := s₃.toks) (push_keep _ _)
  refine wpAny_pure ?_
  exact cut_gives p₄.inv (p₄.rep0 (p₃.rep0 (p₂.rep0 r₁))) hf q₂ q₃ (Heap.IsSliceOf.new _ _ _ _) (fun _ _ => rfl) _ _ fun v s₅ Z₅ p₅ r₅ => q v s₅ Z₅ (p₁.tr (p₂.tr (p₃.tr (p₄.tr p₅)))) r₅
noncomputable def DenPs (W : Wd) (d : Nat) (sc : Scope) (es : List Expr) (f : Slots → Option (List AV)) : Prop :=
  ∀ (A : Around) (env : Env) (Z : AddrSet) (s : Shared) (ρ : Slots) (α : Str → Addr) (l : List AV), Room A d → EnvOk env sc → Inv W Z s → Loc W Z s.heap env ρ α → f ρ = some l →
    ∀ (pos : Pos) (Q : List Value → Shared → Prop) E', (∀ vs s' Z', Step W .none Z s Z' s' → RepVs Z' s'.heap vs l → Q vs s') → wpAny W.M A (spliced (backTo pos (starEach es env))) Q E' s
theorem denPs_nil : DenPs W d sc [] fun _ => some [] := by
  intro A env Z s ρ α l R hE I L hf pos Q E' q; cases hf; exact wpAny_items_nil (q [] s Z (.id I) .nil)
theorem denPs_cons {e : Expr} {rest : List Expr} {f : Slots → Option AV} {g : Slots → Option (List AV)} (he : DenP W d sc e f) (hr : DenPs W d sc rest g) (hs : ∀ env, starEach (e :: rest) env = (false, eval e env) :: starEach rest env) :
    DenPs W d sc (e :: rest) fun ρ => f ρ >>= fun a => g ρ >>= fun l => some (a :: l) := by
  intro A env Z s ρ α l R hE I L hf pos Q E' q
  obtain ⟨a, ha, hf⟩ := bindO hf
  obtain ⟨m, hm, hf⟩ := bindO hf
  cases hf
  exact wpAny_items_cons (he A env Z s ρ α a R hE I L ha _ _ fun v s₁ Z₁ p₁ r₁ => hr A env Z₁ s₁ ρ α m R hE p₁.inv (L.step0 p₁) hm pos _ _ fun vs s₂ Z₂ p₂ r₂ => q _ s₂ Z₂ (p₁.tr p₂) (.cons (p₂.rep0 r₁) r₂)) (hs env)
theorem den_list {es : List Expr} {pos : Pos} {f : Slots → Option (List AV)} (h : DenPs W d sc es f) : DenP W d sc (.List es pos) fun ρ => f ρ >>= fun l => if l.length ≤ 1000000 then some (.lst l) else none := by
  intro A env Z s ρ α av R hE I L hf Q E' q
  obtain ⟨l, hl, hf⟩ := bindO hf
  split at hf
  · cases hf
    refine List_ (h A env Z s ρ α l R hE I L hl pos _ _ fun vs s₁ Z₁ p₁ r₁ => ?_)
    refine (Gives.newLst (n := 0) p₁.inv r₁ fun Q E' q => wpAny_newObj_type (q _) ?_) _ _ fun v s₂ Z₂ p₂ r₂ => q v s₂ Z₂ (p₁.tr p₂) r₂
    show vs.toArray.size ≤ sizeLine
    rw [List.size_toArray, r₁.length]; unfold sizeLine; (first | lia | omega)
  · cases hf
theorem den_tuple {es : List Expr} {k : Nat} {pos : Pos} {f : Slots → Option (List AV)} (h : DenPs W d sc es f) : DenP W d sc (.Tuple es k pos) fun ρ => f ρ >>= fun l => if l.length ≤ 1000000 then some (.tup l) else none := by
  intro A env Z s ρ α av R hE I L hf Q E' q
  obtain ⟨l, hl, hf⟩ := bindO hf
  split at hf
  · cases hf
    refine Tuple_ (h A env Z s ρ α l R hE I L hl pos _ _ fun vs s₁ Z₁ p₁ r₁ => ?_)
    refine (Gives.newTup (n := 0) p₁.inv r₁ fun Q E' q => wpAny_newObj_type (q _) ?_) _ _ fun v s₂ Z₂ p₂ r₂ => q v s₂ Z₂ (p₁.tr p₂) r₂
    show vs.toArray.size ≤ sizeLine
    rw [List.size_toArray, r₁.length]; unfold sizeLine; (first | lia | omega)
  · cases hf
end
end Mine
end
section
set_option linter.unusedVariables false
namespace Mine
section
variable {W : Wd} {Z Z' Z₁ : AddrSet} {s s' s₁ : Shared} {env : Env} {sc : Scope} {ρ : Slots} {α : Str → Addr} {A : Around} {d : Nat}
noncomputable def FSpec (W : Wd) (d : Nat) (f : Value) (F : List AV → Option AV) : Prop :=
  ∀ (A : Around) (Z : AddrSet) (s : Shared) (vals : List Value) (args : List AV) (av : AV), Room A d → Inv W Z s → RepVs Z s.heap vals args → F args = some av → Gives W A Z s (call f vals) av
theorem RepVs.one {h : Heap} {vals : List Value} {a : AV} (r : RepVs Z h vals [a]) : ∃ v, vals = [v] ∧ RepV Z h v a := by
  cases r with | cons r1 r2 => cases r2; exact ⟨_, rfl, r1⟩
theorem RepVs.two {h : Heap} {vals : List Value} {a b : AV} (r : RepVs Z h vals [a, b]) : ∃ v w, vals = [v, w] ∧ RepV Z h v a ∧ RepV Z h w b := by
  cases r with | cons r1 r2 => obtain ⟨w, rfl, r⟩ := r2.one; exact ⟨_, w, rfl, r1, r⟩
noncomputable def KeepOk (W : Wd) (f : Value) : Prop := ∀ h, W.K.In h → ∃ k, (k = Keeper.frame ∨ k = Keeper.machine ∨ k = Keeper.boundFrame) ∧ Looks W.M h (keeperOf f) k
theorem keep_builtin (id : String) : KeepOk W (.builtin id) := fun _ _ => ⟨.machine, .inr (.inl rfl), .of_pure rfl⟩
theorem keep_type (T : String) : KeepOk W (.type T) := fun _ _ => ⟨.machine, .inr (.inl rfl), .of_pure rfl⟩
theorem keep_K {f : Value} (h : keepIn W.K f = true) : KeepOk W f := fun g X => keeps_K h g X
theorem evalArgs_ns {M : Model} {E' : Value → Shared → Prop} {f : Value} {args : List (Bool × Sem Value)} {Q : Args → Shared → Prop} (hn : args.any (·.1) = false)
    (h : wpAny M A (spliced args) (fun vs s' => Q ⟨vs, []⟩ s') E' s) : wpAny M A (evalArgs f true args []) Q E' s := by
  cases args with
  | nil =>
    unfold evalArgs
    show wpAny M A (spliced [] >>= _) Q E' s
    refine wpAny_bind (wpAny_mono h (fun vs s' h' => wpAny_bind (wpAny_pure ?_)) fun _ _ x => x)
    refine wpAny_holding ?_
    exact wpAny_bind (wpAny_pure (wpAny_bind (wpAny_pure (wpAny_pure h'))))
  | cons x r =>
    obtain ⟨b, x⟩ := x
    have hb : b = false := by
      cases b with
      | false => rfl
      | true => simp at hn
    subst hb
    exact Calls.evalArgs_plain h
theorem callWith_den {f : Value} {first : List Value} {pos : Pos} {es : List Expr} {fs : Slots → Option (List AV)} {l : List AV} (hk : KeepOk W f) (ha : DenPs W d sc es fs) (hn : ∀ env pos, (backTo pos (starEach es env)).any (·.1) = false)
    (R : Room A d) (hE : EnvOk env sc) (I : Inv W Z s) (L : Loc W Z s.heap env ρ α) (hl : fs ρ = some l) {Q : Value → Shared → Prop} {E' : Value → Shared → Prop}
    (q : ∀ vs s₁ Z₁, Step W .none Z s Z₁ s₁ → RepVs Z₁ s₁.heap vs l → wpAny W.M A (call f (first ++ vs)) Q E' s₁) :
    wpAny W.M A (callWith pos f first (backTo pos (starEach es env)) []) Q E' s := by
  refine callWith_of (P := W.K.In) (by rw [hn]; rfl) hk (evalArgs_ns (hn _ _) (ha A env Z s ρ α l R hE I L hl pos _ _ fun vs s₁ Z₁ p r => ⟨p.inv.kin, q vs s₁ Z₁ p r⟩))
theorem den_call {x : Str} {np pos : Pos} {es : List Expr} {v : Value} {fs : Slots → Option (List AV)} {F : List AV → Option AV} (hg : W.Glob x v) (hk : sc.names.lookup x = some .globalImplicit) (h1 : (x == ("__debug__" : Str)) = false)
    (hko : KeepOk W v) (ha : DenPs W d sc es fs) (hn : ∀ env pos, (backTo pos (starEach es env)).any (·.1) = false) (hF : FSpec W d v F) : DenP W d sc (.Call (.Name x np) es [] pos) fun ρ => fs ρ >>= F := by
  intro A env Z s ρ α av R hE I L hf Q E' q
  obtain ⟨l, hl, hf⟩ := bindO hf
  show wpAny _ _ (do callWith pos (← eval (.Name x np) env) [] (backTo pos (starEach es env)) (backToKw pos (keywordEach [] env))) _ _ _
  refine wpAny_bind (load_glob hE I hg hk h1 (callWith_den hko ha hn R hE I L hl fun vs s₁ Z₁ p r => hF A Z₁ s₁ vs l av R p.inv r hf _ _ fun v s₂ Z₂ p₂ r₂ => q v s₂ Z₂ (p.tr p₂) r₂))
-- built-in functions
noncomputable def arg1 (l : List AV) (f : AV → Option AV) : Option AV := match l with | [a] => f a | _ => none
noncomputable def arg2 (l : List AV) (f : AV → AV → Option AV) : Option AV := match l with | [a, b] => f a b | _ => none
theorem arg1_rep {h : Heap} {vals : List Value} {l : List AV} {f : AV → Option AV} {c : AV} (e : arg1 l f = some c) (r : RepVs Z h vals l) : ∃ a v, vals = [v] ∧ RepV Z h v a ∧ f a = some c := by
  cases l with
  | nil => cases e
  | cons a l =>
    cases l with
    | nil => obtain ⟨v, ws, rfl, r1, rs⟩ := r.cons'; rw [rs.nil']; exact ⟨a, v, rfl, r1, e⟩
    | cons => cases e
theorem arg2_rep {h : Heap} {vals : List Value} {l : List AV} {f : AV → AV → Option AV} {c : AV} (e : arg2 l f = some c) (r : RepVs Z h vals l) : ∃ a b v w, vals = [v, w] ∧ RepV Z h v a ∧ RepV Z h w b ∧ f a b = some c := by
  cases l with
  | nil => cases e
  | cons a l =>
    cases l with
    | nil => cases e
    | cons b l =>
      cases l with
      | nil => obtain ⟨v, ws, rfl, r1, rs⟩ := r.cons'; obtain ⟨w, ws, rfl, r2, rs⟩ := rs.cons'; rw [rs.nil']; exact ⟨a, b, v, w, rfl, r1, r2, e⟩
      | cons => cases e
noncomputable def len1 : AV → Option AV
  | .str x => if x.length ≤ 16777216 then some (.int x.length) else none
  | .lst l => if l.length ≤ 16777216 then some (.int l.length) else none
  | _ => none
noncomputable def lenF (l : List AV) : Option AV := arg1 l len1
theorem spec_len : FSpec W d (.builtin "len") lenF := by
  intro A Z s vals args av R I r h
  obtain ⟨a, v, rfl, r1, h⟩ := arg1_rep h r
  cases a with
  | str x =>
    obtain ⟨hx, h⟩ := iteO h; cases h
    obtain ⟨t, rfl⟩ := r1.str'
    exact .val I fun Q E' q => len_str (by (first | lia | omega)) (q _ _ (.int _ _))
  | lst l =>
    obtain ⟨hx, h⟩ := iteO h; cases h
    obtain ⟨a, vs, rfl, z, hl, rl⟩ := r1.lst'
    have e : vs.toArray.size = l.length := rl.length
    refine .val I fun Q E' q => len_list hl (by (first | lia | omega)) ?_
    rw [e]
    exact q _ _ (.int _ _)
  | _ => cases h
noncomputable def absF (l : List AV) : Option AV := arg1 l fun a => a.int? >>= fun i => some (.int (if i < 0 then -i else i))
theorem spec_abs : FSpec W d (.builtin "abs") absF := by
  intro A Z s vals args av R I r h
  obtain ⟨a, v, rfl, r1, h⟩ := arg1_rep h r
  obtain ⟨i, hi, h⟩ := bindO h
  cases h
  obtain ⟨t, rfl⟩ := int?_rep hi r1
  exact .val I fun Q E' q => call_abs_int fun u tk => q _ _ (.int _ _)
noncomputable def ints2 (l : List AV) (f : Int → Int → Int) : Option AV := arg2 l fun a b => a.int? >>= fun i => b.int? >>= fun j => some (.int (f i j))
theorem ints2_rep {h : Heap} {vals : List Value} {l : List AV} {f : Int → Int → Int} {c : AV} (e : ints2 l f = some c) (r : RepVs Z h vals l) : ∃ i j t u, vals = [.int i t, .int j u] ∧ c = .int (f i j) := by
  obtain ⟨a, b, v, w, rfl, r1, r2, h⟩ := arg2_rep e r
  obtain ⟨i, hi, h⟩ := bindO h
  obtain ⟨j, hj, h⟩ := bindO h
  obtain ⟨t, rfl⟩ := int?_rep hi r1
  obtain ⟨u, rfl⟩ := int?_rep hj r2
  exact ⟨i, j, t, u, rfl, (Option.some.inj h).symm⟩
noncomputable def maxF (l : List AV) : Option AV := ints2 l fun a b => if b > a then b else a
theorem spec_max : FSpec W d (.builtin "max") maxF := by
  intro A Z s vals args av R I r h Q E' q
  obtain ⟨a, b, t, u, rfl, rfl⟩ := ints2_rep h r
  refine wpAny_with_toks (Nat.le_refl _) (max_two_ints R.handled fun h' tk hk => ?_)
  by_cases hc : b > a
  · rw [if_pos hc]; rw [if_pos hc] at q; exact fun (htk : s.toks ≤ tk) => q _ _ Z (.grow I hk htk) (.int _ _)
  · rw [if_neg hc]; rw [if_neg hc] at q; exact fun (htk : s.toks ≤ tk) => q _ _ Z (.grow I hk htk) (.int _ _)
noncomputable def strArg : AV → Option Str
  | .str x => some x
  | _ => none
theorem den_meth_str {o : Expr} {name : Str} {apos pos : Pos} {es : List Expr} {f : Slots → Option AV} {fs : Slots → Option (List AV)} {id : String} {F : List AV → Option AV} (ho : DenP W d sc o f)
    (hbase : ∀ env, attributeBase o name env (eval o env) = eval o env)
    (hfew : ∀ env, ((backTo pos (starEach es env)).all (fun x => !x.1) && (backToKw pos (keywordEach [] env)).all (fun x => x.1.isSome) && decide (es.length + ([] : List Keyword).length + (if ([] : List Keyword).isEmpty then 0 else 1) < 30)) = true)
    (hline : (apos.endLine == pos.line) = true) (slot : Slot "str" name id) (hty : typeOf (.builtin id) = pure (.type "method_descriptor")) (ha : DenPs W d sc es fs) (hn : ∀ env pos, (backTo pos (starEach es env)).any (·.1) = false)
    (hF : FSpec W d (.builtin id) F) : DenP W d sc (.Call (.Attribute o name apos) es [] pos) fun ρ => f ρ >>= fun a => strArg a >>= fun x => fs ρ >>= fun l => F (.str x :: l) := by
  intro A env Z s ρ α av R hE I L hf Q E' q
  obtain ⟨a, ha', hf⟩ := bindO hf
  obtain ⟨x, hx, hf'⟩ := bindO hf
  obtain ⟨l, hl, hf''⟩ := bindO hf'
  have : a = .str x := by unfold strArg at hx; split at hx <;> cases hx; rfl
  subst this
  refine wpAny_Call_method (hbase env) (hfew env) hline PySem.F.plainAttrs_str slot hty (ho A env Z s ρ α _ R hE I L ha' _ _ fun ov s₁ Z₁ p₁ r₁ => ?_)
  cases r₁
  rename_i t
  refine ⟨typeIs_str _ _ _, fun a e => (by cases e), ?_⟩
  exact callWith_den (first := [.str x t]) (keep_builtin id) ha hn R hE p₁.inv (L.step0 p₁) hl fun vs s₂ Z₂ p₂ r₂ => hF A Z₂ s₂ (.str x t :: vs) (.str x :: l) av R p₂.inv (.cons (.str x t) r₂) hf'' _ _ fun v s₃ Z₃ p₃ r₃ => q v s₃ Z₃ (p₁.tr (p₂.tr p₃)) r₃
noncomputable def countF (l : List AV) : Option AV := arg2 l fun a b => a.str? >>= fun x => b.str? >>= fun y => some (.int (Txt.count x y))
theorem strs2_rep {h : Heap} {vals : List Value} {l : List AV} {f : Str → Str → Option AV} {c : AV} (e : (arg2 l fun a b => a.str? >>= fun x => b.str? >>= fun y => f x y) = some c) (r : RepVs Z h vals l) : ∃ x y t u, vals = [.str x t, .str y u] ∧ f x y = some c := by
  obtain ⟨a, b, v, w, rfl, r1, r2, h⟩ := arg2_rep e r
  obtain ⟨i, hi, h⟩ := bindO h
  obtain ⟨j, hj, h⟩ := bindO h
  obtain ⟨t, rfl⟩ := str?_rep hi r1
  obtain ⟨u, rfl⟩ := str?_rep hj r2
  exact ⟨i, j, t, u, rfl, h⟩
theorem spec_count : FSpec W d (.builtin "str.count") countF := by
  intro A Z s vals args av R I r h
  obtain ⟨x, y, t, u, rfl, h⟩ := strs2_rep h r
  cases h
  exact .val I fun Q E' q => SC.count (q _ _ (.int _ _))
end
end Mine
end
section
set_option linter.unusedVariables false
namespace Mine
section
variable {W : Wd} {Z Z' Z₁ : AddrSet} {s s' s₁ : Shared} {env : Env} {sc : Scope} {ρ ρ' : Slots} {α α' : Str → Addr} {A : Around} {d : Nat}
theorem Loc.swap {y : Str} {l : OL} {l' : List AV} {vs' : List Value} (L : Loc W Z s.heap env ρ α) (hx : ρ y = some (.own l)) (p : Step W (.addrs (· = α y)) Z s Z' s') (hz : ¬ Z' (α y)) (hp : s'.heap.PlainList (α y) vs'.toArray) (r : RepVs Z' s'.heap vs' l') :
    FStep W env Z s ρ α Z' s' (ρ.set y (.own ⟨l.place, l'⟩)) α := by
  have fb : FOwn env ρ α (α y) := .inr (.inr ⟨y, l, hx, rfl⟩)
  have kz : ∀ c o, Z c → s.heap.get? c = some o → s'.heap.get? c = some o := fun c o z e => p.keep c o (fun q => L.nz _ fb (by rw [← show c = α y from q]; exact z)) e
  obtain ⟨m, ns, hv⟩ := L.ns
  obtain ⟨n₀, vs₀, hn₀⟩ : ∃ n vs, s.heap.get? (α y) = some { cls := .type "list", data := .seq vs n } := by
    obtain ⟨v, _, _, vs, ⟨n, hn⟩, _⟩ := hv y _ hx
    exact ⟨n, _, hn⟩
  have hloc : env.locals ≠ α y := fun q => by
    obtain ⟨o, es, ep, e, dd, _⟩ := ns
    rw [q, hn₀] at e; cases e; cases dd
  have hcell : ∀ c w, s.heap.IsCell c w → c ≠ α y := fun c w hc q => by
    obtain ⟨o, e, dd⟩ := hc
    rw [q, hn₀] at e; cases e; cases dd
  have hfo : ∀ b, FOwn env (ρ.set y (.own ⟨l.place, l'⟩)) α b → FOwn env ρ α b := by
    rintro b (rfl | ⟨z, hn, hz⟩ | ⟨z, m, hz, rfl⟩)
    · exact .inl rfl
    · exact .inr (.inl ⟨z, hn, hz⟩)
    · unfold Slots.set at hz
      by_cases e : z = y
      · rw [e]; exact fb
      · rw [if_neg e] at hz; exact .inr (.inr ⟨z, m, hz, rfl⟩)
  have sub : ∀ z m, (ρ.set y (.own ⟨l.place, l'⟩)) z = some (.own m) → ∃ m', ρ z = some (.own m') ∧ m.place = m'.place := fun z m hz => by
    unfold Slots.set at hz
    by_cases e : z = y
    · rw [if_pos e] at hz; cases hz; rw [e]; exact ⟨l, hx, rfl⟩
    · rw [if_neg e] at hz; exact ⟨m, hz, rfl⟩
  refine ⟨p.mono (fun a h => .inl (by rw [show a = α y from h]; exact fb)) fun _ h => h.elim, fun b f => .inl (hfo b f), ⟨⟨m, ?_, fun z sv hz => ?_⟩, fun b f z => ?_, fun b f => L.nb b (hfo b f), fun z m b hz hb => ?_, fun x z a b hx hz e => ?_, fun z c hc => ?_, L.cinj, fun c hc => p.zsub c (L.slf c hc)⟩⟩
  · obtain ⟨o, es, ep, e, rest⟩ := ns
    exact ⟨o, es, ep, p.keep _ _ (fun q => hloc q) e, rest⟩
  · unfold Slots.set at hz
    have am : ∀ v, At s.heap env m z v → At s'.heap env m z v := fun v a => a.mono fun w c o hc e => by
      obtain ⟨w, o', e', dd⟩ := L.cell w c hc
      exact p.keep c o (fun q => hcell c w ⟨o', e', dd⟩ q) e
    by_cases e : z = y
    · rw [if_pos e] at hz
      cases hz
      obtain ⟨v, a, hv', _⟩ := hv y _ hx
      subst e
      exact ⟨v, am v a, hv', vs', hp, r⟩
    · rw [if_neg e] at hz
      obtain ⟨v, a, rv⟩ := hv z sv hz
      refine ⟨v, am v a, ?_⟩
      cases sv with
      | val av => exact rv.mono p.zsub kz
      | own l'' =>
        obtain ⟨e1, vs, ⟨n, hn⟩, rs⟩ := rv
        exact ⟨e1, vs, ⟨n, p.keep _ _ (fun q => e (L.inj z y l'' l hz hx q)) hn⟩, rs.mono p.zsub kz⟩
  · by_cases hb : b = α y
    · exact hz (hb ▸ z)
    · rcases p.znew b z with h | h | h
      · exact L.nz b (hfo b f) h
      · exact hb h
      · obtain ⟨o, e⟩ := L.alive (hfo b f); rw [h] at e; cases e
  · obtain ⟨m1, h1, h2⟩ := sub z m hz
    exact L.fix z m1 b h1 (h2 ▸ hb)
  · obtain ⟨m1, h1, _⟩ := sub x a hx
    obtain ⟨m2, h2, _⟩ := sub z b hz
    exact L.inj x z m1 m2 h1 h2 e
  · obtain ⟨w, o, e, dd⟩ := L.cell z c hc; exact ⟨w, o, p.keep c o (fun q => hcell c w ⟨o, e, dd⟩ q) e, dd⟩
theorem Loc.upd {x : Str} {l : OL} {l' : List AV} {vs' : List Value} {h' : Heap} {tk : Nat} (I : Inv W Z s) (L : Loc W Z s.heap env ρ α) (hx : ρ x = some (.own l)) (hs : Heap.SameBut (α x) s.heap h') (hp : h'.PlainList (α x) vs'.toArray) (r : RepVs Z s.heap vs' l') (htk : s.toks ≤ tk := by first | exact Nat.le_refl _ | exact Nat.le_add_right _ _ | assumption | (first | lia | omega)) :
    FStep W env Z s ρ α Z { s with heap := h', toks := tk } (ρ.set x (.own ⟨l.place, l'⟩)) α :=
  have fb : FOwn env ρ α (α x) := .inr (.inr ⟨x, l, hx, rfl⟩)
  have p : Step W (.addrs (· = α x)) Z s Z { s with heap := h', toks := tk } := store_step I L fb hs htk
  L.swap hx p (L.nz _ fb) hp (p.reps (fun b z q => L.nz _ fb (by rw [← show b = α x from q]; exact z)) r)
noncomputable def freeze (x : Str) (ρ : Slots) : Slots := match ρ x with
  | some (.own l) => ρ.set x (.val (.lst l.items))
  | _ => ρ
theorem Loc.freeze (x : Str) (I : Inv W Z s) (L : Loc W Z s.heap env ρ α) : ∃ Z', FStep W env Z s ρ α Z' s (freeze x ρ) α := by
  unfold Mine.freeze
  split
  · rename_i l hx
    have fb : FOwn env ρ α (α x) := .inr (.inr ⟨x, l, hx, rfl⟩)
    obtain ⟨m, ns, hv⟩ := L.ns
    obtain ⟨v, a, hv', vs, ⟨n, hn⟩, rs⟩ := hv x _ hx
    have hloc : env.locals ≠ α x := fun q => by
      obtain ⟨o, es, ep, e, dd, _⟩ := ns
      rw [q, hn] at e; cases e; cases dd
    have hcell : ∀ c w, s.heap.IsCell c w → c ≠ α x := fun c w hc q => by
      obtain ⟨o, e, dd⟩ := hc
      rw [q, hn] at e; cases e; cases dd
    have hfo : ∀ b, FOwn env (ρ.set x (.val (.lst l.items))) α b → FOwn env ρ α b ∧ b ≠ α x := by
      rintro b (rfl | ⟨y, hn', hy⟩ | ⟨y, m, hy, rfl⟩)
      · exact ⟨.inl rfl, hloc⟩
      · obtain ⟨w, hw⟩ := L.cell y _ hy; exact ⟨.inr (.inl ⟨y, hn', hy⟩), hcell _ w hw⟩
      · unfold Slots.set at hy
        by_cases e : y = x
        · rw [if_pos e] at hy; cases hy
        · rw [if_neg e] at hy; exact ⟨.inr (.inr ⟨y, m, hy, rfl⟩), fun q => e (L.inj y x m l hy hx q)⟩
    have sub : ∀ y m, (ρ.set x (.val (.lst l.items))) y = some (.own m) → ρ y = some (.own m) := fun y m hy => by
      unfold Slots.set at hy
      by_cases e : y = x
      · rw [if_pos e] at hy; cases hy
      · rwa [if_neg e] at hy
    refine ⟨fun b => Z b ∨ b = α x, ⟨⟨I.ok, I.base, I.xs, fun b z => z.elim (I.zin b) fun e => ⟨_, e ▸ hn⟩, I.os, I.bare, fun b z => z.elim (I.zx b) fun e => e ▸ (L.nb _ fb).2, fun b h => .inl (I.z0 b h), I.tk⟩, fun _ _ _ e => e, fun _ z => .inl z, fun b z => z.elim .inl fun e => .inr (.inl (e ▸ fb)), fun _ _ _ e => e⟩, fun b f => .inl (hfo b f).1,
      ⟨⟨m, ns, fun y sv hy => ?_⟩, fun b f z => z.elim (L.nz b (hfo b f).1) (hfo b f).2, fun b f => L.nb b (hfo b f).1, fun y m b hy hb => L.fix y m b (sub y m hy) hb, fun y z a b hy hz e => L.inj y z a b (sub y a hy) (sub z b hz) e, L.cell, L.cinj, fun c hc => .inl (L.slf c hc)⟩⟩
    unfold Slots.set at hy
    by_cases e : y = x
    · rw [if_pos e] at hy
      cases hy
      subst e
      exact ⟨v, a, by rw [hv']; exact .lst (.inr rfl) ⟨_, hn, rfl, rfl, n, rfl⟩ (rs.mono (fun _ z => .inl z) fun _ _ _ e => e)⟩
    · rw [if_neg e] at hy
      obtain ⟨v, a, rv⟩ := hv y sv hy
      refine ⟨v, a, ?_⟩
      cases sv with
      | val av => exact rv.mono (fun _ z => .inl z) fun _ _ _ e => e
      | own l'' => obtain ⟨e1, vs, hn, rs⟩ := rv; exact ⟨e1, vs, hn, rs.mono (fun _ z => .inl z) fun _ _ _ e => e⟩
  · exact ⟨Z, .id I L⟩
inductive AFlow where
  | next | brk | cont
  | ret (v : AV)
noncomputable def FlowRep (Z : AddrSet) (h : Heap) : Flow → AFlow → Prop
  | .next, .next => True
  | .brk, .brk => True
  | .cont, .cont => True
  | .ret v, .ret a => RepV Z h v a
  | _, _ => False
theorem flow_cases {Z : AddrSet} {h : Heap} {P : Flow → AFlow → Prop} {f : Flow} {fl : AFlow} (r : FlowRep Z h f fl) (h1 : P .next .next) (h2 : P .brk .brk) (h3 : P .cont .cont) (h4 : ∀ v a, RepV Z h v a → P (.ret v) (.ret a)) : P f fl := by
  cases fl <;> cases f <;> first | exact r.elim | assumption | exact h4 _ _ r
noncomputable def Run (W : Wd) (A : Around) (env : Env) (Z : AddrSet) (s : Shared) (ρ : Slots) (α : Str → Addr) (t : Sem Flow) (fl : AFlow) (ρ' : Slots) : Prop :=
  ∀ (Q : Flow → Shared → Prop) (E' : Value → Shared → Prop), (∀ f s' Z' α', FStep W env Z s ρ α Z' s' ρ' α' → FlowRep Z' s'.heap f fl → Q f s') → wpAny W.M A t Q E' s
noncomputable def DenS (W : Wd) (d : Nat) (sc : Scope) (st : Stmt) (F : Slots → Option (AFlow × Slots)) : Prop :=
  ∀ (A : Around) (env : Env) (Z : AddrSet) (s : Shared) (ρ : Slots) (α : Str → Addr) (fl : AFlow) (ρ' : Slots), Room A d → EnvOk env sc → Inv W Z s → Loc W Z s.heap env ρ α → F ρ = some (fl, ρ') → Run W A env Z s ρ α (exec st env) fl ρ'
noncomputable def DenSs (W : Wd) (d : Nat) (sc : Scope) (sts : List Stmt) (F : Slots → Option (AFlow × Slots)) : Prop :=
  ∀ (A : Around) (env : Env) (Z : AddrSet) (s : Shared) (ρ : Slots) (α : Str → Addr) (fl : AFlow) (ρ' : Slots), Room A d → EnvOk env sc → Inv W Z s → Loc W Z s.heap env ρ α → F ρ = some (fl, ρ') → Run W A env Z s ρ α (execs sts env) fl ρ'
theorem dens_nil : DenSs W d sc [] fun ρ => some (.next, ρ) := by
  intro A env Z s ρ α fl ρ' R hE I L hf Q E' q
  cases hf
  exact wpAny_execs_nil (q .next s Z α (.id I L) trivial)
noncomputable def thenA (G : Slots → Option (AFlow × Slots)) : AFlow × Slots → Option (AFlow × Slots)
  | (.next, ρ) => G ρ
  | r => some r
theorem dens_cons {st : Stmt} {rest : List Stmt} {F G : Slots → Option (AFlow × Slots)} (h : DenS W d sc st F) (hr : DenSs W d sc rest G) : DenSs W d sc (st :: rest) fun ρ => F ρ >>= thenA G := by
  intro A env Z s ρ α fl ρ' R hE I L hf Q E' q
  obtain ⟨⟨fl₁, ρ₁⟩, h₁, hf⟩ := bindO hf
  refine wpAny_execs_cons (h A env Z s ρ α fl₁ ρ₁ R hE I L h₁ _ _ fun f s₁ Z₁ α₁ p₁ r₁ => ?_)
  clear h₁
  revert hf
  apply flow_cases r₁
  · exact fun hf => hr A env Z₁ s₁ ρ₁ α₁ fl ρ' R hE p₁.step.inv p₁.loc hf _ _ fun f s₂ Z₂ α₂ p₂ r₂ => q f s₂ Z₂ α₂ (p₁.trans p₂) r₂
  · intro hf; cases hf; exact q _ s₁ Z₁ α₁ p₁ trivial
  · intro hf; cases hf; exact q _ s₁ Z₁ α₁ p₁ trivial
  · intro v a r hf; cases hf; exact q _ s₁ Z₁ α₁ p₁ r
theorem dens_freeze (x : Str) {sts : List Stmt} {F : Slots → Option (AFlow × Slots)} (h : DenSs W d sc sts F) : DenSs W d sc sts fun ρ => F (freeze x ρ) := by
  intro A env Z s ρ α fl ρ' R hE I L hf Q E' q
  obtain ⟨Z₁, p⟩ := L.freeze x I
  exact h A env Z₁ s (freeze x ρ) α fl ρ' R hE p.step.inv p.loc hf _ _ fun f s₂ Z₂ α₂ p₂ r₂ => q f s₂ Z₂ α₂ (p.trans p₂) r₂
theorem den_return {e : Expr} {pos : Pos} {f : Slots → Option AV} (h : DenP W d sc e f) : DenS W d sc (.Return (some e) pos) fun ρ => f ρ >>= fun a => some (.ret a, ρ) := by
  intro A env Z s ρ α fl ρ' R hE I L hf Q E' q
  obtain ⟨a, ha, hf⟩ := bindO hf
  cases hf
  exact wpAny_Return_some (h A env Z s ρ α a R hE I L ha _ _ fun v s₁ Z₁ p r => q (.ret v) s₁ Z₁ α (.pure L p) r)
theorem den_return0 {pos : Pos} : DenS W d sc (.Return none pos) fun ρ => some (.ret .none, ρ) := by
  intro A env Z s ρ α fl ρ' R hE I L hf Q E' q; cases hf
  exact wpAny_Return_none (q (.ret .none) s Z α (.id I L) .none)
theorem den_if {test : Expr} {body orelse : List Stmt} {pos : Pos} {c : Slots → Option Bool} {F G : Slots → Option (AFlow × Slots)} (ht : DenT W d sc test c) (hb : DenSs W d sc body F) (ho : DenSs W d sc orelse G) :
    DenS W d sc (.If test body orelse pos) fun ρ => c ρ >>= fun b => if b = true then F ρ else G ρ := by
  intro A env Z s ρ α fl ρ' R hE I L hf Q E' q
  obtain ⟨b, hb', hf⟩ := bindO hf
  refine wpAny_If (ht A env Z s ρ α b R hE I L hb' _ _ fun s₁ Z₁ p₁ => ?_)
  cases b with
  | true => exact hb A env Z₁ s₁ ρ α fl ρ' R hE p₁.inv (L.step0 p₁) hf _ _ fun f s₂ Z₂ α₂ p₂ r₂ => q f s₂ Z₂ α₂ ((FStep.pure L p₁).trans p₂) r₂
  | false => exact ho A env Z₁ s₁ ρ α fl ρ' R hE p₁.inv (L.step0 p₁) hf _ _ fun f s₂ Z₂ α₂ p₂ r₂ => q f s₂ Z₂ α₂ ((FStep.pure L p₁).trans p₂) r₂
theorem Loc.storeV {x : Str} {v : Value} {av : AV} (I : Inv W Z s) (L : Loc W Z s.heap env ρ α) (hE : EnvOk env sc) (hk : Kd sc x) (r : RepV Z s.heap v av)
    {Q : Unit → Shared → Prop} {E' : Value → Shared → Prop} (h : ∀ s' α', FStep W env Z s ρ α Z s' (ρ.set x (.val av)) α' → Q () s') : wpAny W.M A (storeName env x v) Q E' s :=
  L.store (sv := .val av) (a := α x) I hE hk r (fun l e => by cases e) fun s' p fo l => h s' _ ⟨p, fun b f => (fo b f).elim .inl (fun ⟨⟨l, e⟩, _⟩ => by cases e), l⟩
theorem den_assign {x : Str} {p pos : Pos} {e : Expr} {f : Slots → Option AV} (h : DenP W d sc e f) (hk : Kd sc x) (hs : ∀ env, swapsWith e (some (.Name x p)) pos.line env = pure false) :
    DenS W d sc (.Assign [.Name x p] e pos) fun ρ => f ρ >>= fun a => some (.next, ρ.set x (.val a)) := by
  intro A env Z s ρ α fl ρ' R hE I L hf Q E' q
  obtain ⟨a, ha, hf⟩ := bindO hf
  cases hf
  exact wpAny_Assign_Name (h A env Z s ρ α a R hE I L ha _ _ fun v s₁ Z₁ p₁ r₁ => (L.step0 p₁).storeV p₁.inv hE hk r₁ fun s₂ α₂ p₂ => q .next s₂ Z₁ α₂ ((FStep.pure L p₁).trans p₂) trivial) (hs env)
noncomputable def augA (op : Operator) (a b : AV) : Option AV := match op with
  | .Add => (match a with
    | .int a => b.int? >>= fun b => some (.int (a + b))
    | .str x => b.str? >>= fun y => if x.length + y.length ≤ 16777216 then some (.str (x ++ y)) else none
    | _ => none)
  | _ => none
theorem augA_ok (I : Inv W Z s) {op : Operator} {a b c : AV} {va vb : Value} (ra : RepV Z s.heap va a) (rb : RepV Z s.heap vb b) (h : augA op a b = some c) : Gives W A Z s (inplaceOp op va vb) c := by
  cases op with
  | Add =>
    cases a with
    | int i =>
      obtain ⟨j, hj, h⟩ := bindO h; cases h
      obtain ⟨t, rfl⟩ := ra.int'; obtain ⟨t', rfl⟩ := int?_rep hj rb
      exact .val I fun Q E' q => iadd_int (q _ _ (.int _ _))
    | str x =>
      obtain ⟨y, hj, h⟩ := bindO h; obtain ⟨hc, h⟩ := iteO h; cases h
      obtain ⟨t, rfl⟩ := ra.str'; obtain ⟨t', rfl⟩ := str?_rep hj rb
      exact .val I fun Q E' q => iadd_str (fun t' tk => q _ _ (.str _ _)) hc
    | _ => cases h
  | _ => cases h
theorem den_aug {x : Str} {p pos : Pos} {op : Operator} {e : Expr} {f : Slots → Option AV} (h : DenP W d sc e f) (hk : Kd sc x) (hn : (x == ("__classdict__" : Str)) = false) :
    DenS W d sc (.AugAssign (.Name x p) op e pos) fun ρ => getV ρ x >>= fun a => f ρ >>= fun b => augA op a b >>= fun c => some (.next, ρ.set x (.val c)) := by
  intro A env Z s ρ α fl ρ' R hE I L hf Q E' q
  obtain ⟨a, ha, hf⟩ := bindO hf
  obtain ⟨b, hb, hf⟩ := bindO hf
  obtain ⟨c, hc, hf⟩ := bindO hf
  cases hf
  refine wpAny_AugAssign_Name (L.load hE (getV_eq ha) (fun va ra => h A env Z s ρ α b R hE I L hb _ _ fun vb s₁ Z₁ p₁ r₁ => augA_ok p₁.inv (p₁.rep0 ra) r₁ hc _ _ fun v s₂ Z₂ p₂ r₂ =>
    ((L.step0 p₁).step0 p₂).storeV p₂.inv hE hk r₂ fun s₃ α₃ p₃ => q .next s₃ Z₂ α₃ ((FStep.pure L (p₁.tr p₂)).trans p₃) trivial) hn)
end
end Mine
end
section
set_option linter.unusedVariables false
namespace Mine
section
variable {W : Wd} {Z Z' Z₁ : AddrSet} {s s' s₁ : Shared} {env : Env} {sc : Scope} {ρ ρ' : Slots} {α α' : Str → Addr} {A : Around} {d : Nat}
-- lists of the frame's own
noncomputable def GivesO (W : Wd) (A : Around) (Z : AddrSet) (s : Shared) (t : Sem Value) (l : List AV) : Prop :=
  ∀ (Q : Value → Shared → Prop) (E' : Value → Shared → Prop), (∀ a vs s' Z', Step W .none Z s Z' s' → s.heap.get? a = none → ¬ Z' a → s'.heap.PlainList a vs.toArray → RepVs Z' s'.heap vs l → Q (.ref a) s') → wpAny W.M A t Q E' s
noncomputable def DenO (W : Wd) (d : Nat) (sc : Scope) (e : Expr) (f : Slots → Option (List AV)) : Prop :=
  ∀ (A : Around) (env : Env) (Z : AddrSet) (s : Shared) (ρ : Slots) (α : Str → Addr) (l : List AV), Room A d → EnvOk env sc → Inv W Z s → Loc W Z s.heap env ρ α → f ρ = some l → GivesO W A Z s (eval e env) l
theorem GivesO.newLst (I : Inv W Z s) {t : Sem Value} {vs : List Value} {l : List AV} {n : Nat} (r : RepVs Z s.heap vs l)
    (h : ∀ (Q : Value → Shared → Prop) E', (∀ tk, Q (.ref s.heap.objs.size) { s with heap := s.heap.push { cls := .type "list", data := .seq vs.toArray n }, toks := tk }) → wpAny W.M A t Q E' s) : GivesO W A Z s t l :=
  fun Q E' q => wpAny_with_toks (Nat.le_refl _) (h _ _ fun tk (htk : s.toks ≤ tk) => by
    have hg := Heap.get?_push_size s.heap (o := { cls := .type "list", data := .seq vs.toArray n }) rfl
    exact q _ _ _ _ (.grow I (push_keep _ _)) (push_none _) (I.fresh_z (push_none _)) ⟨n, hg⟩ (r.mono (fun _ z => z) fun a o _ e => push_keep _ _ _ _ e))
theorem deno_list {es : List Expr} {pos : Pos} {f : Slots → Option (List AV)} (h : DenPs W d sc es f) : DenO W d sc (.List es pos) fun ρ => f ρ >>= fun l => if l.length ≤ 1000000 then some l else none := by
  intro A env Z s ρ α l' R hE I L hf Q E' q
  obtain ⟨l, hl, hf⟩ := bindO hf
  split at hf
  · cases hf
    refine List_ (h A env Z s ρ α _ R hE I L hl pos _ _ fun vs s₁ Z₁ p₁ r₁ => ?_)
    refine (GivesO.newLst (n := 0) p₁.inv r₁ fun Q E' q => wpAny_newObj_type (q _) ?_) _ _ fun a vs s₂ Z₂ p₂ hn hz hp r₂ => q a vs s₂ Z₂ (p₁.tr p₂) ((p₁.none_back hn).resolve_left id) hz hp r₂
    show vs.toArray.size ≤ sizeLine
    rw [List.size_toArray, r₁.length]; unfold sizeLine; (first | lia | omega)
  · cases hf
theorem den_ofO {e : Expr} {f : Slots → Option (List AV)} (h : DenO W d sc e f) : DenP W d sc e fun ρ => (f ρ).map .lst := by
  intro A env Z s ρ α av R hE I L hf Q E' q
  obtain ⟨l, hl, rfl⟩ := Option.map_eq_some_iff.mp hf
  refine h A env Z s ρ α l R hE I L hl _ _ fun a vs s' Z' p hn hz hp r => ?_
  obtain ⟨n, hp⟩ := hp
  refine q _ s' (fun b => Z' b ∨ b = a) ⟨⟨p.inv.ok, p.inv.base, p.inv.xs, fun b z => z.elim (p.inv.zin b) fun e => ⟨_, e ▸ hp⟩, p.inv.os, p.inv.bare, fun b z => z.elim (p.inv.zx b) fun e => e ▸ I.fresh_x hn, fun b h => .inl (p.inv.z0 b h), p.inv.tk⟩, p.keep, fun b z => .inl (p.zsub b z), fun b z => z.elim (p.znew b) fun e => .inr (.inr (e ▸ hn)), p.gens⟩
    (.lst (.inr rfl) ⟨_, hp, rfl, rfl, n, rfl⟩ (r.mono (fun _ z => .inl z) fun _ _ _ e => e))
theorem den_assignO {x : Str} {p pos : Pos} {e : Expr} {f : Slots → Option (List AV)} (h : DenO W d sc e f) (hk : Kd sc x) (hs : ∀ env, swapsWith e (some (.Name x p)) pos.line env = pure false) :
    DenS W d sc (.Assign [.Name x p] e pos) fun ρ => f ρ >>= fun l => some (.next, ρ.set x (.own ⟨none, l⟩)) := by
  intro A env Z s ρ α fl ρ' R hE I L hf Q E' q
  obtain ⟨l, hl, hf⟩ := bindO hf
  cases hf
  refine wpAny_Assign_Name (h A env Z s ρ α l R hE I L hl _ _ fun a vs s₁ Z₁ p₁ hn hz hp r => ?_) (hs env)
  have L₁ := L.step0 p₁
  refine L₁.store (sv := .own ⟨none, l⟩) (a := a) p₁.inv hE hk ⟨rfl, vs, hp, r⟩ (fun l₀ e₀ => ⟨hz, I.fresh_b hn, I.fresh_x hn, (fun b h => by cases e₀; cases h), fun y l' _ hy e => ?_⟩) fun s₂ p₂ fo L₂ => q .next s₂ Z₁ _ ⟨p₁.weak.trans p₂ (fun _ h => .inl h) (fun _ h => h.elim), fun b f => (fo b f).imp id fun ⟨_, e⟩ => e ▸ hn, L₂⟩ trivial
  obtain ⟨o, ho⟩ := L.alive (.inr (.inr ⟨y, l', hy, rfl⟩))
  rw [e, hn] at ho; cases ho
noncomputable def getO (ρ : Slots) (x : Str) : Option OL := match ρ x with | some (.own l) => some l | _ => none
theorem getO_eq {x : Str} {l : OL} (h : getO ρ x = some l) : ρ x = some (.own l) := by
  unfold getO at h
  split at h
  · cases h; assumption
  · cases h
noncomputable def truthN (ρ : Slots) (x : Str) : Option Bool := match ρ x with | some (.own l) => truthA (.lst l.items) | some (.val v) => truthA v | none => none
theorem denT_name {x : Str} {p : Pos} (h1 : (x == ("__debug__" : Str)) = false) (hn : (x == ("__classdict__" : Str)) = false) :
    DenT W d sc (.Name x p) fun ρ => truthN ρ x := by
  intro A env Z s ρ α b R hE I L hf Q E' q
  refine wpAny_isTrue_value (wpAny_Name ?_ h1) rfl
  simp only [truthN] at hf
  split at hf
  · rename_i l hx
    refine L.load hE hx (fun v r => ?_) hn
    obtain ⟨rfl, vs, hp, rs⟩ := r
    unfold truthA at hf
    simp only at hf
    obtain ⟨hz, hf⟩ := iteO hf
    · cases hf
      refine wpAny_truthy_list hp.isList (by simp only [List.size_toArray, rs.length]; (first | lia | omega)) ?_
      have e : vs.toArray.isEmpty = l.items.isEmpty := by
        have := rs.length
        cases vs <;> cases hli : l.items <;> simp_all
      rw [e]; exact q _ Z (.toks I _)
  · rename_i v hx
    exact L.load hE hx (fun v r => truthA_ok I r hf _ _ q) hn
  · cases hf
theorem upd_plain {h : Heap} {a : Addr} {its : Array Value} {n : Nat} (e : h.get? a = some { cls := .type "list", data := .seq its n }) (f : Array Value → Array Value) : (h.update a (Obj.mapSeq f)).PlainList a (f its) :=
  ⟨_, Heap.get?_update_self (Obj.mapSeq f) e rfl⟩
end
end Mine
end
section
set_option linter.unusedVariables false
namespace Mine
section
variable {W : Wd} {Z Z' Z₁ : AddrSet} {s s' s₁ : Shared} {env : Env} {sc : Scope} {ρ ρ' : Slots} {α α' : Str → Addr} {A : Around} {d : Nat}
noncomputable def GivesX (W : Wd) (A : Around) (env : Env) (Z : AddrSet) (s : Shared) (ρ : Slots) (α : Str → Addr) (t : Sem Value) (av : AV) (ρ' : Slots) : Prop :=
  ∀ (Q : Value → Shared → Prop) (E' : Value → Shared → Prop), (∀ v s' Z' α', FStep W env Z s ρ α Z' s' ρ' α' → RepV Z' s'.heap v av → Q v s') → wpAny W.M A t Q E' s
noncomputable def DenX (W : Wd) (d : Nat) (sc : Scope) (e : Expr) (F : Slots → Option (AV × Slots)) : Prop :=
  ∀ (A : Around) (env : Env) (Z : AddrSet) (s : Shared) (ρ : Slots) (α : Str → Addr) (av : AV) (ρ' : Slots), Room A d → EnvOk env sc → Inv W Z s → Loc W Z s.heap env ρ α → F ρ = some (av, ρ') → GivesX W A env Z s ρ α (eval e env) av ρ'
theorem denx_of {e : Expr} {f : Slots → Option AV} (h : DenP W d sc e f) : DenX W d sc e fun ρ => f ρ >>= fun a => some (a, ρ) := by
  intro A env Z s ρ α av ρ' R hE I L hf Q E' q
  obtain ⟨a, ha, hf⟩ := bindO hf
  cases hf
  exact h A env Z s ρ α _ R hE I L ha _ _ fun v s₁ Z₁ p r => q v s₁ Z₁ α (.pure L p) r
theorem own_meth {x : Str} {name : Str} {p1 apos pos : Pos} {es : List Expr} {fs : Slots → Option (List AV)} {id : String} {l : OL} {args : List AV}
    (h1 : (x == ("__debug__" : Str)) = false) (hn : (x == ("__classdict__" : Str)) = false)
    (hbase : ∀ env, attributeBase (.Name x p1) name env (eval (.Name x p1) env) = eval (.Name x p1) env)
    (hfew : ∀ env, ((backTo pos (starEach es env)).all (fun x => !x.1) && (backToKw pos (keywordEach [] env)).all (fun x => x.1.isSome) && decide (es.length + ([] : List Keyword).length + (if ([] : List Keyword).isEmpty then 0 else 1) < 30)) = true)
    (hline : (apos.endLine == pos.line) = true) (slot : Slot "list" name id) (hty : typeOf (.builtin id) = pure (.type "method_descriptor")) (ha : DenPs W d sc es fs) (hns : ∀ env pos, (backTo pos (starEach es env)).any (·.1) = false)
    (R : Room A d) (hE : EnvOk env sc) (I : Inv W Z s) (L : Loc W Z s.heap env ρ α) (hx : ρ x = some (.own l)) (hargs : fs ρ = some args) {Q : Value → Shared → Prop} {E' : Value → Shared → Prop}
    (q : ∀ its n ws s₁ Z₁, Step W .none Z s Z₁ s₁ → s₁.heap.get? (α x) = some { cls := .type "list", data := .seq (its : List Value).toArray n } → RepVs Z₁ s₁.heap its l.items → RepVs Z₁ s₁.heap ws args → wpAny W.M A (call (.builtin id) (.ref (α x) :: ws)) Q E' s₁) :
    wpAny W.M A (eval (.Call (.Attribute (.Name x p1) name apos) es [] pos) env) Q E' s := by
  refine wpAny_Call_method (hbase env) (hfew env) hline F.plainAttrs_list slot hty (wpAny_Name (L.load hE hx (fun v r => ?_) hn) h1)
  obtain ⟨rfl, its, ⟨n, hp⟩, rs⟩ := r
  refine ⟨⟨_, hp, rfl⟩, fun a e => (by cases e; exact ⟨_, hp, rfl⟩), ?_⟩
  exact callWith_den (first := [.ref (α x)]) (keep_builtin id) ha hns R hE I L hargs fun vs s₁ Z₁ p₁ r₁ => q its n vs s₁ Z₁ p₁ (p₁.keep _ _ (fun h => h) hp) (p₁.reps0 rs) r₁
theorem den_append {x : Str} {p1 apos cpos pos : Pos} {e : Expr} {f : Slots → Option AV} (h : DenP W d sc e f) (h1 : (x == ("__debug__" : Str)) = false) (hn : (x == ("__classdict__" : Str)) = false)
    (hs : ∀ env, starEach [e] env = [(false, eval e env)]) (hline : (apos.endLine == cpos.line) = true) :
    DenS W d sc (.Expr (.Call (.Attribute (.Name x p1) "append" apos) [e] [] cpos) pos) fun ρ => getO ρ x >>= fun l => f ρ >>= fun a => if l.items.length ≤ 1000000 then some (.next, ρ.set x (.own ⟨l.place, l.items ++ [a]⟩)) else none := by
  intro A env Z s ρ α fl ρ' R hE I L hf Q E' q
  obtain ⟨l, hl, hf⟩ := bindO hf
  obtain ⟨a, ha, hf⟩ := bindO hf
  obtain ⟨hz, hf⟩ := iteO hf
  · cases hf
    have hx := getO_eq hl
    have hns : ∀ env pos, (backTo pos (starEach [e] env)).any (·.1) = false := fun env pos => by rw [hs]; rfl
    refine wpAny_Expr (own_meth (es := [e]) h1 hn (fun _ => rfl) (fun env => by rw [hs]; rfl) hline F.slot_list_append F.type_list_append (denPs_cons h denPs_nil (fun env => by rw [hs]; rfl)) hns R hE I L hx (args := [a]) (by simp [ha]) fun its n ws s₁ Z₁ p₁ hp rs rw' => ?_) (by
      show (env.scope.kind == .module && _) = false
      rw [hE.kfn]; rfl)
    obtain ⟨w, rfl, rq⟩ := rw'.one
    refine append_at (n := n) hp (fun h' hsb ho' => ?_) (by rw [List.size_toArray, rs.length]; unfold sizeLine; (first | lia | omega))
    have fs := (L.step0 p₁).upd (tk := s₁.toks) (vs' := its ++ [w]) p₁.inv hx hsb ⟨n + 1, by simpa using ho'⟩ (rs.snoc rq)
    exact q .next _ Z₁ α ((FStep.pure L p₁).trans fs) trivial
theorem denx_pop0 {x : Str} {p1 apos cpos ip : Pos} {k : Nat} (h1 : (x == ("__debug__" : Str)) = false) (hn : (x == ("__classdict__" : Str)) = false) (hline : (apos.endLine == cpos.line) = true) :
    DenX W d sc (.Call (.Attribute (.Name x p1) "pop" apos) [.Constant (.int 0) k ip] [] cpos) fun ρ => getO ρ x >>= fun l => match l.items with | a :: r => if r.length ≤ 1000000 then some (a, ρ.set x (.own ⟨l.place, r⟩)) else none | [] => none := by
  intro A env Z s ρ α av ρ' R hE I L hf Q E' q
  obtain ⟨l, hl, hf⟩ := bindO hf
  obtain ⟨pl, li⟩ := l
  cases li with
  | nil => cases hf
  | cons a r =>
    simp only at hf
    obtain ⟨hz, hf⟩ := iteO hf
    · skip
      cases hf
      have hx := getO_eq hl
      refine own_meth (es := [.Constant (.int 0) k ip]) h1 hn (fun _ => rfl) (fun env => rfl) hline F.slot_list_pop F.type_list_pop (denPs_cons (den_int 0 k ip) denPs_nil fun _ => rfl) (fun _ _ => rfl) R hE I L hx (args := [.int 0]) rfl fun its n ws s₁ Z₁ p₁ hp rs rw' => ?_
      obtain ⟨w, rfl, rq⟩ := rw'.one
      cases rq
      rename_i t
      cases rs with | cons ra rv =>
      rename_i v vs
      refine call_meets F.slot_list_pop ⟨_, hp, rfl⟩ F.entry_list_pop (F.args_list_pop_2 _ _) (MeetsSeq.list_pop_at (α x) _ n 0 t 0 v (by decide) (by simp [seqIndex?]) (by simp) ?_) ⟨hp, ?_⟩
      · have := rv.length
        rw [List.size_toArray, List.length_cons, this]; unfold sizeLine; (first | lia | omega)
      · have fs := (L.step0 p₁).upd (tk := s₁.toks) (vs' := vs) p₁.inv hx (Heap.SameBut.update ..) (by have := upd_plain hp (fun xs => xs.eraseIdxIfInBounds 0); rw [show (v :: vs).toArray.eraseIdxIfInBounds 0 = vs.toArray from kl_erase [] vs v] at this; exact this) rv
        exact q v _ Z₁ α ((FStep.pure L p₁).trans fs) (ra.mono (fun _ z => z) fun b o z e => (Heap.SameBut.update s₁.heap (α x) _).extBut b o (fun c => (L.step0 p₁).nz (α x) (.inr (.inr ⟨x, _, hx, rfl⟩)) (c ▸ z)) e)
-- targets
noncomputable def DenTg (W : Wd) (d : Nat) (sc : Scope) (t : Expr) (G : AV → Slots → Option Slots) : Prop :=
  ∀ (A : Around) (env : Env) (Z : AddrSet) (s : Shared) (ρ : Slots) (α : Str → Addr) (v : Value) (av : AV) (ρ' : Slots), Room A d → EnvOk env sc → Inv W Z s → Loc W Z s.heap env ρ α → RepV Z s.heap v av → G av ρ = some ρ' →
    ∀ (Q : Unit → Shared → Prop) (E' : Value → Shared → Prop), (∀ s' Z' α', FStep W env Z s ρ α Z' s' ρ' α' → Q () s') → wpAny W.M A (assign t env v) Q E' s
noncomputable def DenTgs (W : Wd) (d : Nat) (sc : Scope) (ts : List Expr) (G : List AV → Slots → Option Slots) : Prop :=
  ∀ (A : Around) (env : Env) (Z : AddrSet) (s : Shared) (ρ : Slots) (α : Str → Addr) (vs : List Value) (l : List AV) (ρ' : Slots), Room A d → EnvOk env sc → Inv W Z s → Loc W Z s.heap env ρ α → RepVs Z s.heap vs l → l.length = ts.length → G l ρ = some ρ' →
    ∀ (Q : Unit → Shared → Prop) (E' : Value → Shared → Prop), (∀ s' Z' α', FStep W env Z s ρ α Z' s' ρ' α' → Q () s') → wpAny W.M A (assignInOrder ((assignEach ts env).map (·.2)) vs) Q E' s
theorem tg_name {x : Str} {p : Pos} (hk : Kd sc x) : DenTg W d sc (.Name x p) fun a ρ => some (ρ.set x (.val a)) := by
  intro A env Z s ρ α v av ρ' R hE I L r hf Q E' q
  cases hf
  show wpAny _ _ (do standAt p; bindName env x v) _ _ _
  exact wpAny_bind (wpAny_standAt (wpAny_bindName (L.storeV I hE hk r fun s' α' p => q s' Z α' p)))
theorem tgs_nil : DenTgs W d sc [] fun _ ρ => some ρ := by
  intro A env Z s ρ α vs l ρ' R hE I L r hl hf Q E' q
  cases hf
  cases l with
  | nil => rw [r.nil']; exact wpAny_pure (q s Z α (.id I L))
  | cons a l => cases hl
noncomputable def headTg (G : AV → Slots → Option Slots) (H : List AV → Slots → Option Slots) : List AV → Slots → Option Slots
  | a :: l, ρ => G a ρ >>= H l
  | [], _ => none
theorem tgs_cons {t : Expr} {ts : List Expr} {G : AV → Slots → Option Slots} {H : List AV → Slots → Option Slots} (h : DenTg W d sc t G) (hs : DenTgs W d sc ts H) (he : ∀ env, assignEach (t :: ts) env = (false, assign t env) :: assignEach ts env) : DenTgs W d sc (t :: ts) (headTg G H) := by
  intro A env Z s ρ α vs l ρ' R hE I L r hl hf Q E' q
  cases l with
  | nil => cases hl
  | cons a l =>
    obtain ⟨v, vs, rfl, r1, r2⟩ := r.cons'
    obtain ⟨ρ₁, h₁, h₂⟩ := bindO hf
    rw [he]
    show wpAny _ _ (do holding _ (assign t env _); assignInOrder ((assignEach ts env).map (·.2)) _) _ _ _
    refine wpAny_bind (wpAny_holding (h A env Z s ρ α _ a ρ₁ R hE I L r1 h₁ _ _ fun s₁ Z₁ α₁ p₁ => ?_))
    have hz : ∀ b, Z b → ¬ (Own.addrs (FOwn env ρ α)).a b := fun b z f => L.nz b f z
    exact hs A env Z₁ s₁ ρ₁ α₁ _ l ρ' R hE p₁.step.inv p₁.loc (p₁.step.reps hz r2) (by simpa using hl) h₂ _ _ fun s₂ Z₂ α₂ p₂ => q s₂ Z₂ α₂ (p₁.trans p₂)
theorem draw_list {I l : Addr} {items : Array Value} {E' : Value → Shared → Prop} (hh : A.handled = none) (hne : l ≠ I) (k i : Nat) (s : Shared) (Q : List Value → Shared → Prop) (h1 : s.heap.IsListIter I l i) (h2 : s.heap.IsList l items) (hi : i + k ≤ items.size)
    (q : ∀ h' tk, h'.IsListIter I l (i + k) → h'.IsList l items → (∀ b o, b ≠ I → s.heap.get? b = some o → h'.get? b = some o) → Q ((items.toList.drop i).take k) { s with heap := h', toks := tk }) : wpAny W.M A (draw (.ref I) k) Q E' s := by
  induction k generalizing i s Q with
  | zero =>
    show wpAny _ _ (pure []) _ _ _
    exact wpAny_pure (q s.heap s.toks h1 h2 fun _ _ _ e => e)
  | succ k ih =>
    have hlt : i < items.size := by (first | lia | omega)
    refine wpAny_bind ((Walks.list (prog := W.prog) (w := W.w) hh I l hne items).item i s _ _ hlt ⟨h1, h2⟩ fun v h' tk hv st hk => ?_)
    refine wpAny_bind (wpAny_holding (ih (i + 1) _ _ st.1 st.2 (by (first | lia | omega)) fun h'' tk' i1 i2 hk' => wpAny_pure ?_))
    have e : (items.toList.drop i).take (k + 1) = v :: (items.toList.drop (i + 1)).take k := by
      rw [← Array.getElem?_toList] at hv
      obtain ⟨hl, he⟩ := List.getElem?_eq_some_iff.mp hv
      rw [List.drop_eq_getElem_cons hl, List.take_succ_cons, he]
    have := q h'' tk' (by rw [show i + (k + 1) = i + 1 + k by (first | lia | omega)]; exact i1) i2 fun b o hb e => hk' b o hb (hk b o (fun h => hb (List.mem_singleton.mp h)) e)
    rw [e] at this
    exact this
theorem unpackItems_list {l : Addr} {vs : List Value} {Q : List Value → Shared → Prop} {E' : Value → Shared → Prop} (hh : A.handled = none) (hl : s.heap.IsList l vs.toArray)
    (hQ : ∀ h' tk, (∀ b o, s.heap.get? b = some o → h'.get? b = some o) → Q vs { s with heap := h', toks := tk }) : wpAny W.M A (unpackItems (.ref l) vs.length none) Q E' s := by
  have hne : l ≠ s.heap.objs.size := by obtain ⟨o, ho, _⟩ := hl; exact Nat.ne_of_lt (Heap.lt_size ho)
  unfold unpackItems
  refine wpAny_bind ?_
  unfold notIterableAtAll
  refine wpAny_bind (wpAny_specialOf hl.typeIs slot_list_iter.lookup ?_)
  refine wpAny_pure ?_
  simp only [Bool.false_eq_true, if_false]
  refine wpAny_bind (wpAny_holding (wpAny_pyIter_list hl ?_))
  refine wpAny_bind (wpAny_holding (draw_list (I := s.heap.objs.size) (l := l) (items := vs.toArray) hh hne vs.length 0 _ _ ⟨_, Heap.get?_push_size _ rfl, rfl, rfl⟩ (let ⟨o, ho, r⟩ := hl; ⟨o, Heap.get?_push_of_some _ ho, r⟩) (by rw [List.size_toArray]; (first | lia | omega)) fun h₁ tk₁ i1 i2 hk₁ => ?_))
  have e : List.take vs.length (List.drop 0 vs.toArray.toList) = vs := by rw [List.drop_zero, List.take_length]
  rw [Nat.zero_add] at i1
  rw [e, if_neg (Nat.lt_irrefl _)]
  refine wpAny_bind (wpAny_holding ((Walks.list (prog := W.prog) (w := W.w) hh s.heap.objs.size l hne vs.toArray).done _ _ _ ⟨i1, i2⟩ fun h₂ tk₂ hk₂ => ?_))
  simp only [Option.isSome_none, Bool.false_eq_true, if_false]
  exact wpAny_pure (hQ h₂ tk₂ fun b o e => by
    have hb : b ≠ s.heap.objs.size := Nat.ne_of_lt (Heap.lt_size e)
    exact hk₂ b o (fun h => hb (List.mem_singleton.mp h)) (hk₁ b o hb (Heap.get?_push_of_some _ e)))
noncomputable def seqA : AV → Option (List AV)
  | .tup l => some l
  | .lst l => some l
  | _ => none
theorem unpack_items {v : Value} {av : AV} {l : List AV} {Q : List Value → Shared → Prop} {E' : Value → Shared → Prop} (R : Room A d) (I : Inv W Z s) (r : RepV Z s.heap v av) (h : seqA av = some l)
    (q : ∀ vs s', Step W .none Z s Z s' → RepVs Z s'.heap vs l → Q vs s') : wpAny W.M A (unpackItems v l.length none) Q E' s := by
  cases av with
  | tup l' =>
    cases h
    obtain ⟨a, vs, rfl, z, ht, rl⟩ := r.tup'
    rw [show l.length = vs.toArray.size from rl.length.symm]
    refine unpackItems_tuple R.handled ht fun h' hx => ?_
    have p : Step W .none Z s Z { s with heap := h' } := .grow I (tk := s.toks) fun b o e => hx b o (Nat.ne_of_lt (Heap.lt_size e)) e
    exact q vs _ p (p.reps0 rl)
  | lst l' =>
    cases h
    obtain ⟨a, vs, rfl, z, ht, rl⟩ := r.lst'
    rw [← rl.length]
    refine wpAny_with_toks (Nat.le_refl _) (unpackItems_list R.handled ht fun h' tk hx => fun (htk : s.toks ≤ tk) => ?_)
    have p : Step W .none Z s Z { s with heap := h', toks := tk } := .grow I hx htk
    exact q vs _ p (p.reps0 rl)
  | _ => cases h
theorem tg_tuple {ts : List Expr} {k : Nat} {pos : Pos} {G : List AV → Slots → Option Slots} (h : DenTgs W d sc ts G) (hst : ∀ env, (assignEach ts env).findIdx? (·.1) = none) (hlen : ∀ env, (assignEach ts env).length = ts.length) :
    DenTg W d sc (.Tuple ts k pos) fun a ρ => seqA a >>= fun l => if l.length = ts.length then G l ρ else none := by
  intro A env Z s ρ α v av ρ' R hE I L r hf Q E' q
  obtain ⟨l, hl, hf⟩ := bindO hf
  obtain ⟨hn, hf⟩ := iteO hf
  · skip
    show wpAny _ _ (do standAt pos; unpack v (assignEach ts env)) _ _ _
    refine wpAny_bind (wpAny_standAt ?_)
    unfold unpack
    rw [hst, hlen, ← hn]
    refine wpAny_bind (wpAny_holding (unpack_items R I r hl fun vs s₁ p₁ r₁ => ?_))
    exact h A env Z s₁ ρ α vs l ρ' R hE p₁.inv (L.step0 p₁) r₁ hn hf _ _ fun s₂ Z₂ α₂ p₂ => q s₂ Z₂ α₂ ((FStep.pure L p₁).trans p₂)
end
end Mine
end
section
set_option linter.unusedVariables false
namespace Mine
section
variable {W : Wd} {Z Z' Z₁ Z₀ : AddrSet} {s s' s₁ s₀ : Shared} {env : Env} {sc : Scope} {ρ ρ' ρ₀ : Slots} {α α' α₀ : Str → Addr} {A : Around} {d : Nat}
theorem FStep.zo (L : Loc W Z s.heap env ρ α) : ∀ b, Z b → ¬ (Own.addrs (FOwn env ρ α)).a b := fun b z f => L.nz b f z
theorem den_assignX {x : Str} {p pos : Pos} {e : Expr} {F : Slots → Option (AV × Slots)} (h : DenX W d sc e F) (hk : Kd sc x) (hs : ∀ env, swapsWith e (some (.Name x p)) pos.line env = pure false) :
    DenS W d sc (.Assign [.Name x p] e pos) fun ρ => F ρ >>= fun r => some (.next, r.2.set x (.val r.1)) := by
  intro A env Z s ρ α fl ρ' R hE I L hf Q E' q
  obtain ⟨⟨a, ρ₁⟩, ha, hf⟩ := bindO hf
  cases hf
  exact wpAny_Assign_Name (h A env Z s ρ α a ρ₁ R hE I L ha _ _ fun v s₁ Z₁ α₁ p₁ r₁ => p₁.loc.storeV p₁.step.inv hE hk r₁ fun s₂ α₂ p₂ => q .next s₂ Z₁ α₂ (p₁.trans p₂) trivial) (hs env)
theorem exec_Assign {targets : List Expr} {value : Expr} {pos : Pos} {Q : Flow → Shared → Prop} {E' : Value → Shared → Prop} {sw : Option (List Str)} (h1 : swapsWithSole targets value pos.line env = pure false) (h2 : swappedStores targets value env = pure sw)
    (h : wpAny W.M A (eval value env) (fun v s₁ => wpAny W.M A (assignStores env v sw ((assignEach targets env).map (·.2))) Q E' s₁) E' s) : wpAny W.M A (exec (.Assign targets value pos) env) Q E' s := by
  show wpAny _ _ (do
    standAt pos
    if ← swapsWithSole targets value pos.line env then do
      evalThenUse value env fun v => assignAll v ((assignEach targets env).map (·.2))
      pure .next
    else do
      let v ← eval value env
      assignStores env v (← swappedStores targets value env) ((assignEach targets env).map (·.2))) _ _ _
  rw [h1, h2]
  exact wpAny_bind (wpAny_standAt (wpAny_bind (wpAny_pure (wpAny_bind (wpAny_mono h (fun v s₁ h' => wpAny_bind (wpAny_pure h')) fun _ _ x => x)))))
theorem den_assignT {t : Expr} {pos : Pos} {e : Expr} {F : Slots → Option (AV × Slots)} {G : AV → Slots → Option Slots} (h : DenX W d sc e F) (ht : DenTg W d sc t G) (h1 : ∀ env : Env, env.scope = sc → swapsWithSole [t] e pos.line env = pure false) (h2 : ∀ env : Env, env.scope = sc → swappedStores [t] e env = pure none)
    (he : ∀ env, assignEach [t] env = [(false, assign t env)]) : DenS W d sc (.Assign [t] e pos) fun ρ => F ρ >>= fun r => G r.1 r.2 >>= fun ρ₂ => some (.next, ρ₂) := by
  intro A env Z s ρ α fl ρ' R hE I L hf Q E' q
  obtain ⟨⟨a, ρ₁⟩, ha, hf⟩ := bindO hf
  obtain ⟨ρ₂, hg, hf⟩ := bindO hf
  cases hf
  refine exec_Assign (h1 env hE.scope) (h2 env hE.scope) (h A env Z s ρ α a ρ₁ R hE I L ha _ _ fun v s₁ Z₁ α₁ p₁ r₁ => ?_)
  rw [he]
  show wpAny _ _ (do assignAll v [assign t env]; pure Flow.next) _ _ _
  exact wpAny_bind (ht A env Z₁ s₁ ρ₁ α₁ v a _ R hE p₁.step.inv p₁.loc r₁ hg _ _ fun s₂ Z₂ α₂ p₂ => wpAny_pure (q .next s₂ Z₂ α₂ (p₁.trans p₂) trivial))
-- several names at once, own lists among them
inductive SReps (Z : AddrSet) (h : Heap) (s₀ : Shared) : List Value → List SV → List Addr → Prop where
  | nil : SReps Z h s₀ [] [] []
  | val {v : Value} {a : AV} {vs : List Value} {svs : List SV} {as : List Addr} : RepV Z h v a → SReps Z h s₀ vs svs as → SReps Z h s₀ (v :: vs) (.val a :: svs) as
  | own {a : Addr} {ws : List Value} {l : List AV} {vs : List Value} {svs : List SV} {as : List Addr} : s₀.heap.get? a = none → ¬ Z a → h.PlainList a ws.toArray → RepVs Z h ws l → a ∉ as → SReps Z h s₀ vs svs as → SReps Z h s₀ (.ref a :: vs) (.own ⟨none, l⟩ :: svs) (a :: as)
theorem SReps.length {h : Heap} {vs : List Value} {svs : List SV} {as : List Addr} (r : SReps Z h s₀ vs svs as) : vs.length = svs.length := by
  induction r with
  | nil => rfl
  | val _ _ ih => simp [ih]
  | own _ _ _ _ _ _ ih => simp [ih]
theorem SReps.fresh {h : Heap} {vs : List Value} {svs : List SV} {as : List Addr} (r : SReps Z h s₀ vs svs as) : ∀ a ∈ as, s₀.heap.get? a = none ∧ ∃ o, h.get? a = some o := by
  induction r with
  | nil => intro a h; cases h
  | val _ _ ih => exact ih
  | own h1 _ hp _ _ _ ih =>
    intro a ha
    rcases List.mem_cons.mp ha with rfl | ha
    · obtain ⟨n, hp⟩ := hp; exact ⟨h1, _, hp⟩
    · exact ih a ha
theorem SReps.step {O : Own} {vs : List Value} {svs : List SV} {as : List Addr} (r : SReps Z s.heap s₀ vs svs as) (p : Step W O Z s Z' s') (hz : ∀ a, Z a → ¬ O.a a) (ha : ∀ a ∈ as, ¬ O.a a) : SReps Z' s'.heap s₀ vs svs as := by
  induction r with
  | nil => exact .nil
  | val r _ ih => exact .val (p.rep hz r) (ih ha)
  | own h1 h2 hp rs hn _ ih =>
    rename_i a _ _ _ _ _ _
    have hO := ha a (List.mem_cons_self)
    obtain ⟨n, hp⟩ := hp
    refine .own h1 (fun z => ?_) ⟨n, p.keep _ _ hO hp⟩ (p.reps hz rs) hn (ih fun b hb => ha b (List.mem_cons_of_mem _ hb))
    rcases p.znew a z with z | z | z
    · exact h2 z
    · exact hO z
    · rw [hp] at z; cases z
theorem SReps.rebase {h : Heap} {vs : List Value} {svs : List SV} {as : List Addr} (r : SReps Z h s₁ vs svs as) (hb : ∀ a, s₁.heap.get? a = none → s₀.heap.get? a = none) : SReps Z h s₀ vs svs as := by
  induction r with
  | nil => exact .nil
  | val r _ ih => exact .val r ih
  | own h1 h2 hp rs hn _ ih => exact .own (hb _ h1) h2 hp rs hn ih
noncomputable def DenEs (W : Wd) (d : Nat) (sc : Scope) (es : List Expr) (f : Slots → Option (List SV)) : Prop :=
  ∀ (A : Around) (env : Env) (Z : AddrSet) (s : Shared) (ρ : Slots) (α : Str → Addr) (l : List SV), Room A d → EnvOk env sc → Inv W Z s → Loc W Z s.heap env ρ α → f ρ = some l →
    ∀ (pos : Pos) (Q : List Value → Shared → Prop) E', (∀ vs s' Z' as, Step W .none Z s Z' s' → SReps Z' s'.heap s vs l as → Q vs s') → wpAny W.M A (spliced (backTo pos (starEach es env))) Q E' s
theorem es_nil : DenEs W d sc [] fun _ => some [] := by
  intro A env Z s ρ α l R hE I L hf pos Q E' q; cases hf; exact wpAny_items_nil (q [] s Z [] (.id I) .nil)
theorem es_val {e : Expr} {rest : List Expr} {f : Slots → Option AV} {g : Slots → Option (List SV)} (he : DenP W d sc e f) (hr : DenEs W d sc rest g) (hs : ∀ env, starEach (e :: rest) env = (false, eval e env) :: starEach rest env) :
    DenEs W d sc (e :: rest) fun ρ => f ρ >>= fun a => g ρ >>= fun l => some (.val a :: l) := by
  intro A env Z s ρ α l R hE I L hf pos Q E' q
  obtain ⟨a, ha, hf⟩ := bindO hf
  obtain ⟨m, hm, hf⟩ := bindO hf
  cases hf
  exact wpAny_items_cons (he A env Z s ρ α a R hE I L ha _ _ fun v s₁ Z₁ p₁ r₁ => hr A env Z₁ s₁ ρ α m R hE p₁.inv (L.step0 p₁) hm pos _ _ fun vs s₂ Z₂ as p₂ r₂ =>
    q _ s₂ Z₂ as (p₁.tr p₂) (.val (p₂.rep0 r₁) (r₂.rebase fun a h => (p₁.none_back h).resolve_left id))) (hs env)
theorem es_own {e : Expr} {rest : List Expr} {f : Slots → Option (List AV)} {g : Slots → Option (List SV)} (he : DenO W d sc e f) (hr : DenEs W d sc rest g) (hs : ∀ env, starEach (e :: rest) env = (false, eval e env) :: starEach rest env) :
    DenEs W d sc (e :: rest) fun ρ => f ρ >>= fun a => g ρ >>= fun l => some (.own ⟨none, a⟩ :: l) := by
  intro A env Z s ρ α l R hE I L hf pos Q E' q
  obtain ⟨a, ha, hf⟩ := bindO hf
  obtain ⟨m, hm, hf⟩ := bindO hf
  cases hf
  refine wpAny_items_cons (he A env Z s ρ α a R hE I L ha _ _ fun b ws s₁ Z₁ p₁ hn hz hp rs => hr A env Z₁ s₁ ρ α m R hE p₁.inv (L.step0 p₁) hm pos _ _ fun vs s₂ Z₂ as p₂ r₂ => ?_) (hs env)
  obtain ⟨n, hp⟩ := hp
  refine q _ s₂ Z₂ (b :: as) (p₁.tr p₂) (.own hn (fun z => ?_) ⟨n, p₂.keep _ _ id hp⟩ (p₂.reps0 rs) (fun hb => ?_) (r₂.rebase fun a h => (p₁.none_back h).resolve_left id))
  · rcases p₂.znew b z with z | z | z
    · exact hz z
    · exact z
    · rw [hp] at z; cases z
  · have := (r₂.fresh b hb).1
    rw [hp] at this; cases this
noncomputable def setMany : Slots → List Str → List SV → Slots
  | ρ, x :: xs, v :: vs => setMany (ρ.set x v) xs vs
  | ρ, _, _ => ρ
noncomputable def StoresName (W : Wd) (A : Around) (env : Env) (x : Str) (f : Value → Sem Unit) : Prop := ∀ (v : Value) (Q : Unit → Shared → Prop) (E' : Value → Shared → Prop) (s : Shared), wpAny W.M A (storeName env x v) Q E' s → wpAny W.M A (f v) Q E' s
inductive StoresAll (W : Wd) (A : Around) (env : Env) : List Str → List (Value → Sem Unit) → Prop where
  | nil : StoresAll W A env [] []
  | cons {x : Str} {xs : List Str} {f : Value → Sem Unit} {fs : List (Value → Sem Unit)} : StoresName W A env x f → StoresAll W A env xs fs → StoresAll W A env (x :: xs) (f :: fs)
theorem storeMany (I₀ : Inv W Z₀ s₀) (L₀ : Loc W Z₀ s₀.heap env ρ₀ α₀) (hE : EnvOk env sc) : ∀ {xs : List Str} {fs : List (Value → Sem Unit)} {vs : List Value} {svs : List SV} {as : List Addr} {s : Shared} {ρ : Slots} {α : Str → Addr},
    StoresAll W A env xs fs → SReps Z s.heap s₀ vs svs as → xs.length = svs.length → (∀ x ∈ xs, Kd sc x) → (∀ a ∈ as, ¬ FOwn env ρ α a) → FStep W env Z₀ s₀ ρ₀ α₀ Z s ρ α →
    ∀ {Q : Unit → Shared → Prop} {E' : Value → Shared → Prop}, (∀ s' α', FStep W env Z₀ s₀ ρ₀ α₀ Z s' (setMany ρ xs svs) α' → Q () s') → wpAny W.M A (assignInOrder fs vs) Q E' s := by
  intro xs
  induction xs with
  | nil =>
    intro fs vs svs as s ρ α hF r hl hk hn p Q E' q
    cases hF
    cases r with
    | nil => exact wpAny_pure (q s α p)
    | val => cases hl
    | own => cases hl
  | cons x xs ih =>
    intro fs vs svs as s ρ α hF r hl hk hn p Q E' q
    cases hF with | cons f1 fr =>
    have kx := hk x List.mem_cons_self
    have kr : ∀ y ∈ xs, Kd sc y := fun y hy => hk y (List.mem_cons_of_mem _ hy)
    cases r with
    | nil => cases hl
    | val r1 rr =>
      rename_i v a vs svs
      refine wpAny_bind (wpAny_holding (f1 _ _ _ _ (p.loc.store (sv := .val a) (a := α x) p.step.inv hE kx r1 (fun l e => by cases e) fun s₁ p₁ fo L₁ => ?_)))
      have fs₁ : FStep W env Z s ρ α Z s₁ (ρ.set x (.val a)) (setA α x (α x)) := ⟨p₁, fun b f => (fo b f).elim .inl (fun ⟨⟨l, e⟩, _⟩ => by cases e), L₁⟩
      refine ih fr (rr.step p₁ (FStep.zo p.loc) hn) (by simpa using hl) kr (fun b hb f => ?_) (p.trans fs₁) fun s' α' p' => q s' α' p'
      rcases fo b f with f | ⟨⟨l, e⟩, _⟩
      · exact hn b hb f
      · cases e
    | own h1 h2 hp rs hna rr =>
      rename_i b ws l vs svs as
      refine wpAny_bind (wpAny_holding (f1 _ _ _ _ (p.loc.store (sv := .own ⟨none, l⟩) (a := b) p.step.inv hE kx ⟨rfl, ws, hp, rs⟩ (fun l₀ e₀ => ⟨h2, I₀.fresh_b h1, I₀.fresh_x h1, (fun b h => by cases e₀; cases h), fun y l' _ hy e => ?_⟩) fun s₁ p₁ fo L₁ => ?_)))
      · exact hn b List.mem_cons_self (.inr (.inr ⟨y, l', hy, e⟩))
      · have fs₁ : FStep W env Z₀ s₀ ρ₀ α₀ Z s₁ (ρ.set x (.own ⟨none, l⟩)) (setA α x b) :=
          ⟨p.step.trans p₁ (fun a f => p.fo a f) (fun _ h => h.elim), fun c f => (fo c f).elim (p.fo c) fun ⟨_, e⟩ => .inr (e ▸ h1), L₁⟩
        refine ih fr (rr.step p₁ (FStep.zo p.loc) fun c hc => hn c (List.mem_cons_of_mem _ hc)) (by simpa using hl) kr (fun c hc f => ?_) fs₁ fun s' α' p' => q s' α' p'
        rcases fo c f with f | ⟨_, e⟩
        · exact hn c (List.mem_cons_of_mem _ hc) f
        · exact hna (e ▸ hc)
theorem SReps.reverse {h : Heap} {vs : List Value} {svs : List SV} {as : List Addr} (r : SReps Z h s₀ vs svs as) : ∃ as', SReps Z h s₀ vs.reverse svs.reverse as' ∧ ∀ a ∈ as', a ∈ as := by
  have app : ∀ {vs ws : List Value} {svs tvs : List SV} {as bs : List Addr}, SReps Z h s₀ vs svs as → SReps Z h s₀ ws tvs bs → (∀ a ∈ as, a ∉ bs) → SReps Z h s₀ (vs ++ ws) (svs ++ tvs) (as ++ bs) := by
    intro vs ws svs tvs as bs r q hd
    induction r with
    | nil => exact q
    | val r _ ih => exact .val r (ih hd)
    | own h1 h2 hp rs hn _ ih =>
      exact .own h1 h2 hp rs (fun hm => (List.mem_append.mp hm).elim hn (hd _ List.mem_cons_self)) (ih fun a ha => hd a (List.mem_cons_of_mem _ ha))
  induction r with
  | nil => exact ⟨[], .nil, fun _ h => h⟩
  | val r _ ih =>
    obtain ⟨as', r', hs⟩ := ih
    simp only [List.reverse_cons]
    exact ⟨as' ++ [], app r' (.val r .nil) (fun _ _ h => by cases h), fun a ha => hs a (by simpa using ha)⟩
  | own h1 h2 hp rs hn _ ih =>
    rename_i a _ _ _ _ _ _
    obtain ⟨as', r', hs⟩ := ih
    simp only [List.reverse_cons]
    refine ⟨as' ++ [a], app r' (.own h1 h2 hp rs (fun h => by cases h) .nil) (fun b hb h => ?_), fun b hb => ?_⟩
    · cases List.mem_singleton.mp h; exact hn (hs _ hb)
    · rcases List.mem_append.mp hb with h | h
      · exact List.mem_cons_of_mem _ (hs b h)
      · cases List.mem_singleton.mp h; exact List.mem_cons_self
theorem tuple_made {es : List Expr} {k : Nat} {pos : Pos} {f : Slots → Option (List SV)} {l : List SV} (h : DenEs W d sc es f) (R : Room A d) (hE : EnvOk env sc) (I : Inv W Z s) (L : Loc W Z s.heap env ρ α) (hf : f ρ = some l) (hz : l.length ≤ 1000000) {Q : Value → Shared → Prop} {E' : Value → Shared → Prop}
    (q : ∀ a vs s' Z' as, Step W .none Z s Z' s' → IsTup s'.heap a vs.toArray → SReps Z' s'.heap s vs l as → Q (.ref a) s') : wpAny W.M A (eval (.Tuple es k pos) env) Q E' s := by
  refine Tuple_ (h A env Z s ρ α l R hE I L hf pos _ _ fun vs s₁ Z₁ as p₁ r₁ => wpAny_newObj_type ?_ ?_)
  · have p₂ : Step W .none Z₁ s₁ Z₁ { s₁ with heap := s₁.heap.push { cls := .type "tuple", data := .seq vs.toArray } } := .grow p₁.inv (tk := s₁.toks) (push_keep _ _)
    exact q _ vs _ Z₁ as (p₁.tr p₂) ⟨_, Heap.get?_push_size _ rfl, rfl, 0, rfl⟩ (r₁.step p₂ (fun _ _ h => h) fun _ _ h => h)
  · show vs.toArray.size ≤ sizeLine
    rw [List.size_toArray, r₁.length]; unfold sizeLine; (first | lia | omega)
theorem stores_bind (x : Str) : StoresName W A env x (bindName env x) := fun v Q E' s h => wpAny_bindName h
theorem stores_name (x : Str) (p : Pos) : StoresName W A env x (assign (.Name x p) env) := fun v Q E' s h => by
  show wpAny _ _ (do standAt p; bindName env x v) _ _ _
  exact wpAny_bind (wpAny_standAt (wpAny_bindName h))
theorem stores_binds : ∀ xs : List Str, StoresAll W A env xs (xs.map fun n => bindName env n)
  | [] => .nil
  | x :: xs => .cons (stores_bind x) (stores_binds xs)
theorem stores_names : ∀ xs : List (Str × Pos), StoresAll W A env (xs.map (·.1)) ((assignEach (xs.map fun x => Expr.Name x.1 x.2) env).map (·.2))
  | [] => .nil
  | (x, p) :: xs => .cons (stores_name x p) (stores_names xs)
theorem den_assign_swap {t : Expr} {es : List Expr} {k : Nat} {tp pos : Pos} {names : List Str} {f : Slots → Option (List SV)} (h : DenEs W d sc es f) (hk : ∀ x ∈ names, Kd sc x)
    (h1 : ∀ env : Env, env.scope = sc → swapsWithSole [t] (.Tuple es k tp) pos.line env = pure false) (h2 : ∀ env : Env, env.scope = sc → swappedStores [t] (.Tuple es k tp) env = pure (some names)) :
    DenS W d sc (.Assign [t] (.Tuple es k tp) pos) fun ρ => f ρ >>= fun l => if l.length = names.length ∧ l.length ≤ 1000000 then some (.next, setMany ρ names.reverse l.reverse) else none := by
  intro A env Z s ρ α fl ρ' R hE I L hf Q E' q
  obtain ⟨l, hl, hf⟩ := bindO hf
  obtain ⟨hz, hf⟩ := iteO hf
  · skip
    cases hf
    refine exec_Assign (h1 env hE.scope) (h2 env hE.scope) (tuple_made h R hE I L hl hz.2 fun a vs s₁ Z₁ as p₁ ht rs => ?_)
    show wpAny _ _ (do rule "assign.swapped-stores"; let items ← unpackItems (.ref a) names.length none; assignInOrder (names.reverse.map fun n => bindName env n) items.reverse; pure Flow.next) _ _ _
    rw [show names.length = vs.toArray.size by rw [List.size_toArray, rs.length]; exact hz.1.symm]
    refine wpAny_bind (wpAny_rule (wpAny_bind (unpackItems_tuple R.handled ht fun h' hx => ?_)))
    have p₂ : Step W .none Z₁ s₁ Z₁ { s₁ with heap := h' } := .grow p₁.inv (tk := s₁.toks) fun b o e => hx b o (Nat.ne_of_lt (Heap.lt_size e)) e
    have rs₂ := rs.step p₂ (fun _ _ h => h) fun _ _ h => h
    obtain ⟨as', rr, hsub⟩ := rs₂.reverse
    have pp := (FStep.pure L p₁).trans (FStep.pure (L.step0 p₁) p₂)
    have fr : ∀ b ∈ as', ¬ FOwn env ρ α b := fun b hb fo => by
      obtain ⟨o, e⟩ := L.alive fo
      rw [(rs.fresh b (hsub b hb)).1] at e; cases e
    exact wpAny_bind (storeMany I L hE (stores_binds names.reverse) rr (by simp [hz.1]) (fun x hx => hk x (List.mem_reverse.mp hx)) fr pp fun s' α' p' => wpAny_pure (q .next s' Z₁ α' p' trivial))
theorem assignStores_one (env : Env) (v : Value) (f : Value → Sem Unit) : assignStores env v none [f] = (do f v; pure Flow.next) := rfl
theorem findIdx_names (env : Env) : ∀ xs : List (Str × Pos), (assignEach (xs.map fun x => Expr.Name x.1 x.2) env).findIdx? (·.1) = none
  | [] => rfl
  | (x, p) :: xs => by
    show ((false, assign (.Name x p) env) :: assignEach (xs.map fun x => Expr.Name x.1 x.2) env).findIdx? (·.1) = none
    rw [List.findIdx?_cons, findIdx_names env xs]; rfl
theorem names_length (env : Env) (xs : List (Str × Pos)) : (assignEach (xs.map fun x => Expr.Name x.1 x.2) env).length = xs.length := by
  induction xs with
  | nil => rfl
  | cons x r ih => exact congrArg (· + 1) ih
theorem den_assign_names {es : List Expr} {k k' : Nat} {tp tp' pos : Pos} {xs : List (Str × Pos)} {f : Slots → Option (List SV)} (h : DenEs W d sc es f) (hk : ∀ x ∈ xs.map (·.1), Kd sc x)
    (h1 : ∀ env : Env, env.scope = sc → swapsWithSole [.Tuple (xs.map fun x => Expr.Name x.1 x.2) k' tp'] (.Tuple es k tp) pos.line env = pure false) (h2 : ∀ env : Env, env.scope = sc → swappedStores [.Tuple (xs.map fun x => Expr.Name x.1 x.2) k' tp'] (.Tuple es k tp) env = pure none) :
    DenS W d sc (.Assign [.Tuple (xs.map fun x => Expr.Name x.1 x.2) k' tp'] (.Tuple es k tp) pos) fun ρ => f ρ >>= fun l => if l.length = xs.length ∧ l.length ≤ 1000000 then some (.next, setMany ρ (xs.map (·.1)) l) else none := by
  intro A env Z s ρ α fl ρ' R hE I L hf Q E' q
  obtain ⟨l, hl, hf⟩ := bindO hf
  obtain ⟨hz, hf⟩ := iteO hf
  · skip
    cases hf
    refine exec_Assign (h1 env hE.scope) (h2 env hE.scope) (tuple_made h R hE I L hl hz.2 fun a vs s₁ Z₁ as p₁ ht rs => ?_)
    have he : assignEach [Expr.Tuple (xs.map fun x => Expr.Name x.1 x.2) k' tp'] env = [(false, assign (Expr.Tuple (xs.map fun x => Expr.Name x.1 x.2) k' tp') env)] := rfl
    rw [he, List.map_cons, List.map_nil, assignStores_one]
    dsimp only
    rw [assign_Tuple]
    refine wpAny_bind ?_
    have hfi := findIdx_names env xs
    refine wpAny_bind (wpAny_standAt (unpack_tuple R.handled ht (by rw [names_length, List.size_toArray, rs.length]; exact hz.1.symm) hfi fun h' hx => ?_))
    have p₂ : Step W .none Z₁ s₁ Z₁ { s₁ with heap := h' } := .grow p₁.inv (tk := s₁.toks) fun b o e => hx b o (Nat.ne_of_lt (Heap.lt_size e)) e
    have rs₂ := rs.step p₂ (fun _ _ h => h) fun _ _ h => h
    have pp := (FStep.pure L p₁).trans (FStep.pure (L.step0 p₁) p₂)
    have fr : ∀ b ∈ as, ¬ FOwn env ρ α b := fun b hb fo => by
      obtain ⟨o, e⟩ := L.alive fo
      rw [(rs.fresh b hb).1] at e; cases e
    exact storeMany I L hE (stores_names xs) rs₂ (by simp [hz.1]) hk fr pp fun s' α' p' => wpAny_pure (q .next s' Z₁ α' p' trivial)
-- while
noncomputable def whileA (c : Slots → Option Bool) (B : Slots → Option (AFlow × Slots)) : Nat → Slots → Option (AFlow × Slots)
  | 0, _ => none
  | n + 1, ρ => c ρ >>= fun b => if b = true then (B ρ >>= fun r => match r with
      | (.next, ρ') => whileA c B n ρ'
      | (.cont, ρ') => whileA c B n ρ'
      | (.brk, ρ') => some (.next, ρ')
      | (.ret v, ρ') => some (.ret v, ρ')) else some (.next, ρ)
theorem den_while (n : Nat) {test : Expr} {body : List Stmt} {pos : Pos} {c : Slots → Option Bool} {B : Slots → Option (AFlow × Slots)} (ht : DenT W d sc test c) (hb : DenSs W d sc body B) : DenS W d sc (.While test body [] pos) fun ρ => whileA c B n ρ := by
  intro A env Z s ρ α fl ρ' R hE I L hf Q E' q
  refine wpAny_While (codeAny_whileLoop (fun k s' => ∃ Z' ρ₁ α', FStep W env Z s ρ α Z' s' ρ₁ α' ∧ whileA c B k ρ₁ = some (fl, ρ')) ?_ n ⟨Z, ρ, α, .id I L, hf⟩)
  rintro k s₁ ⟨Z₁, ρ₁, α₁, p₁, hw⟩
  cases k with
  | zero => cases hw
  | succ k =>
    unfold whileA at hw
    obtain ⟨b, hb', hw⟩ := bindO hw
    refine ht A env Z₁ s₁ ρ₁ α₁ b R hE p₁.step.inv p₁.loc hb' _ _ fun s₂ Z₂ p₂ => ?_
    have pp := p₁.trans (FStep.pure p₁.loc p₂)
    cases b with
    | false =>
      cases hw
      exact wpAny_execs_nil (q .next s₂ Z₂ α₁ pp trivial)
    | true =>
      obtain ⟨⟨fl₂, ρ₂⟩, h₂, hw⟩ := bindO hw
      refine hb A env Z₂ s₂ ρ₁ α₁ fl₂ ρ₂ R hE p₂.inv pp.loc h₂ _ _ fun f s₃ Z₃ α₃ p₃ r₃ => ?_
      have ppp := pp.trans p₃
      clear h₂ p₃ pp
      revert hw
      apply flow_cases r₃
      · exact fun hw => ⟨k, Nat.lt_succ_self k, Z₃, ρ₂, α₃, ppp, hw⟩
      · intro hw; cases hw; exact q .next s₃ Z₃ α₃ ppp trivial
      · exact fun hw => ⟨k, Nat.lt_succ_self k, Z₃, ρ₂, α₃, ppp, hw⟩
      · intro v a r hw; cases hw; exact q _ s₃ Z₃ α₃ ppp r
end
end Mine
end
section
set_option linter.unusedVariables false
namespace Mine
section
variable {W : Wd} {Z Z' Z₁ Z₀ : AddrSet} {s s' s₁ s₀ : Shared} {env : Env} {sc : Scope} {ρ ρ' ρ₀ : Slots} {α α' α₀ : Str → Addr} {A : Around} {d : Nat}
noncomputable def IterAt (W : Wd) (A : Around) (Z : AddrSet) (s₀ s : Shared) (target : Expr) (it : Value) (items : List AV) : Prop :=
  ∃ (I : Addr) (fp wr : List Addr) (P : Nat → Value → Prop) (St : Nat → Heap → Prop), it = .ref I ∧ Walks W.prog W.w A I fp wr items.length P St ∧ St 0 s.heap ∧
    (∀ i v, P i v → ∃ a, items[i]? = some a ∧ RepV Z s.heap v a) ∧ (∀ b ∈ wr, s₀.heap.get? b = none ∧ ¬ Z b) ∧ (∀ b ∈ fp, b ∈ wr ∨ Z b) ∧ (∀ i h, St i h → ∀ b ∈ wr, ∃ o, h.get? b = some o) ∧
    (∀ i v (s' : Shared) (Q : Unit → Shared → Prop) (E' : Value → Shared → Prop), St i s'.heap → Q () s' → wpAny W.M A (letOwnedTupleGo target it v) Q E' s')
noncomputable def DenIt (W : Wd) (d : Nat) (sc : Scope) (target e : Expr) (g : Slots → Option (List AV)) : Prop :=
  ∀ (A : Around) (env : Env) (Z : AddrSet) (s : Shared) (ρ : Slots) (α : Str → Addr) (items : List AV), Room A d → EnvOk env sc → Inv W Z s → Loc W Z s.heap env ρ α → g ρ = some items →
    ∀ (Q : Value → Shared → Prop) (E' : Value → Shared → Prop), (∀ x s₁ Z₁, Step W .none Z s Z₁ s₁ → (∀ (Q' : Value → Shared → Prop) (E'' : Value → Shared → Prop), (∀ it s₂ Z₂, Step W .none Z₁ s₁ Z₂ s₂ → IterAt W A Z₂ s s₂ target it items → Q' it s₂) → wpAny W.M A (pyIter x) Q' E'' s₁) → Q x s₁) →
      wpAny W.M A (eval e env) Q E' s
inductive PlainTg : Expr → Prop
  | name (x : Str) (p : Pos) : PlainTg (.Name x p)
  | tup (es : List Expr) (k : Nat) (p : Pos) : PlainTg (.Tuple es k p)
theorem letGo_cls {target : Expr} {I : Addr} {o : Obj} {n : String} {v : Value} {Q : Unit → Shared → Prop} {E' : Value → Shared → Prop} (ht : PlainTg target) (ho : s.heap.get? I = some o) (hc : o.cls = .type n)
    (hn : (["enumerate", "zip", "dict_itemiterator", "dict_reverseitemiterator", "odict_iterator", "itertools.zip_longest", "itertools.pairwise"] : List String).contains n = false) (q : Q () s) : wpAny W.M A (letOwnedTupleGo target (.ref I) v) Q E' s := by
  cases ht with
  | name => exact wpAny_pure q
  | tup es k p =>
    unfold letOwnedTupleGo
    cases v with
    | ref a =>
      refine wpAny_bind (wpAny_load ho ?_)
      obtain ⟨c, dd, dat, sl⟩ := o
      cases (show c = _ from hc)
      cases dat with
      | fields vs =>
        simp only [hn, Bool.false_and, Bool.false_eq_true, if_false]
        exact wpAny_pure q
      | _ => exact wpAny_pure q
    | _ => exact wpAny_pure q
noncomputable def signsA (x : Str) : List AV := x.cps.toList.map fun c => .str (sign1 c)
noncomputable def iterA : AV → Option (List AV)
  | .lst l => some l
  | .tup l => some l
  | .str x => some (signsA x)
  | _ => none
theorem RepVs.back {h : Heap} {vs : List Value} {l : List AV} (rl : RepVs Z h vs l) {i : Nat} {w : Value} (hw : vs.toArray[i]? = some w) : ∃ a, l[i]? = some a ∧ RepV Z h w a := by
  rw [List.getElem?_toArray] at hw
  have hlt : i < l.length := by
    rw [← rl.length]; exact (List.getElem?_eq_some_iff.mp hw).1
  obtain ⟨u, hu, ru⟩ := rl.get (List.getElem?_eq_getElem hlt)
  rw [hw] at hu; cases hu
  exact ⟨_, List.getElem?_eq_getElem hlt, ru⟩
theorem iter_seq {a : Addr} {vs : List Value} {items : List AV} {target : Expr} {T : String} {St : Nat → Heap → Prop} (ht : PlainTg target) (I : Inv W Z s) (hb : ∀ a, s.heap.get? a = none → s₀.heap.get? a = none) (z : Z a) (rl : RepVs Z s.heap vs items)
    (hn : (["enumerate", "zip", "dict_itemiterator", "dict_reverseitemiterator", "odict_iterator", "itertools.zip_longest", "itertools.pairwise"] : List String).contains T = false)
    (Wk : Walks W.prog W.w A s.heap.objs.size [s.heap.objs.size, a] [s.heap.objs.size] vs.toArray.size (fun i v => vs.toArray[i]? = some v) St) (hst : ∀ i h, St i h → ∃ o, h.get? s.heap.objs.size = some o ∧ o.cls = .type T) (st : St 0 (s.heap.push { cls := .type T, data := .fields #[.ref a, .int 0 0] })) :
    IterAt W A Z s₀ { s with heap := s.heap.push { cls := .type T, data := .fields #[.ref a, .int 0 0] } } target (.ref s.heap.objs.size) items := by
  have p : Step W .none Z s Z { s with heap := s.heap.push { cls := .type T, data := .fields #[.ref a, .int 0 0] } } := .grow I (tk := s.toks) (push_keep _ _)
  rw [show vs.toArray.size = items.length from rl.length] at Wk
  refine ⟨s.heap.objs.size, [s.heap.objs.size, a], [s.heap.objs.size], _, St, rfl, Wk, st, fun i w hw => ?_, fun b hb' => ?_, fun b hb' => ?_, fun i h st b hb' => ?_, fun i w s' Q E'' st q' => ?_⟩
  · obtain ⟨b, hb', ru⟩ := rl.back hw; exact ⟨b, hb', p.rep0 ru⟩
  · cases List.mem_singleton.mp hb'; exact ⟨hb _ (push_none _), I.fresh_z (push_none _)⟩
  · rcases List.mem_cons.mp hb' with e | e
    · exact .inl (e ▸ List.mem_singleton_self _)
    · cases List.mem_singleton.mp e; exact .inr z
  · cases List.mem_singleton.mp hb'; obtain ⟨o, ho, _⟩ := hst i h st; exact ⟨o, ho⟩
  · obtain ⟨o, ho, hc⟩ := hst i _ st
    exact letGo_cls ht ho hc hn q'
theorem iter_val {v : Value} {av : AV} {items : List AV} {target : Expr} (ht : PlainTg target) (R : Room A d) (I : Inv W Z s) (hb : ∀ a, s.heap.get? a = none → s₀.heap.get? a = none) (r : RepV Z s.heap v av) (h : iterA av = some items) {Q : Value → Shared → Prop} {E' : Value → Shared → Prop}
    (q : ∀ it s₂ Z₂, Step W .none Z s Z₂ s₂ → IterAt W A Z₂ s₀ s₂ target it items → Q it s₂) : wpAny W.M A (pyIter v) Q E' s := by
  cases av with
  | lst _ =>
    cases h
    obtain ⟨a, vs, rfl, z, hl, rl⟩ := r.lst'
    have hne : a ≠ s.heap.objs.size := by obtain ⟨o, ho, _⟩ := hl; exact Nat.ne_of_lt (Heap.lt_size ho)
    refine wpAny_pyIter_list hl (q _ _ Z (.grow I (tk := s.toks) (push_keep _ _)) (iter_seq ht I hb z rl (by decide) (Walks.list (prog := W.prog) (w := W.w) R.handled s.heap.objs.size a hne vs.toArray) (fun i h st => ?_) ⟨⟨_, Heap.get?_push_size _ rfl, rfl, rfl⟩, let ⟨o, ho, r⟩ := hl; ⟨o, Heap.get?_push_of_some _ ho, r⟩⟩))
    obtain ⟨o, ho, hc, _⟩ := st.1; exact ⟨o, ho, hc⟩
  | tup _ =>
    cases h
    obtain ⟨a, vs, rfl, z, hl, rl⟩ := r.tup'
    have hne : a ≠ s.heap.objs.size := by obtain ⟨o, ho, _⟩ := hl; exact Nat.ne_of_lt (Heap.lt_size ho)
    refine wpAny_pyIter_tuple hl (q _ _ Z (.grow I (tk := s.toks) (push_keep _ _)) (iter_seq ht I hb z rl (by decide) (Walks.tuple (prog := W.prog) (w := W.w) R.handled s.heap.objs.size a hne vs.toArray) (fun i h st => ?_) ⟨⟨_, Heap.get?_push_size _ rfl, rfl, rfl⟩, let ⟨o, ho, r⟩ := hl; ⟨o, Heap.get?_push_of_some _ ho, r⟩⟩))
    obtain ⟨o, ho, hc, _⟩ := st.1; exact ⟨o, ho, hc⟩
  | str x =>
    cases h
    obtain ⟨t, rfl⟩ := r.str'
    refine wpAny_pyIter_strU ?_
    have p : Step W .none Z s Z { s with heap := s.heap.push { cls := .type (strIterType x), data := .fields #[.str x t, .int 0 0] } } := .grow I (tk := s.toks) (push_keep _ _)
    refine q _ _ Z p ⟨s.heap.objs.size, [s.heap.objs.size], [s.heap.objs.size], SignAt x, fun i h => h.IsStrIter s.heap.objs.size (strIterType x) x t i, rfl, ?_, ⟨_, Heap.get?_push_size _ rfl, rfl, rfl⟩, fun i w hw => ?_, fun b hb' => ?_, fun b hb' => ?_, fun i h st b hb' => ?_, fun i w s' Q E'' st q' => ?_⟩
    · rw [show (signsA x).length = x.cps.size by simp [signsA]]
      cases ha : x.cps.all (· < 128)
      · have := Walks.strWide (prog := W.prog) (w := W.w) R.handled s.heap.objs.size x t
        simpa [strIterType, ha] using this
      · have := Walks.strAscii (prog := W.prog) (w := W.w) R.handled s.heap.objs.size x t
        simpa [strIterType, ha] using this
    · obtain ⟨c, u, hc, rfl⟩ := hw
      exact ⟨.str (sign1 c), by simp [signsA, hc], .str _ _⟩
    · cases List.mem_singleton.mp hb'; exact ⟨hb _ (push_none _), I.fresh_z (push_none _)⟩
    · exact .inl hb'
    · cases List.mem_singleton.mp hb'; obtain ⟨o, ho, _⟩ := st; exact ⟨o, ho⟩
    · obtain ⟨o, ho, hc, _⟩ := st
      refine letGo_cls ht ho hc ?_ q'
      unfold strIterType
      split <;> decide
  | _ => cases h
theorem it_val {target e : Expr} {f : Slots → Option AV} (h : DenP W d sc e f) (ht : PlainTg target) : DenIt W d sc target e fun ρ => f ρ >>= iterA := by
  intro A env Z s ρ α items R hE I L hf Q E' q
  obtain ⟨a, ha, hf⟩ := bindO hf
  exact h A env Z s ρ α a R hE I L ha _ _ fun v s₁ Z₁ p₁ r₁ => q v s₁ Z₁ p₁ fun Q' E'' q' => iter_val (s₀ := s) ht R p₁.inv (fun a h => (p₁.none_back h).resolve_left id) r₁ hf q'
theorem small_ok {a b c : Int} (ha : -1000000000 < a ∧ a < 1000000000) (hb : -1000000000 < b ∧ b < 1000000000) (hc : 0 < c ∧ c < 1000000000) : Builtin.Range.small a b c = true := by
  have h0 : 0 ≤ Builtin.Range.rangeSize a b c ∧ Builtin.Range.rangeSize a b c ≤ 3000000000 := by
    unfold Builtin.Range.rangeSize
    rw [if_pos (by (first | lia | omega))]
    split
    · have h1 : 0 ≤ (b - a - 1) / c := Int.ediv_nonneg (by (first | lia | omega)) (by (first | lia | omega))
      have h2 : (b - a - 1) / c ≤ b - a - 1 := Int.ediv_le_self _ (by (first | lia | omega))
      (first | lia | omega)
    · (first | lia | omega)
  have hf : ∀ x : Int, -10000000000 < x → x < 10000000000 → Builtin.Range.rangeFitsLong x = true := fun x h1 h2 => by
    unfold Builtin.Range.rangeFitsLong; simp; (first | lia | omega)
  unfold Builtin.Range.small
  rw [hf a (by (first | lia | omega)) (by (first | lia | omega)), hf b (by (first | lia | omega)) (by (first | lia | omega)), hf c (by (first | lia | omega)) (by (first | lia | omega)), hf _ (by (first | lia | omega)) (by (first | lia | omega)), if_pos (by (first | lia | omega)), hf (b + (c - 1)) (by (first | lia | omega)) (by (first | lia | omega))]
  simp
noncomputable def rangeL (a c : Int) : Nat → List AV
  | 0 => []
  | n + 1 => .int a :: rangeL (a + c) c n
theorem rangeL_get (c : Int) : ∀ (n : Nat) (a : Int) (i : Nat), i < n → (rangeL a c n)[i]? = some (.int (a + i * c))
  | 0, _, _, h => by (first | lia | omega)
  | n + 1, a, 0, _ => by simp [rangeL]
  | n + 1, a, i + 1, h => by
    rw [rangeL, List.getElem?_cons_succ, rangeL_get c n (a + c) i (by (first | lia | omega))]
    congr 2
    push_cast
    rw [Int.add_mul, Int.one_mul]; (first | lia | omega)
theorem rangeL_length (c : Int) : ∀ (n : Nat) (a : Int), (rangeL a c n).length = n
  | 0, _ => rfl
  | n + 1, a => by simp [rangeL, rangeL_length c n]
noncomputable def rangeI : List Int → Option (List AV)
  | [n] => if -1000000000 < n ∧ n < 1000000000 then some (rangeL 0 1 n.toNat) else none
  | [a, b] => if -1000000000 < a ∧ a < 1000000000 ∧ -1000000000 < b ∧ b < 1000000000 then some (rangeL a 1 (b - a).toNat) else none
  | [a, b, c] => if -1000000000 < a ∧ a < 1000000000 ∧ -1000000000 < b ∧ b < 1000000000 ∧ 0 < c ∧ c < 1000000000 then some (rangeL a c (if a < b then ((b - a - 1) / c + 1).toNat else 0)) else none
  | _ => none
noncomputable def rangeA (l : List AV) : Option (List AV) := intsOf l >>= rangeI
theorem rangeA_1 (n : Int) : rangeA [.int n] = rangeI [n] := rfl
theorem size_one (a b : Int) : Builtin.Range.rangeSize a b 1 = (b - a).toNat := by
  simp only [Builtin.Range.rangeSize]; split <;> split <;> (first | lia | omega)
noncomputable abbrev rangeObj (a b c : Int) (t u v : Tok) : Obj := { cls := .type "range", data := .fields #[.int a t, .int b u, .int c v] }
theorem small_abs {c : Int} (h0 : 0 < c) (h1 : c < 1000000000) : c.natAbs < 1073741824 := by (first | lia | omega)
theorem size_pos (a b c : Int) (h0 : 0 < c) : Builtin.Range.rangeSize a b c = ((if a < b then ((b - a - 1) / c + 1).toNat else 0 : Nat) : Int) := by
  unfold Builtin.Range.rangeSize
  rw [if_pos h0]
  by_cases hab : a < b
  · have h1 : 0 ≤ (b - a - 1) / c := Int.ediv_nonneg (by (first | lia | omega)) (Int.le_of_lt h0)
    rw [if_pos hab, if_pos hab, Int.toNat_of_nonneg (Int.le_trans h1 (Int.le_add_one (Int.le_refl _)))]
  · rw [if_neg hab, if_neg hab]; rfl
theorem iter_range {r : Addr} {a b c : Int} {t u v : Tok} {n : Nat} {target : Expr} (ht : PlainTg target) (R : Room A d) (I : Inv W Z s) (hb : ∀ a, s.heap.get? a = none → s₀.heap.get? a = none) (hr : IsRange s.heap r a b c t u v) (hsm : Builtin.Range.small a b c = true) (hn : Builtin.Range.rangeSize a b c = n) {Q : Value → Shared → Prop} {E' : Value → Shared → Prop}
    (q : ∀ it s₂ Z₂, Step W .none Z s Z₂ s₂ → IterAt W A Z₂ s₀ s₂ target it (rangeL a c n) → Q it s₂) : wpAny W.M A (pyIter (.ref r)) Q E' s := by
  refine wpAny_pyIter_range hr hsm ?_
  have p : Step W .none Z s Z { s with heap := s.heap.push { cls := .type "range_iterator", data := .fields #[rawInt a, rawInt (Builtin.Range.rangeSize a b c), rawInt c] } } := .grow I (tk := s.toks) (push_keep _ _)
  refine q _ _ Z p ⟨s.heap.objs.size, [s.heap.objs.size], [s.heap.objs.size], fun i v => i < n ∧ ∃ t, v = .int (a + i * c) t, fun i h => IsRangeIter h s.heap.objs.size (a + (i : Nat) * c) ((n : Int) - (i : Nat)) c, rfl, ?_, ?_, fun i w hw => ?_, fun b hb' => ?_, fun b hb' => ?_, fun i h st b hb' => ?_, fun i w s' Q E'' st q' => ?_⟩
  · have W' := Walks.range (prog := W.prog) (w := W.w) R.handled s.heap.objs.size a c n
    rw [rangeL_length]
    exact ⟨W'.sub, W'.frame, fun i s Q E hi st hQ => W'.item i s Q E hi st fun v h' tk hv => hQ v h' tk ⟨hi, hv⟩, W'.done, W'.self⟩
  · have := Heap.get?_push_size s.heap (o := { cls := .type "range_iterator", data := .fields #[rawInt a, rawInt (Builtin.Range.rangeSize a b c), rawInt c] }) rfl
    simpa [hn] using this
  · obtain ⟨hi, t, rfl⟩ := hw
    exact ⟨_, rangeL_get c n a i hi, .int _ _⟩
  · cases List.mem_singleton.mp hb'; exact ⟨hb _ (push_none _), I.fresh_z (push_none _)⟩
  · exact .inl hb'
  · cases List.mem_singleton.mp hb'; exact ⟨_, st⟩
  · exact letGo_cls ht st rfl (by decide) q'
theorem it_range {target : Expr} {np pos : Pos} {es : List Expr} {fs : Slots → Option (List AV)} (hg : W.Glob "range" (.type "range")) (hk : sc.names.lookup ("range" : Str) = some .globalImplicit) (ha : DenPs W d sc es fs) (hns : ∀ env pos, (backTo pos (starEach es env)).any (·.1) = false) (ht : PlainTg target) :
    DenIt W d sc target (.Call (.Name "range" np) es [] pos) fun ρ => fs ρ >>= rangeA := by
  intro A env Z s ρ α items R hE I L hf Q E' q
  obtain ⟨l, hl, hf⟩ := bindO hf
  show wpAny _ _ (do callWith pos (← eval (.Name "range" np) env) [] (backTo pos (starEach es env)) (backToKw pos (keywordEach [] env))) _ _ _
  refine wpAny_bind (load_glob hE I hg hk (by decide) (callWith_den (keep_type "range") ha hns R hE I L hl fun vs s₁ Z₁ p₁ r₁ => ?_))
  obtain ⟨ns, hns', hf⟩ := bindO hf
  have ri := ints_rep r₁ hns'
  have core : ∀ (a b c : Int) (t u v : Tok) (tk : Nat) (n : Nat), s₁.toks ≤ tk → Builtin.Range.small a b c = true → Builtin.Range.rangeSize a b c = n → items = rangeL a c n →
      Q (.ref s₁.heap.objs.size) { s₁ with heap := s₁.heap.push (rangeObj a b c t u v), toks := tk } := fun a b c t u v tk n htk hsm hn hit => by
    have p₂ : Step W .none Z₁ s₁ Z₁ { s₁ with heap := s₁.heap.push (rangeObj a b c t u v), toks := tk } := .grow p₁.inv (push_keep _ _) htk
    subst hit
    exact q _ _ Z₁ (p₁.tr p₂) fun Q' E'' q' => iter_range (s₀ := s) ht R p₂.inv (fun a h => ((p₁.tr p₂).none_back h).resolve_left id) (Heap.get?_push_size _ rfl) hsm hn q'
  cases ri with
  | nil => cases hf
  | cons a t ri => cases ri with
    | nil =>
      obtain ⟨hb, hf⟩ := iteO hf; cases hf
      exact call_range_1 (core _ _ _ _ _ _ _ _ (by (first | lia | omega)) (small_ok ⟨by decide, by decide⟩ hb ⟨by decide, by decide⟩) (by rw [size_one, Int.sub_zero]) rfl)
    | cons b t' ri => cases ri with
      | nil =>
        obtain ⟨hb, hf⟩ := iteO hf; cases hf
        exact call_range_2 (core _ _ _ _ _ _ _ _ (by (first | lia | omega)) (small_ok ⟨hb.1, hb.2.1⟩ hb.2.2 ⟨by decide, by decide⟩) (size_one _ _) rfl)
      | cons c t'' ri => cases ri with
        | nil =>
          obtain ⟨hb, hf⟩ := iteO hf; cases hf
          have hc0 := hb.2.2.2.2.1
          have hc1 := hb.2.2.2.2.2
          refine call_range_3 (Int.ne_of_gt hc0) (core _ _ _ _ _ _ _ _ (by (first | lia | omega)) (small_ok ⟨hb.1, hb.2.1⟩ ⟨hb.2.2.1, hb.2.2.2.1⟩ hb.2.2.2.2) ?_ rfl) (.inl (PyProof.noPylong_small (small_abs hc0 hc1)))
          exact size_pos a b c hc0
        | cons => cases hf
theorem FStep.other {O : Own} (p : FStep W env Z s ρ α Z₁ s₁ ρ' α') (q : Step W O Z₁ s₁ Z' s') (ho : ∀ a, O.a a → s.heap.get? a = none ∧ ¬ FOwn env ρ' α' a ∧ ¬ Z₁ a) (hg : ∀ i, ¬ O.g i) : FStep W env Z s ρ α Z' s' ρ' α' :=
  ⟨p.step.trans q (fun a h => .inr (ho a h).1) (fun i h => (hg i h).elim), p.fo, p.loc.step q fun a h => (ho a h).2⟩
theorem Step.writes (I : Inv W Z s) {wr : List Addr} {h' : Heap} {tk : Nat} (hk : ∀ b o, b ∉ wr → s.heap.get? b = some o → h'.get? b = some o) (hw : ∀ b ∈ wr, W.h₀.get? b = none ∧ ¬ W.X b ∧ ¬ Z b) (htk : s.toks ≤ tk := by first | exact Nat.le_refl _ | exact Nat.le_add_right _ _ | assumption | (first | lia | omega)) : Step W (.addrs (· ∈ wr)) Z s Z { s with heap := h', toks := tk } :=
  ⟨⟨I.ok, fun b o e x => hk b o (fun hb => by rw [(hw b hb).1] at e; cases e) (I.base b o e x), fun b x => let ⟨o, e⟩ := I.xs b x; ⟨o, hk b o (fun hb => (hw b hb).2.1 x) e⟩, fun b z => let ⟨o, e⟩ := I.zin b z; ⟨o, hk b o (fun hb => (hw b hb).2.2 z) e⟩, I.os, I.bare, I.zx, I.z0, Nat.le_trans I.tk htk⟩,
    fun b o hb e => hk b o hb e, fun _ z => z, fun _ z => .inl z, fun _ _ _ e => e⟩
noncomputable def forA (T : AV → Slots → Option Slots) (B : Slots → Option (AFlow × Slots)) : List AV → Slots → Option (AFlow × Slots)
  | [], ρ => some (.next, ρ)
  | a :: l, ρ => T a ρ >>= fun ρ₁ => B ρ₁ >>= fun r => match r with
      | (.next, ρ') => forA T B l ρ'
      | (.cont, ρ') => forA T B l ρ'
      | (.brk, ρ') => some (.next, ρ')
      | (.ret v, ρ') => some (.ret v, ρ')
structure ForInv (W : Wd) (env : Env) (Z : AddrSet) (s : Shared) (ρ : Slots) (α : Str → Addr) (wr : List Addr) (St : Nat → Heap → Prop) (Z₂ : AddrSet) (s₂ s' : Shared) (i : Nat) (Z' : AddrSet) (ρ₁ : Slots) (α' : Str → Addr) : Prop where
  f : FStep W env Z s ρ α Z' s' ρ₁ α'
  st : St i s'.heap
  w : ∀ b ∈ wr, ¬ FOwn env ρ₁ α' b ∧ ¬ Z' b
  z : ∀ b o, Z₂ b → s₂.heap.get? b = some o → s'.heap.get? b = some o
  zz : ∀ b, Z₂ b → Z' b
structure ForAt (W : Wd) (A : Around) (env : Env) (Z : AddrSet) (s : Shared) (fp wr : List Addr) (St : Nat → Heap → Prop) (P : Nat → Value → Prop) (n : Nat) (J : Addr) (Z₂ : AddrSet) : Prop where
  I : Inv W Z s
  Wk : Walks W.prog W.w A J fp wr n P St
  hw : ∀ b ∈ wr, s.heap.get? b = none ∧ ¬ Z₂ b
  hf : ∀ b ∈ fp, b ∈ wr ∨ Z₂ b
  ob : ∀ i h, St i h → ∀ b ∈ wr, ∃ o, h.get? b = some o
section
variable {fp wr : List Addr} {St : Nat → Heap → Prop} {P : Nat → Value → Prop} {n i : Nat} {J : Addr} {Z₂ Z₃ Z₆ : AddrSet} {s₂ s₃ s₆ : Shared} {ρ₃ ρ₆ : Slots} {α₃ α₆ : Str → Addr}
theorem ForInv.drawn (k : ForAt W A env Z s fp wr St P n J Z₂) (c : ForInv W env Z s ρ α wr St Z₂ s₂ s₃ i Z₃ ρ₃ α₃) {h' : Heap} {tk : Nat} {j : Nat} (st : St j h') (hk : ∀ b o, b ∉ wr → s₃.heap.get? b = some o → h'.get? b = some o) (htk : s₃.toks ≤ tk) :
    ForInv W env Z s ρ α wr St Z₂ s₂ { s₃ with heap := h', toks := tk } j Z₃ ρ₃ α₃ := by
  have p₄ : Step W (.addrs (· ∈ wr)) Z₃ s₃ Z₃ { s₃ with heap := h', toks := tk } := .writes c.f.step.inv hk fun b hb => ⟨k.I.fresh_b (k.hw b hb).1, k.I.fresh_x (k.hw b hb).1, (c.w b hb).2⟩
  exact ⟨c.f.other p₄ (fun a ha => ⟨(k.hw a ha).1, c.w a ha⟩) (fun _ h => h), st, c.w, fun b o z e => hk b o (fun hb => (c.w b hb).2 (c.zz b z)) (c.z b o z e), c.zz⟩
theorem ForInv.step (k : ForAt W A env Z s fp wr St P n J Z₂) (c : ForInv W env Z s ρ α wr St Z₂ s₂ s₃ i Z₃ ρ₃ α₃) (p : FStep W env Z₃ s₃ ρ₃ α₃ Z₆ s₆ ρ₆ α₆) : ForInv W env Z s ρ α wr St Z₂ s₂ s₆ i Z₆ ρ₆ α₆ := by
  refine ⟨c.f.trans p, k.Wk.frame _ _ _ c.st fun b hb o e => p.step.keep b o (fun fo => ?_) e, fun b hb => ?_, fun b o z e => p.step.keep b o (fun fo => c.f.loc.nz b fo (c.zz b z)) (c.z b o z e), fun b z => p.step.zsub b (c.zz b z)⟩
  · rcases k.hf b hb with h | h
    · exact (c.w b h).1 fo
    · exact c.f.loc.nz b fo (c.zz b h)
  · obtain ⟨o, e⟩ := k.ob _ _ c.st b hb
    refine ⟨fun fo => ?_, fun z => ?_⟩
    · rcases p.fo b fo with h | h
      · exact (c.w b hb).1 h
      · rw [e] at h; cases h
    · rcases p.step.znew b z with h | h | h
      · exact (c.w b hb).2 h
      · exact (c.w b hb).1 h
      · rw [e] at h; cases h
end
theorem for_loop {target : Expr} {body : List Stmt} {T : AV → Slots → Option Slots} {B : Slots → Option (AFlow × Slots)} {items : List AV} {fl : AFlow} {fp wr : List Addr} {St : Nat → Heap → Prop} {P : Nat → Value → Prop} {J : Addr} {Z₂ : AddrSet} {s₂ : Shared} {Rr : Result → Shared → Prop}
    (ht : DenTg W d sc target T) (hb : DenSs W d sc body B) (R : Room A d) (hE : EnvOk env sc) (k : ForAt W A env Z s fp wr St P items.length J Z₂) (c : ForInv W env Z s ρ α wr St Z₂ s₂ s₂ 0 Z₂ ρ α) (hP : ∀ i v, P i v → ∃ a, items[i]? = some a ∧ RepV Z₂ s₂.heap v a)
    (hgo : ∀ i v (s' : Shared) (Q : Unit → Shared → Prop) (E' : Value → Shared → Prop), St i s'.heap → Q () s' → wpAny W.M A (letOwnedTupleGo target (.ref J) v) Q E' s') (hf : forA T B items ρ = some (fl, ρ'))
    (q : ∀ f s' Z' α', FStep W env Z s ρ α Z' s' ρ' α' → FlowRep Z' s'.heap f fl → Rr (.ok f) s') : codeAny W.M A (.forLoop target (.ref J) body [] env) Rr s₂ := by
  refine codeAny_forLoop_any (fun k s' => ∃ Z' ρ₁ α' i, ForInv W env Z s ρ α wr St Z₂ s₂ s' i Z' ρ₁ α' ∧ k = items.length - i ∧ i ≤ items.length ∧ forA T B (items.drop i) ρ₁ = some (fl, ρ')) ?_ items.length ⟨Z₂, ρ, α, 0, c, rfl, Nat.zero_le _, hf⟩
  clear c hf
  rintro _ s₃ ⟨Z₃, ρ₃, α₃, i, c, rfl, hi', hfa⟩
  by_cases hlt : i < items.length
  · refine wpAny_with_toks (Nat.le_refl _) (k.Wk.item i s₃ _ _ hlt c.st fun v h' tk hv st₄ hk => fun (htk : s₃.toks ≤ tk) => ?_)
    have c4 := c.drawn (tk := tk) k st₄ hk htk
    clear c
    obtain ⟨a, ha, ra⟩ := hP i v hv
    refine hgo (i + 1) v _ _ _ st₄ ?_
    rw [List.drop_eq_getElem_cons hlt, Option.some.inj ((List.getElem?_eq_getElem hlt).symm.trans ha)] at hfa
    unfold forA at hfa
    obtain ⟨ρ₅, h₅, hfa⟩ := bindO hfa
    obtain ⟨⟨fl₆, ρ₆⟩, h₆, hfa⟩ := bindO hfa
    refine ht A env Z₃ _ ρ₃ α₃ v a ρ₅ R hE c4.f.step.inv c4.f.loc (ra.mono c4.zz c4.z) h₅ _ _ fun s₅ Z₅ α₅ f₅ => ?_
    have c5 := c4.step k f₅
    clear c4 f₅ h₅
    refine hb A env Z₅ s₅ ρ₅ α₅ fl₆ ρ₆ R hE c5.f.step.inv c5.f.loc h₆ _ _ fun f s₆ Z₆ α₆ f₆ r₆ => ?_
    have c6 := c5.step k f₆
    have hlt' : items.length - (i + 1) < items.length - i := Nat.sub_lt_sub_left hlt (Nat.lt_succ_self i)
    clear h₆ f₆ c5
    revert hfa
    apply flow_cases r₆
    · exact fun hfa => ⟨items.length - (i + 1), hlt', Z₆, ρ₆, α₆, i + 1, c6, rfl, hlt, hfa⟩
    · intro hfa; cases hfa; exact q .next s₆ Z₆ α₆ c6.f trivial
    · exact fun hfa => ⟨items.length - (i + 1), hlt', Z₆, ρ₆, α₆, i + 1, c6, rfl, hlt, hfa⟩
    · intro v a r hfa; cases hfa; exact q _ s₆ Z₆ α₆ c6.f r
  · have hin : i = items.length := Nat.le_antisymm hi' (Nat.le_of_not_lt hlt)
    rw [hin, List.drop_length] at hfa
    cases hfa
    have hst : St items.length s₃.heap := hin ▸ c.st
    refine wpAny_with_toks (Nat.le_refl _) (k.Wk.done s₃ _ _ hst fun h' tk hk => fun (htk : s₃.toks ≤ tk) => ?_)
    have p₄ : Step W (.addrs (· ∈ wr)) Z₃ s₃ Z₃ { s₃ with heap := h', toks := tk } := .writes c.f.step.inv hk fun b hb => ⟨k.I.fresh_b (k.hw b hb).1, k.I.fresh_x (k.hw b hb).1, (c.w b hb).2⟩
    exact wpAny_execs_nil (q .next _ Z₃ α₃ (c.f.other p₄ (fun a ha => ⟨(k.hw a ha).1, c.w a ha⟩) (fun _ h => h)) trivial)
theorem den_for {target iter : Expr} {body : List Stmt} {pos : Pos} {g : Slots → Option (List AV)} {T : AV → Slots → Option Slots} {B : Slots → Option (AFlow × Slots)} (hi : DenIt W d sc target iter g) (ht : DenTg W d sc target T) (hb : DenSs W d sc body B) (hs : ∀ env x, foldedSetIterable iter env x = pure x) :
    DenS W d sc (.For target iter body [] pos) fun ρ => g ρ >>= fun items => forA T B items ρ := by
  intro A env Z s ρ α fl ρ' R hE I L hf Q E' q
  obtain ⟨items, hit, hf⟩ := bindO hf
  refine wpAny_For (hi A env Z s ρ α items R hE I L hit _ _ fun x s₁ Z₁ p₁ hx => hx _ _ fun it s₂ Z₂ p₂ hI => ?_) (hs env)
  obtain ⟨J, fp, wr, P, St, rfl, Wk, st, hP, hwr, hfp, hob, hgo⟩ := hI
  refine for_loop ht hb R hE ⟨I, Wk, hwr, hfp, hob⟩ ⟨(FStep.pure L p₁).trans (FStep.pure (L.step0 p₁) p₂), st, fun b hb => ⟨fun f => ?_, (hwr b hb).2⟩, fun _ _ _ e => e, fun _ z => z⟩ hP hgo hf q
  obtain ⟨o, e⟩ := L.alive f; rw [(hwr b hb).1] at e; cases e
end
end Mine
end
section
set_option linter.unusedVariables false
set_option linter.unusedSimpArgs false
namespace Mine
section
variable {W : Wd} {Z Z' Z₁ Z₀ : AddrSet} {s s' s₁ s₀ : Shared} {env : Env} {sc : Scope} {ρ ρ' ρ₀ : Slots} {α α' α₀ : Str → Addr} {A : Around} {d : Nat}
-- closures
noncomputable def closeL (env : Env) : List (Str × NameKind) → List (Str × Addr) → List (Str × Addr)
  | [], cs => cs
  | (n, k) :: r, cs => if k == .free then closeL env r ((n, (env.cells.lookup n).getD 0) :: cs) else closeL env r cs
theorem closureFor_eq {scope : Scope} (h : ∀ n, (n, NameKind.free) ∈ scope.names → ∃ c, env.cells.lookup n = some c) : closureFor scope env = pure (closeL env scope.names []) := by
  have key : ∀ (names : List (Str × NameKind)) (cs : List (Str × Addr)), (∀ n, (n, NameKind.free) ∈ names → ∃ c, env.cells.lookup n = some c) →
      (forIn names cs fun x r => match x with | (name, kind) => if (kind == .free) = true then do let a ← cellOf env name; pure (ForInStep.yield ((name, a) :: r)) else pure (ForInStep.yield r) : Sem (List (Str × Addr))) = pure (closeL env names cs) := by
    intro names
    induction names with
    | nil => intro cs _; rfl
    | cons x r ih =>
      intro cs hx
      obtain ⟨n, k⟩ := x
      rw [List.forIn_cons]
      have ih' := fun cs => ih cs fun m hm => hx m (List.mem_cons_of_mem _ hm)
      by_cases hk : (k == NameKind.free) = true
      · simp only [hk, if_true, closeL]
        have : k = .free := by simpa using hk
        subst this
        obtain ⟨c, hc⟩ := hx n List.mem_cons_self
        have e : cellOf env n = pure c := by unfold cellOf; rw [hc]
        rw [e, hc]
        exact ih' _
      · simp only [hk, if_false, closeL]
        exact ih' _
  unfold closureFor
  have := key scope.names [] h
  simp only at this ⊢
  rw [this]
  rfl
theorem closeL_lookup : ∀ (names : List (Str × NameKind)) (cs : List (Str × Addr)), (∀ n, (n, NameKind.free) ∈ names → ∃ c, env.cells.lookup n = some c) → ∀ n c, (closeL env names cs).lookup n = some c → env.cells.lookup n = some c ∨ cs.lookup n = some c
  | [], cs, _, n, c, h => .inr h
  | (m, k) :: r, cs, hx, n, c, h => by
    unfold closeL at h
    have hr := fun m hm => hx m (List.mem_cons_of_mem _ hm)
    by_cases hk : (k == NameKind.free) = true
    · rw [if_pos hk] at h
      rcases closeL_lookup r _ hr n c h with h₁ | h₁
      · exact .inl h₁
      · have hkf : k = .free := by simpa using hk
        obtain ⟨c', hc'⟩ := hx m (hkf ▸ List.mem_cons_self)
        rw [List.lookup_cons, hc'] at h₁
        by_cases e : (n == m) = true
        · rw [e] at h₁
          have enm : n = m := by simpa using e
          rw [enm, hc']
          exact .inl h₁
        · simp only [e] at h₁; exact .inr h₁
    · rw [if_neg hk] at h; exact closeL_lookup r _ hr n c h
theorem closeL_some : ∀ (names : List (Str × NameKind)) (cs : List (Str × Addr)) (n : Str), ((n, NameKind.free) ∈ names ∨ (cs.lookup n).isSome = true) → ((closeL env names cs).lookup n).isSome = true
  | [], cs, n, h => h.elim (fun h => by cases h) id
  | (m, k) :: r, cs, n, h => by
    unfold closeL
    by_cases hk : (k == NameKind.free) = true
    · rw [if_pos hk]
      refine closeL_some r _ n ?_
      by_cases e : (n == m) = true
      · exact .inr (by rw [List.lookup_cons, e]; rfl)
      · refine h.imp (fun h => ?_) fun h => by rw [List.lookup_cons]; simpa only [e] using h
        rcases List.mem_cons.mp h with h | h
        · cases h; simp at e
        · exact h
    · rw [if_neg hk]
      refine closeL_some r _ n (h.imp (fun h => ?_) id)
      rcases List.mem_cons.mp h with h | h
      · cases h; simp at hk
      · exact h
theorem lookup_mem : ∀ {names : List (Str × NameKind)} {n : Str} {k : NameKind}, names.lookup n = some k → (n, k) ∈ names
  | (m, k') :: r, n, k, h => by
    rw [List.lookup_cons] at h
    by_cases e : (n == m) = true
    · rw [e] at h
      have : n = m := by simpa using e
      subst this
      cases h
      exact List.mem_cons_self
    · simp only [e] at h; exact List.mem_cons_of_mem _ (lookup_mem h)
noncomputable def relabelS (scope sc : Scope) : Scope := { scope with names := scope.names.map fun (n, k) => if (k == .free && sc.names.lookup n == some .cell) then (n, .cell) else (n, k) }
theorem relabel_eq {scope : Scope} (hE : EnvOk env sc) : relabel scope env = relabelS scope sc := by
  unfold relabel relabelS
  congr 1
  apply List.map_congr_left
  intro x _
  obtain ⟨n, k⟩ := x
  simp only [hE.kfn, hE.kind, beq_self_eq_true, Bool.and_true]
noncomputable def relab (sc : Scope) (x : Str × NameKind) : Str × NameKind := if (x.2 == NameKind.free && sc.names.lookup x.1 == some NameKind.cell) = true then (x.1, NameKind.cell) else x
theorem relabelS_names (scope sc : Scope) : (relabelS scope sc).names = scope.names.map (relab sc) := by
  unfold relabelS
  apply List.map_congr_left
  intro x _
  obtain ⟨n, k⟩ := x
  rfl
theorem relab_fst (sc : Scope) (x : Str × NameKind) : (relab sc x).1 = x.1 := by unfold relab; split <;> rfl
theorem lookup_relab : ∀ (names : List (Str × NameKind)) (x : Str), (names.map (relab sc)).lookup x = (names.lookup x).map fun k => (relab sc (x, k)).2
  | [], x => rfl
  | (n, k) :: r, x => by
    rw [List.map_cons]
    have hf := relab_fst sc (n, k)
    rw [show relab sc (n, k) = (n, (relab sc (n, k)).2) from Prod.ext hf rfl, List.lookup_cons, List.lookup_cons]
    by_cases e : (x == n) = true
    · rw [e]
      have : x = n := by simpa using e
      rw [this]; rfl
    · have e' : (x == n) = false := by simpa using e
      rw [e']
      exact lookup_relab r x
theorem relabelS_lookup {scope : Scope} {x : Str} {k' : NameKind} (h : (relabelS scope sc).names.lookup x = some k') : ∃ k, scope.names.lookup x = some k ∧ (k' = k ∨ (k = .free ∧ k' = .cell)) := by
  rw [relabelS_names, lookup_relab] at h
  obtain ⟨k, hk, rfl⟩ := Option.map_eq_some_iff.mp h
  refine ⟨k, hk, ?_⟩
  unfold relab
  split
  · rename_i hc
    exact .inr ⟨by simpa using (Bool.and_eq_true_iff.mp hc).1, rfl⟩
  · exact .inl rfl
theorem relabelS_free {scope : Scope} {x : Str} (h : scope.names.lookup x = some .free) : (relabelS scope sc).names.lookup x = some .cell ∨ (relabelS scope sc).names.lookup x = some .free := by
  rw [relabelS_names, lookup_relab, h]
  unfold relab
  simp only [Option.map_some]
  split
  · exact .inl rfl
  · exact .inr rfl
noncomputable def capt (scope : Scope) (ρ : Slots) : Slots := fun x => if scope.names.lookup x = some .free then ρ x else none
structure CompScope (scope sc : Scope) : Prop where
  fn : scope.kind = .function
  nocell : ∀ x ∈ scope.names, x.2 ≠ .cell
  locals : ∀ x ∈ scope.names, x.2 = .local → scope.names.lookup x.1 = some .local
  free : ∀ x ∈ scope.names, x.2 = .free → scope.names.lookup x.1 = some .free ∧ (sc.names.lookup x.1 = some .cell ∨ sc.names.lookup x.1 = some .free)
theorem capt_env {scope : Scope} (hE : EnvOk env sc) (hs : CompScope scope sc) (cenv : Env) (hcl : cenv.cells = closeL env scope.names []) (hsc : cenv.scope = relabelS scope sc) (hg : cenv.globals = env.globals) (hb : cenv.builtins = env.builtins) : EnvOk cenv (relabelS scope sc) := by
  refine ⟨hsc, hg.trans hE.globals, hb.trans hE.builtins, hs.fn, fun x hx => ?_⟩
  have : scope.names.lookup x = some .free := by
    rcases hx with hx | hx
    · obtain ⟨k, hk, h⟩ := relabelS_lookup hx
      rcases h with rfl | ⟨rfl, _⟩
      · exact absurd rfl (hs.nocell _ (lookup_mem hk))
      · exact hk
    · obtain ⟨k, hk, h⟩ := relabelS_lookup hx
      rcases h with rfl | ⟨_, h⟩
      · exact hk
      · cases h
  have := closeL_some (env := env) scope.names [] x (.inl (lookup_mem this))
  rw [hcl]
  exact Option.isSome_iff_exists.mp this
theorem free_cells {scope : Scope} (hE : EnvOk env sc) (hs : CompScope scope sc) : ∀ n, (n, NameKind.free) ∈ scope.names → ∃ c, env.cells.lookup n = some c := fun n hn => hE.cells n (hs.free _ hn rfl).2
theorem capt_loc {scope : Scope} {C : Addr} {h : Heap} (hE : EnvOk env sc) (L : Loc W Z s.heap env ρ α) (hs : CompScope scope sc)
    (hk : ∀ b o, s.heap.get? b = some o → h.get? b = some o) (hz : ∀ b, Z' b → Z b ∨ s.heap.get? b = none) (hzs : ∀ b, Z b → Z' b) (hC : s.heap.get? C = none) (hCz : ¬ Z' C) (hb : W.h₀.get? C = none ∧ ¬ W.X C) {m : Str → Option Value} (hns : h.Ns C m)
    (cenv : Env) (hloc : cenv.locals = C) (hcl : cenv.cells = closeL env scope.names []) (hsc : cenv.scope = relabelS scope sc) : Loc W Z' h cenv (capt scope ρ) α := by
  have sub : ∀ n c, cenv.cells.lookup n = some c → env.cells.lookup n = some c := fun n c hn => by
    rw [hcl] at hn
    exact (closeL_lookup scope.names [] (free_cells hE hs) n c hn).resolve_right (fun h => by cases h)
  have capt_of : ∀ x sv, capt scope ρ x = some sv → scope.names.lookup x = some .free ∧ ρ x = some sv := fun x sv h => by
    unfold capt at h
    split at h
    · rename_i hf; exact ⟨hf, h⟩
    · cases h
  obtain ⟨m₀, ns₀, hv⟩ := L.ns
  have fo : ∀ b, FOwn cenv (capt scope ρ) α b → b = C ∨ FOwn env ρ α b := by
    rintro b (rfl | ⟨x, hn, hx⟩ | ⟨x, l, hx, rfl⟩)
    · exact .inl hloc
    · exact .inr (.inr (.inl ⟨x, hn, sub x b hx⟩))
    · exact .inr (.inr (.inr ⟨x, l, (capt_of x _ hx).2, rfl⟩))
  refine ⟨⟨m, hloc ▸ hns, fun x sv hx => ?_⟩, fun b f z => ?_, fun b f => ?_, fun x l b hx hb => L.fix x l b (capt_of x _ hx).2 hb, fun x y l l' hx hy e => L.inj x y l l' (capt_of x _ hx).2 (capt_of y _ hy).2 e, fun x c hx => ?_, fun x y c hx hy => L.cinj x y c (sub x c hx) (sub y c hy), fun c hx => ?_⟩
  · obtain ⟨hf, hx⟩ := capt_of x sv hx
    obtain ⟨v, a, r⟩ := hv x sv hx
    have hm := lookup_mem hf
    refine ⟨v, .inr ⟨?_, ?_⟩, ?_⟩
    · unfold Env.kindOf; rw [hsc]; exact relabelS_free hf
    · rcases a with ⟨k, _⟩ | ⟨_, c, hc, o, ho, hd⟩
      · rw [hE.kind] at k
        rcases (hs.free _ hm rfl).2 with k' | k' <;> (rw [k'] at k; cases k)
      · obtain ⟨c', hc'⟩ := Option.isSome_iff_exists.mp (closeL_some (env := env) scope.names [] x (.inl hm))
        rw [← hcl] at hc'
        have := sub x c' hc'
        rw [hc] at this; cases this
        exact ⟨c, hc', o, hk _ _ ho, hd⟩
    · cases sv with
      | val av => exact r.mono hzs fun a o _ e => hk a o e
      | own l => obtain ⟨e, vs, ⟨n, hn⟩, rs⟩ := r; exact ⟨e, vs, ⟨n, hk _ _ hn⟩, rs.mono hzs fun a o _ e => hk a o e⟩
  · rcases fo b f with rfl | f
    · exact hCz z
    · rcases hz b z with z | z
      · exact L.nz b f z
      · obtain ⟨o, e⟩ := L.alive f; rw [e] at z; cases z
  · rcases fo b f with rfl | f
    · exact hb
    · exact L.nb b f
  · obtain ⟨v, o, ho, hd⟩ := L.cell x c (sub x c hx); exact ⟨v, o, hk _ _ ho, hd⟩
  · exact hzs c (L.slf c (sub frz c hx))
-- the tests of a comprehension
noncomputable def DenIfs (W : Wd) (d : Nat) (sc : Scope) (ifs : List Expr) (t : Slots → Option Bool) : Prop :=
  ∀ (A : Around) (env : Env) (Z : AddrSet) (s : Shared) (ρ : Slots) (α : Str → Addr) (b : Bool), Room A d → EnvOk env sc → Inv W Z s → Loc W Z s.heap env ρ α → t ρ = some b →
    GivesB W A Z s (forIn ifs true fun c r => if r = true then do let ok ← isTrue c env (eval c env); pure (ForInStep.yield ok) else pure (ForInStep.yield r)) b
theorem ifs_nil : DenIfs W d sc [] fun _ => some true := by
  intro A env Z s ρ α b R hE I L hf Q E' q; cases hf; exact wpAny_pure (q s Z (.id I))
theorem ifs_one {c : Expr} {t : Slots → Option Bool} (h : DenT W d sc c t) : DenIfs W d sc [c] t := by
  intro A env Z s ρ α b R hE I L hf Q E' q
  rw [List.forIn_cons]
  simp only [if_true]
  exact wpAny_bind (wpAny_bind (h A env Z s ρ α b R hE I L hf _ _ fun s₁ Z₁ p => wpAny_pure (wpAny_pure (q s₁ Z₁ p))))
noncomputable def compA (T : AV → Slots → Option Slots) (t : Slots → Option Bool) (f : Slots → Option AV) : List AV → Slots → Option (List AV)
  | [], _ => some []
  | a :: l, ρ => T a ρ >>= fun ρ₁ => t ρ₁ >>= fun b => if b = true then (f ρ₁ >>= fun x => (compA T t f l ρ₁).map (x :: ·)) else compA T t f l ρ₁
end
end Mine
end
section
set_option linter.unusedVariables false
namespace Mine
section
variable {W : Wd} {Z Z' Z₁ Z₀ : AddrSet} {s s' s₁ s₀ : Shared} {env : Env} {sc : Scope} {ρ ρ' ρ₀ : Slots} {α α' α₀ : Str → Addr} {A : Around} {d : Nat}
theorem codeAny_comp {elt target iter : Expr} {ifs : List Expr} {scope : Scope} {pos : Pos} {it acc : Value} {env : Env} {R : Result → Shared → Prop} (I : Nat → Shared → Prop)
    (turn : ∀ n s, I n s → wpAny W.M A (pyNext it) (fun r s₁ => match r with
      | none => R (.ok .next) s₁
      | some v => wpAny W.M A (letOwnedTupleGo target it v) (fun _ s₁' => wpAny W.M A (assign target env v) (fun _ s₂ =>
          wpAny W.M A (forIn ifs true fun c r => if r = true then do let ok ← isTrue c env (eval c env); pure (ForInStep.yield ok) else pure (ForInStep.yield r)) (fun ok s₃ =>
            if ok = true then wpAny W.M A (eval elt env) (fun x s₄ =>
              wpAny W.M A (call (.builtin "list.append") [acc, x]) (fun _ s₅ => ∃ m, m < n ∧ I m s₅) (notedBy W.M A env fun e s' => R (.error e) s') s₄) (notedBy W.M A env fun e s' => R (.error e) s') s₃
            else ∃ m, m < n ∧ I m s₃) (notedBy W.M A env fun e s' => R (.error e) s') s₂) (notedBy W.M A env fun e s' => R (.error e) s') s₁') (notedBy W.M A env fun e s' => R (.error e) s') s₁) (notedBy W.M A env fun e s' => R (.error e) s') s)
    (n : Nat) (h : I n s) : codeAny W.M A (.compLoop (.ListComp elt [⟨target, iter, ifs, 0⟩] scope pos) 0 it acc env) R s := by
  refine codeAny_loop rfl I (fun n s hI => ?_) n h
  show wpAny _ A ((compTurn (.ListComp elt [⟨target, iter, ifs, 0⟩] scope pos) 0 it acc env).onRaise (fun x => do noteFrame x env; theTreesLotGoes x)) _ _ s
  refine wpAny_noted ?_
  rw [compTurn_list]
  refine wpAny_bind (wpAny_standAt (wpAny_bind (wpAny_mono (turn n s hI) (fun r s₁ h₁ => ?_) fun _ _ h' => h')))
  cases r with
  | none => exact wpAny_pure h₁
  | some v =>
    refine wpAny_bind (wpAny_mono h₁ (fun _ s₁' h₁' => ?_) fun _ _ h' => h')
    refine wpAny_bind (wpAny_mono h₁' (fun _ s₂ h₂ => wpAny_bind (wpAny_mono h₂ (fun ok s₃ h₃ => ?_) fun _ _ h' => h')) fun _ _ h' => h')
    cases ok with
    | false => exact wpAny_pure ⟨rfl, h₃⟩
    | true => exact wpAny_bind (wpAny_bind (wpAny_mono h₃ (fun x s₄ h₄ => wpAny_bind (wpAny_mono h₄ (fun _ s₅ h₅ => wpAny_pure (wpAny_pure ⟨rfl, h₅⟩)) fun _ _ h' => h')) fun _ _ h' => h'))
-- targets that write the table of the frame alone
noncomputable def DenTgC (W : Wd) (d : Nat) (sc : Scope) (t : Expr) (G : AV → Slots → Option Slots) : Prop :=
  ∀ (A : Around) (env : Env) (Z : AddrSet) (s : Shared) (ρ : Slots) (α : Str → Addr) (v : Value) (av : AV) (ρ' : Slots), Room A d → EnvOk env sc → Inv W Z s → Loc W Z s.heap env ρ α → RepV Z s.heap v av → G av ρ = some ρ' →
    ∀ (Q : Unit → Shared → Prop) (E' : Value → Shared → Prop), (∀ s' α', Step W (.addrs (· = env.locals)) Z s Z s' → (∀ b, FOwn env ρ' α' b → FOwn env ρ α b) → Loc W Z s'.heap env ρ' α' → Q () s') → wpAny W.M A (assign t env v) Q E' s
theorem tgc_name {x : Str} {p : Pos} (hk : sc.names.lookup x = some .local) : DenTgC W d sc (.Name x p) fun a ρ => some (ρ.set x (.val a)) := by
  intro A env Z s ρ α v av ρ' R hE I L r hf Q E' q
  cases hf
  show wpAny _ _ (do standAt p; bindName env x v) _ _ _
  refine wpAny_bind (wpAny_standAt (wpAny_bindName (L.store' (sv := .val av) (a := α x) I hE (.inl hk) r (fun l e => by cases e) fun s' c fc hc p fo l => ?_)))
  have := hc hk
  subst this
  exact q s' _ p (fun b f => (fo b f).elim id (fun ⟨⟨l, e⟩, _⟩ => by cases e)) l
theorem compA_bound {T : AV → Slots → Option Slots} {t : Slots → Option Bool} {f : Slots → Option AV} : ∀ {items : List AV} {ρ : Slots} {l : List AV}, compA T t f items ρ = some l → l.length ≤ items.length
  | [], _, _, h => by cases h; exact Nat.le_refl _
  | a :: r, ρ, l, h => by
    unfold compA at h
    obtain ⟨ρ₁, _, h⟩ := bindO h
    obtain ⟨b, _, h⟩ := bindO h
    split at h
    · obtain ⟨x, _, h⟩ := bindO h
      obtain ⟨m, hm, rfl⟩ := Option.map_eq_some_iff.mp h
      have := compA_bound hm
      simp; (first | lia | omega)
    · have := compA_bound h
      simp; (first | lia | omega)
theorem Step.nz {O : Own} (p : Step W O Z s Z' s') {b : Addr} {o : Obj} (hz : ¬ Z b) (ho : ¬ O.a b) (e : s.heap.get? b = some o) : ¬ Z' b := fun z => by
  rcases p.znew b z with z | z | z
  · exact hz z
  · exact ho z
  · rw [e] at z; cases z
structure CompInv (W : Wd) (cenv : Env) (Z : AddrSet) (s : Shared) (ρc : Slots) (αc : Str → Addr) (fp wr : List Addr) (St : Nat → Heap → Prop) (D : Addr) (Z₂ : AddrSet) (s₄ : Shared) (s' : Shared) (i : Nat) (vs : List Value) (l₁ : List AV) (Z' : AddrSet) (ρ₁ : Slots) (α₁ : Str → Addr) : Prop where
  p : Step W .none Z s Z' s'
  L : Loc W Z' s'.heap cenv ρ₁ α₁
  st : St i s'.heap
  hD : s'.heap.PlainList D vs.toArray
  rs : RepVs Z' s'.heap vs l₁
  fo : ∀ b, FOwn cenv ρ₁ α₁ b → FOwn cenv ρc αc b
  Dz : ¬ Z' D
  w : ∀ b ∈ wr, ¬ Z' b
  z : ∀ b o, Z₂ b → s₄.heap.get? b = some o → s'.heap.get? b = some o
  zz : ∀ b, Z₂ b → Z' b
structure CompAt (W : Wd) (A : Around) (cenv : Env) (Z : AddrSet) (s : Shared) (ρc : Slots) (αc : Str → Addr) (fp wr : List Addr) (St : Nat → Heap → Prop) (P : Nat → Value → Prop) (n : Nat) (J : Addr) (D : Addr) (Z₂ : AddrSet) : Prop where
  I : Inv W Z s
  Wk : Walks W.prog W.w A J fp wr n P St
  hw : ∀ b ∈ wr, s.heap.get? b = none ∧ ¬ Z₂ b
  hf : ∀ b ∈ fp, b ∈ wr ∨ Z₂ b
  ob : ∀ i h, St i h → ∀ b ∈ wr, ∃ o, h.get? b = some o
  hd : s.heap.get? D = none
  Dz : ¬ Z₂ D
  Do : ¬ FOwn cenv ρc αc D
  C : s.heap.get? cenv.locals = none
  wd : ∀ b ∈ wr, b ≠ D ∧ ¬ FOwn cenv ρc αc b
section
variable {cenv : Env} {ρc ρ₁ ρ₂ : Slots} {αc α₁ α₂ : Str → Addr} {fp wr : List Addr} {St : Nat → Heap → Prop} {P : Nat → Value → Prop} {D J : Addr} {Z₂ Z₃ Z₆ : AddrSet} {s₄ s₃ s₅ s₆ : Shared} {i n : Nat} {vs : List Value} {l₁ : List AV}
theorem CompInv.snoc (k : CompAt W A cenv Z s ρc αc fp wr St P n J D Z₂) (c : CompInv W cenv Z s ρc αc fp wr St D Z₂ s₄ s₃ i vs l₁ Z₃ ρ₁ α₁) {v : Value} {x : AV} {nD : Nat} {h'' : Heap} (rv : RepV Z₃ s₃.heap v x) (hsb : Heap.SameBut D s₃.heap h'') (ho : h''.get? D = some { cls := .type "list", data := .seq (vs.toArray.push v) nD }) :
    CompInv W cenv Z s ρc αc fp wr St D Z₂ s₄ { s₃ with heap := h'' } i (vs ++ [v]) (l₁ ++ [x]) Z₃ ρ₁ α₁ := by
  have p₈ : Step W (.addrs (· ∈ [D])) Z₃ s₃ Z₃ { s₃ with heap := h'' } := .writes (tk := s₃.toks) c.p.inv (fun b o hb e => hsb.extBut b o (fun q => hb (q ▸ List.mem_singleton_self D)) e) (fun b hb => by cases List.mem_singleton.mp hb; exact ⟨k.I.fresh_b k.hd, k.I.fresh_x k.hd, c.Dz⟩)
  have hz8 : ∀ b, Z₃ b → ¬ (Own.addrs (· ∈ [D])).a b := fun b z h => by cases List.mem_singleton.mp h; exact c.Dz z
  refine ⟨c.p.trans p₈ (fun a h => .inr (by cases List.mem_singleton.mp h; exact k.hd)) fun _ h => h.elim, c.L.step p₈ fun b hb => by cases List.mem_singleton.mp hb; exact ⟨fun f => k.Do (c.fo D f), c.Dz⟩,
    k.Wk.frame _ _ _ c.st fun b hb o e => hsb.extBut b o (fun q => ?_) e, ⟨nD, by rw [← List.push_toArray]; exact ho⟩, (p₈.reps hz8 c.rs).snoc (p₈.rep hz8 rv), c.fo, c.Dz, c.w, fun b o z e => hsb.extBut b o (fun q => k.Dz (q ▸ z)) (c.z b o z e), c.zz⟩
  rcases k.hf b hb with h1 | h1
  · exact (k.wd b h1).1 q
  · exact k.Dz (q ▸ h1)
theorem CompInv.drawn (k : CompAt W A cenv Z s ρc αc fp wr St P n J D Z₂) (c : CompInv W cenv Z s ρc αc fp wr St D Z₂ s₄ s₃ i vs l₁ Z₃ ρ₁ α₁) {h' : Heap} {tk : Nat} {j : Nat} (st : St j h') (hk : ∀ b o, b ∉ wr → s₃.heap.get? b = some o → h'.get? b = some o) (htk : s₃.toks ≤ tk) :
    CompInv W cenv Z s ρc αc fp wr St D Z₂ s₄ { s₃ with heap := h', toks := tk } j vs l₁ Z₃ ρ₁ α₁ := by
  have p₄ : Step W (.addrs (· ∈ wr)) Z₃ s₃ Z₃ { s₃ with heap := h', toks := tk } := .writes c.p.inv hk fun b hb => ⟨k.I.fresh_b (k.hw b hb).1, k.I.fresh_x (k.hw b hb).1, c.w b hb⟩
  exact ⟨c.p.trans p₄ (fun a h => .inr (k.hw a h).1) fun _ h => h.elim, c.L.step p₄ fun b hb => ⟨fun fo => (k.wd b hb).2 (c.fo b fo), c.w b hb⟩, st, (let ⟨m, e⟩ := c.hD; ⟨m, hk D _ (fun h => (k.wd D h).1 rfl) e⟩), p₄.reps (fun b z h => c.w b h z) c.rs, c.fo, c.Dz, c.w,
    fun b o z e => hk b o (fun hb => c.w b hb (c.zz b z)) (c.z b o z e), c.zz⟩
theorem CompInv.bound (k : CompAt W A cenv Z s ρc αc fp wr St P n J D Z₂) (c : CompInv W cenv Z s ρc αc fp wr St D Z₂ s₄ s₃ i vs l₁ Z₃ ρ₁ α₁) (p₅ : Step W (.addrs (· = cenv.locals)) Z₃ s₃ Z₃ s₅) (fo₅ : ∀ b, FOwn cenv ρ₂ α₂ b → FOwn cenv ρ₁ α₁ b) (L₅ : Loc W Z₃ s₅.heap cenv ρ₂ α₂) :
    CompInv W cenv Z s ρc αc fp wr St D Z₂ s₄ s₅ i vs l₁ Z₃ ρ₂ α₂ := by
  have hCz : ¬ Z₃ cenv.locals := c.L.nz _ (.inl rfl)
  have hz5 : ∀ b, Z₃ b → ¬ (Own.addrs (· = cenv.locals)).a b := fun b z f => hCz (by rw [← show b = cenv.locals from f]; exact z)
  refine ⟨c.p.trans p₅ (fun a h => .inr (by rw [show a = cenv.locals from h]; exact k.C)) fun _ h => h.elim, L₅, k.Wk.frame _ _ _ c.st fun b hb o e => p₅.keep b o (fun h => ?_) e, (let ⟨m, e⟩ := c.hD; ⟨m, p₅.keep D _ (fun h => k.Do (.inl h)) e⟩), p₅.reps hz5 c.rs, fun b f => c.fo b (fo₅ b f), c.Dz, c.w,
    fun b o z e => p₅.keep b o (fun h => hz5 b (c.zz b z) h) (c.z b o z e), c.zz⟩
  rcases k.hf b hb with h1 | h1
  · exact (k.wd b h1).2 (.inl h)
  · exact hz5 b (c.zz b h1) h
theorem CompInv.pure (k : CompAt W A cenv Z s ρc αc fp wr St P n J D Z₂) (c : CompInv W cenv Z s ρc αc fp wr St D Z₂ s₄ s₃ i vs l₁ Z₃ ρ₁ α₁) (p₇ : Step W .none Z₃ s₃ Z₆ s₆) : CompInv W cenv Z s ρc αc fp wr St D Z₂ s₄ s₆ i vs l₁ Z₆ ρ₁ α₁ :=
  have ⟨m, e⟩ := c.hD
  ⟨c.p.tr p₇, c.L.step0 p₇, k.Wk.frame _ _ _ c.st fun b _ o e => p₇.keep b o id e, ⟨m, p₇.keep D _ id e⟩, p₇.reps0 c.rs, c.fo, p₇.nz c.Dz id e, fun b hb => (let ⟨_, e⟩ := k.ob _ _ c.st b hb; p₇.nz (c.w b hb) id e), fun b o z e => p₇.keep b o id (c.z b o z e), fun b z => p₇.zsub b (c.zz b z)⟩
end
theorem comp_loop {elt target iter : Expr} {ifs : List Expr} {scope : Scope} {pos : Pos} {sc' : Scope} {T : AV → Slots → Option Slots} {t : Slots → Option Bool} {f : Slots → Option AV} {items l : List AV} {cenv : Env} {ρc : Slots} {αc : Str → Addr} {D J : Addr} {Z₂ : AddrSet} {s₄ : Shared}
    {fp wr : List Addr} {P : Nat → Value → Prop} {St : Nat → Heap → Prop}
    (htg : DenTgC W d sc' target T) (hif : DenIfs W d sc' ifs t) (helt : DenP W d sc' elt f) (R : Room A d) (hE : EnvOk cenv sc') (I : Inv W Z s) (hc : compA T t f items ρc = some l) (hz : items.length ≤ 1000000)
    (p : Step W .none Z s Z₂ s₄) (Lc : Loc W Z₂ s₄.heap cenv ρc αc) (Wk : Walks W.prog W.w A J fp wr items.length P St) (st : St 0 s₄.heap) (hP : ∀ i v, P i v → ∃ a, items[i]? = some a ∧ RepV Z₂ s₄.heap v a) (hwr : ∀ b ∈ wr, s.heap.get? b = none ∧ ¬ Z₂ b) (hfp : ∀ b ∈ fp, b ∈ wr ∨ Z₂ b) (hob : ∀ i h, St i h → ∀ b ∈ wr, ∃ o, h.get? b = some o)
    (hgo : ∀ i v (s' : Shared) (Q : Unit → Shared → Prop) (E' : Value → Shared → Prop), St i s'.heap → Q () s' → wpAny W.M A (letOwnedTupleGo target (.ref J) v) Q E' s')
    (hDp : s₄.heap.PlainList D #[]) (hD : s.heap.get? D = none) (hDz : ¬ Z₂ D) (hDo : ¬ FOwn cenv ρc αc D) (hC : s.heap.get? cenv.locals = none) (hwd : ∀ b ∈ wr, b ≠ D ∧ ¬ FOwn cenv ρc αc b) {Rr : Result → Shared → Prop}
    (q : ∀ s' Z' vs m, Step W .none Z s Z' s' → ¬ Z' D → s'.heap.PlainList D vs.toArray → RepVs Z' s'.heap vs l → s'.heap.Ns cenv.locals m → ¬ Z' cenv.locals → Rr (.ok .next) s') :
    codeAny W.M A (.compLoop (.ListComp elt [⟨target, iter, ifs, 0⟩] scope pos) 0 (.ref J) (.ref D) cenv) Rr s₄ := by
  have k : CompAt W A cenv Z s ρc αc fp wr St P items.length J D Z₂ := ⟨I, Wk, hwr, hfp, hob, hD, hDz, hDo, hC, hwd⟩
  refine codeAny_comp (fun k s' => ∃ i vs l₁ Z' ρ₁ α₁, CompInv W cenv Z s ρc αc fp wr St D Z₂ s₄ s' i vs l₁ Z' ρ₁ α₁ ∧ k = items.length - i ∧ i ≤ items.length ∧ (compA T t f (items.drop i) ρ₁).map (l₁ ++ ·) = some l) ?_ items.length
    ⟨0, [], [], Z₂, ρc, αc, ⟨p, Lc, st, hDp, .nil, fun _ h => h, hDz, fun b hb => (hwr b hb).2, fun _ _ _ e => e, fun _ z => z⟩, rfl, Nat.zero_le _, by rw [List.drop_zero, hc]; rfl⟩
  clear p Lc st hDp hwr hfp hob hD hDz hDo hC hwd I
  rintro _ s₃ ⟨i, vs, l₁, Z₃, ρ₃, α₃, c, rfl, hi', hca⟩
  obtain ⟨l₂, hca, hl⟩ := Option.map_eq_some_iff.mp hca
  by_cases hlt : i < items.length
  · refine wpAny_with_toks (Nat.le_refl _) (Wk.item i s₃ _ _ hlt c.st fun v h' tk hv st₄ hk => fun (htk : s₃.toks ≤ tk) => ?_)
    obtain ⟨a, ha, ra⟩ := hP i v hv
    have c4 := c.drawn (tk := tk) k st₄ hk htk
    refine hgo (i + 1) v _ _ _ st₄ ?_
    rw [List.drop_eq_getElem_cons hlt, Option.some.inj ((List.getElem?_eq_getElem hlt).symm.trans ha)] at hca
    unfold compA at hca
    obtain ⟨ρ₅, h₅, hca⟩ := bindO hca
    obtain ⟨b, hb, hca⟩ := bindO hca
    refine htg A cenv Z₃ _ ρ₃ α₃ v a ρ₅ R hE c4.p.inv c4.L (ra.mono c4.zz c4.z) h₅ _ _ fun s₅ α₅ p₅ fo₅ L₅ => ?_
    have c5 := c4.bound k p₅ fo₅ L₅
    clear c4 c
    refine hif A cenv Z₃ s₅ ρ₅ α₅ b R hE p₅.inv L₅ hb _ _ fun s₆ Z₆ p₆ => ?_
    have c6 := c5.pure k p₆
    clear c5
    have hlt' : items.length - (i + 1) < items.length - i := Nat.sub_lt_sub_left hlt (Nat.lt_succ_self i)
    cases b with
    | false => exact ⟨items.length - (i + 1), hlt', i + 1, vs, l₁, Z₆, ρ₅, α₅, c6, rfl, hlt, Option.map_eq_some_iff.mpr ⟨l₂, hca, hl⟩⟩
    | true =>
      obtain ⟨x, hx, hca⟩ := bindO hca
      obtain ⟨l₃, hl₃, hl₂⟩ := Option.map_eq_some_iff.mp hca
      refine helt A cenv Z₆ s₆ ρ₅ α₅ x R hE p₆.inv c6.L hx _ _ fun w s₇ Z₇ p₇ rw' => ?_
      have c7 := c6.pure k p₇
      clear c6
      have hvl : vs.length ≤ 1000000 := by
        have h1 := compA_bound hc
        have h2 := c7.rs.length
        rw [← hl, List.length_append] at h1
        (first | lia | omega)
      obtain ⟨nD, r6⟩ := c7.hD
      refine append_at (n := nD) r6 (fun h'' hsb ho' => ?_) (by rw [List.size_toArray]; unfold sizeLine; (first | lia | omega))
      exact ⟨items.length - (i + 1), hlt', i + 1, vs ++ [w], l₁ ++ [x], Z₇, ρ₅, α₅, c7.snoc k rw' hsb ho', rfl, hlt, Option.map_eq_some_iff.mpr ⟨l₃, hl₃, by rw [List.append_assoc, ← hl, ← hl₂]; rfl⟩⟩
  · have hin : i = items.length := Nat.le_antisymm hi' (Nat.le_of_not_lt hlt)
    rw [hin, List.drop_length] at hca
    cases hca
    rw [List.append_nil] at hl
    refine wpAny_with_toks (Nat.le_refl _) (Wk.done s₃ _ _ (hin ▸ c.st) fun h' tk hk => fun (htk : s₃.toks ≤ tk) => ?_)
    have p₄ : Step W (.addrs (· ∈ wr)) Z₃ s₃ Z₃ { s₃ with heap := h', toks := tk } := .writes c.p.inv hk fun b hb => ⟨k.I.fresh_b (k.hw b hb).1, k.I.fresh_x (k.hw b hb).1, c.w b hb⟩
    have L₄ := c.L.step p₄ fun b hb => ⟨fun fo => (k.wd b hb).2 (c.fo b fo), c.w b hb⟩
    obtain ⟨m, ns, _⟩ := L₄.ns
    obtain ⟨nD, hDg⟩ := c.hD
    exact q _ Z₃ vs m (c.p.trans p₄ (fun a h => .inr (k.hw a h).1) fun _ h => h.elim) c.Dz ⟨nD, hk D _ (fun h => (k.wd D h).1 rfl) hDg⟩ (hl ▸ p₄.reps (fun b z h => c.w b h z) c.rs) ns (c.L.nz _ (.inl rfl))
theorem comp_core {elt target iter : Expr} {ifs : List Expr} {scope : Scope} {pos p1 : Pos} {g : Slots → Option (List AV)} {T : AV → Slots → Option Slots} {t : Slots → Option Bool} {f : Slots → Option AV} {items l : List AV} {use : Option (Value → Sem Unit)} (hs : CompScope scope sc) (hi : DenIt W d sc target iter g)
    (htg : DenTgC W d (relabelS scope sc) target T) (hif : DenIfs W d (relabelS scope sc) ifs t) (helt : DenP W d (relabelS scope sc) elt f) (hset : ∀ env x, foldedSetIterable iter env x = pure x)
    (R : Room A d) (hE : EnvOk env sc) (I : Inv W Z s) (L : Loc W Z s.heap env ρ α) (hg : g ρ = some items) (hc : compA T t f items (capt scope ρ) = some l) (hz : items.length ≤ 1000000) {Q : Value → Shared → Prop} {E' : Value → Shared → Prop}
    (q : ∀ s' Z' vs C D m, Step W .none Z s Z' s' → s.heap.get? D = none → ¬ Z' D → s'.heap.PlainList D vs.toArray → RepVs Z' s'.heap vs l → s'.heap.Ns C m → s.heap.get? C = none → ¬ Z' C → C ≠ D → compPost W.M A E' use Q (.ref D) C (.ok .next) s') :
    wpAny W.M A (comprehension (.ListComp elt [⟨target, iter, ifs, 0⟩] scope pos) scope env p1 (newList []) false (eval iter env) use) Q E' s := by
  refine wpAny_comprehension_free rfl (hset env) (closureFor_eq (free_cells hE hs)) hs.fn hs.locals (hi A env Z s ρ α items R hE I L hg _ _ fun x s₁ Z₁ p₁ hx => hx _ _ fun it s₂ Z₂ p₂ hI => ?_)
  obtain ⟨J, fp, wr, P, St, rfl, Wk, st, hP, hwr, hfp, hob, hgo⟩ := hI
  refine wpAny_newObj_type (wpAny_newFunctionEnv hs.nocell (fun x hx => by cases hx) (fun h₄ ns₄ sb₄ => ?_) hs.fn)
  have p12 := p₁.tr p₂
  have L₂ := (L.step0 p₁).step0 p₂
  have hC : (s₂.heap.push { cls := .type "list", data := .seq #[] }).get? (s₂.heap.push { cls := .type "list", data := .seq #[] }).objs.size = none := push_none _
  have kC : ∀ b o, (s₂.heap.push { cls := .type "list", data := .seq #[] }).get? b = some o → h₄.get? b = some o := fun b o e => sb₄.extBut b o (Nat.ne_of_lt (Heap.lt_size e)) (Heap.get?_push_of_some _ e)
  have k4 : ∀ b o, s₂.heap.get? b = some o → h₄.get? b = some o := fun b o e => kC b o (push_keep _ _ b o e)
  have hD2 : s₂.heap.get? s₂.heap.objs.size = none := push_none _
  have hC2 : s₂.heap.get? (s₂.heap.push { cls := .type "list", data := .seq #[] }).objs.size = none := by
    cases e : s₂.heap.get? (s₂.heap.push { cls := .type "list", data := .seq #[] }).objs.size with
    | none => rfl
    | some o => rw [push_keep _ _ _ _ e] at hC; cases hC
  have hDg : h₄.get? s₂.heap.objs.size = some { cls := .type "list", data := .seq #[] } := kC _ _ (Heap.get?_push_size s₂.heap rfl)
  have hCD : (s₂.heap.push { cls := .type "list", data := .seq #[] }).objs.size ≠ s₂.heap.objs.size := fun e => by
    rw [e, Heap.get?_push_size s₂.heap rfl] at hC; cases hC
  have p24 : ∀ tk, s₂.toks ≤ tk → Step W .none Z₂ s₂ Z₂ { s₂ with heap := h₄, toks := tk } := fun tk htk => .grow p₂.inv k4 htk
  have hDs : s.heap.get? s₂.heap.objs.size = none := (p12.none_back hD2).resolve_left id
  have hCs : s.heap.get? (s₂.heap.push { cls := .type "list", data := .seq #[] }).objs.size = none := (p12.none_back hC2).resolve_left id
  have rl := relabel_eq (scope := scope) hE
  have al : ∀ b ∈ wr, ∃ o, s₂.heap.get? b = some o := hob _ _ st
  have key : codeAny W.M A (.compLoop (.ListComp elt [⟨target, iter, ifs, 0⟩] scope pos) 0 (.ref J) (.ref s₂.heap.objs.size) (compEnvC scope (closeL env scope.names []) (s₂.heap.push { cls := .type "list", data := .seq #[] }).objs.size env)) (compPost W.M A E' use Q (.ref s₂.heap.objs.size) (s₂.heap.push { cls := .type "list", data := .seq #[] }).objs.size) { s₂ with heap := h₄ } := by
    have Lc : Loc W Z₂ h₄ (compEnvC scope (closeL env scope.names []) (s₂.heap.push { cls := .type "list", data := .seq #[] }).objs.size env) (capt scope ρ) α :=
      capt_loc hE L₂ hs k4 (fun b z => .inl z) (fun _ z => z) hC2 (p₂.inv.fresh_z hC2) ⟨p₂.inv.fresh_b hC2, p₂.inv.fresh_x hC2⟩ ns₄ _ rfl rfl rl
    have fo : ∀ b, FOwn (compEnvC scope (closeL env scope.names []) (s₂.heap.push { cls := .type "list", data := .seq #[] }).objs.size env) (capt scope ρ) α b → b = (s₂.heap.push { cls := .type "list", data := .seq #[] }).objs.size ∨ ∃ o, s.heap.get? b = some o := by
      rintro b (e | ⟨x, hn, hx⟩ | ⟨x, m, hx, rfl⟩)
      · exact .inl e
      · exact .inr (L.alive (.inr (.inl ⟨x, hn, (closeL_lookup scope.names [] (free_cells hE hs) x b hx).resolve_right (fun h => by cases h)⟩)))
      · refine .inr (L.alive (.inr (.inr ⟨x, m, ?_, rfl⟩)))
        unfold capt at hx
        split at hx
        · exact hx
        · cases hx
    refine comp_loop (D := s₂.heap.objs.size) (cenv := compEnvC scope (closeL env scope.names []) (s₂.heap.push { cls := .type "list", data := .seq #[] }).objs.size env) htg hif helt R (capt_env hE hs _ rfl rl rfl rfl) I hc hz (p12.tr (p24 s₂.toks (Nat.le_refl _))) Lc Wk (Wk.frame _ _ _ st fun b _ o e => k4 b o e) (fun i v hv => ?_) hwr hfp hob hgo ⟨0, hDg⟩ hDs (p₂.inv.fresh_z hD2) (fun f => ?_) hCs (fun b hb => ⟨fun e => ?_, fun f => ?_⟩)
      fun s' Z' vs m p hz' hp rs ns hzC => q s' Z' vs _ _ m p hDs hz' hp rs ns hCs hzC hCD
    · obtain ⟨a, ha, ra⟩ := hP i v hv
      exact ⟨a, ha, (p24 s₂.toks (Nat.le_refl _)).rep0 ra⟩
    · rcases fo _ f with e | ⟨o, e⟩
      · exact hCD e.symm
      · rw [hDs] at e; cases e
    · obtain ⟨o, h⟩ := al b hb; rw [e, hD2] at h; cases h
    · rcases fo _ f with e | ⟨o, e⟩
      · obtain ⟨o, h⟩ := al b hb; rw [e, hC2] at h; cases h
      · rw [(hwr b hb).1] at e; cases e
  refine codeAny_compStart_list key (Wk.self 0 _ _ _ (Wk.frame _ _ _ st fun b _ o e => k4 b o e) key)
theorem deno_comp {elt target iter : Expr} {ifs : List Expr} {scope : Scope} {pos : Pos} {g : Slots → Option (List AV)} {T : AV → Slots → Option Slots} {t : Slots → Option Bool} {f : Slots → Option AV} (hs : CompScope scope sc) (hi : DenIt W d sc target iter g)
    (htg : DenTgC W d (relabelS scope sc) target T) (hif : DenIfs W d (relabelS scope sc) ifs t) (helt : DenP W d (relabelS scope sc) elt f) (hset : ∀ env x, foldedSetIterable iter env x = pure x) :
    DenO W d sc (.ListComp elt [⟨target, iter, ifs, 0⟩] scope pos) fun ρ => g ρ >>= fun items => if items.length ≤ 1000000 then compA T t f items (capt scope ρ) else none := by
  intro A env Z s ρ α l R hE I L hf Q E' q
  obtain ⟨items, hg, hf⟩ := bindO hf
  obtain ⟨hz, hf⟩ := iteO hf
  · skip
    rw [eval_ListComp]
    refine comp_core (use := none) hs hi htg hif helt hset R hE I L hg hf hz fun s' Z' vs C D m p hD hDz hp rs ns hC hCz hCD => ⟨m, ns, fun h' sb => ?_⟩
    obtain ⟨n, hp⟩ := hp
    have p₂ : Step W (.addrs (· ∈ [C])) Z' s' Z' { s' with heap := h' } := .writes (tk := s'.toks) p.inv (fun b o hb e => sb.extBut b o (by simpa using hb) e) (fun b hb => by cases List.mem_singleton.mp hb; exact ⟨I.fresh_b hC, I.fresh_x hC, hCz⟩)
    refine q D vs _ Z' (p.trans p₂ (fun a h => .inr (by cases List.mem_singleton.mp h; exact hC)) fun _ h => h.elim) hD hDz ⟨n, sb.extBut D _ (fun e => hCD e.symm) hp⟩ (p₂.reps (fun b z h => by cases List.mem_singleton.mp h; exact hCz z) rs)
end
end Mine
end
section
set_option linter.unusedVariables false
namespace Mine
section
variable {W : Wd} {Z Z' Z₁ : AddrSet} {s s' s₁ : Shared} {env : Env} {sc : Scope} {ρ ρ' : Slots} {α α' : Str → Addr} {A : Around} {d : Nat}
theorem den_assign_comp {x : Str} {px spos : Pos} {elt target iter : Expr} {ifs : List Expr} {scope : Scope} {pos : Pos} {g : Slots → Option (List AV)} {T : AV → Slots → Option Slots} {t : Slots → Option Bool} {f : Slots → Option AV} (hs : CompScope scope sc) (hi : DenIt W d sc target iter g)
    (htg : DenTgC W d (relabelS scope sc) target T) (hif : DenIfs W d (relabelS scope sc) ifs t) (helt : DenP W d (relabelS scope sc) elt f) (hset : ∀ env x, foldedSetIterable iter env x = pure x)
    (hk : sc.names.lookup x = some .local) (hline : px.line = pos.line) (hany : (scope.names.any fun (n, k) => n == x && (k == .local || k == .cell)) = false) :
    DenS W d sc (.Assign [.Name x px] (.ListComp elt [⟨target, iter, ifs, 0⟩] scope pos) spos) fun ρ => g ρ >>= fun items => if items.length ≤ 1000000 then compA T t f items (capt scope ρ) >>= fun l => some (.next, ρ.set x (.own ⟨none, l⟩)) else none := by
  intro A env Z s ρ α fl ρ' R hE I L hf Q E' q
  obtain ⟨items, hg, hf⟩ := bindO hf
  obtain ⟨hz, hf⟩ := iteO hf
  · skip
    obtain ⟨l, hc, hf⟩ := bindO hf
    cases hf
    have hsw : swapsWith (.ListComp elt [⟨target, iter, ifs, 0⟩] scope pos) (some (.Name x px)) spos.line env = pure true := by
      unfold swapsWith
      have h1 : (env.blockKind == ScopeKind.function) = true := by unfold Env.blockKind; rw [hE.kfn]; rfl
      have h2 : (env.kindOf x == some NameKind.local) = true := by rw [hE.kind, hk]; rfl
      have h3 : (px.line == (Expr.ListComp elt [⟨target, iter, ifs, 0⟩] scope pos).pos.line) = true := by
        show (px.line == pos.line) = true
        rw [hline]; exact beq_self_eq_true _
      show pure (env.blockKind == ScopeKind.function && env.kindOf x == some NameKind.local && px.line == (Expr.ListComp elt [⟨target, iter, ifs, 0⟩] scope pos).pos.line && !(scope.names.any fun (n, k) => n == x && (k == .local || k == .cell))) = pure true
      rw [h1, h2, h3, hany]; rfl
    rw [exec_Assign_Name_used _ _ _ _ hsw]
    refine wpAny_bind (wpAny_standAt (wpAny_bind ?_))
    show wpAny _ A (do let _ ← comprehension (.ListComp elt [⟨target, iter, ifs, 0⟩] scope pos) scope env _ (newList []) false (eval iter env) (some (assign (.Name x px) env))) _ _ s
    refine wpAny_bind (comp_core (use := some (assign (.Name x px) env)) hs hi htg hif helt hset R hE I L hg hc hz fun s' Z' vs C D m p hD hDz hp rs ns hC hCz hCD => ?_)
    show wpAny _ A (assign (.Name x px) env (.ref D)) _ _ _
    have L₁ := L.step0 p
    refine wpAny_assign_Name (L₁.store (sv := .own ⟨none, l⟩) (a := D) p.inv hE (.inl hk) ⟨rfl, vs, hp, rs⟩ (fun l₀ e₀ => ⟨hDz, I.fresh_b hD, I.fresh_x hD, (fun b h => by cases e₀; cases h), fun y l' _ hy e => ?_⟩) fun s₂ p₂ fo L₂ => ?_)
    · obtain ⟨o, ho⟩ := L.alive (.inr (.inr ⟨y, l', hy, rfl⟩))
      rw [e, hD] at ho; cases ho
    · have hCf : ¬ FOwn env ρ α C := fun f => by
        obtain ⟨o, ho⟩ := L.alive f; rw [hC] at ho; cases ho
      have hCf₂ : ¬ FOwn env (ρ.set x (.own ⟨none, l⟩)) (setA α x D) C := fun f => by
        rcases fo C f with f | ⟨_, e⟩
        · exact hCf f
        · exact hCD e
      obtain ⟨o, es, ep, e, dd, rest⟩ := ns
      have ns₂ : s₂.heap.Ns C m := ⟨o, es, ep, p₂.keep C o (fun h => hCf h) e, dd, rest⟩
      refine ⟨m, ns₂, fun h' sb => ?_⟩
      have p₃ : Step W (.addrs (· ∈ [C])) Z' s₂ Z' { s₂ with heap := h' } := .writes (tk := s₂.toks) p₂.inv (fun b o hb e => sb.extBut b o (by simpa using hb) e) (fun b hb => by cases List.mem_singleton.mp hb; exact ⟨I.fresh_b hC, I.fresh_x hC, hCz⟩)
      have L₃ := L₂.step p₃ fun b hb => by cases List.mem_singleton.mp hb; exact ⟨hCf₂, hCz⟩
      refine wpAny_pure (wpAny_pure (q .next _ Z' (setA α x D) ⟨(p.weak.trans p₂ (fun _ h => .inl h) (fun _ h => h.elim)).trans p₃ (fun b h => .inr (by cases List.mem_singleton.mp h; exact hC)) (fun _ h => h.elim), fun b f => (fo b f).imp id fun ⟨_, e⟩ => e ▸ hD, L₃⟩ trivial))
end
end Mine
end
section
set_option linter.unusedVariables false
namespace Mine
section
variable {W : Wd} {Z Z' Z₁ : AddrSet} {s s' s₁ : Shared} {env : Env} {sc : Scope} {ρ ρ' : Slots} {α α' : Str → Addr} {A : Around} {d : Nat}
structure FnK (W : Wd) (f : Addr) (fd : FuncData) (body : List Stmt) : Prop where
  look : ∃ o, W.K.lookup f = some o ∧ o.data = .func fd
  body : fd.body = .stmts body
  code : codeIn W.K fd.code fd.qualname = true
  globals : fd.globals = mainGlobals
  builtins : fd.builtins = builtinsNs
  closure : fd.closure = []
  nocell : ∀ x ∈ fd.scope.names, x.2 ≠ .cell
  nofree : ∀ x, fd.scope.names.lookup x ≠ some .free
  kind : fd.scope.kind = .function
  co : fd.scope.isCoroutine = false
  gen : fd.scope.isGenerator = false
noncomputable def retA : AFlow → AV
  | .ret a => a
  | _ => .none
theorem lookup_in {β : Type} {l : List (Str × β)} {x : Str} {v : β} (h : l.lookup x = some v) : (x, v) ∈ l := by
  induction l with
  | nil => cases h
  | cons p r ih =>
    obtain ⟨k, w⟩ := p
    rw [List.lookup_cons] at h
    split at h
    · rename_i e; cases h
      have := eq_of_beq e
      subst this; exact List.mem_cons_self
    · exact List.mem_cons_of_mem _ (ih h)
theorem call_enter {f : Addr} {fd : FuncData} {body : List Stmt} {vals : List Value} {binds : List (Str × Value)} (k : FnK W f fd body) (R : Room A (d + 1)) (I : Inv W Z s) (hb : BindsTo s fd ⟨vals, []⟩ binds) (hl : ∀ x ∈ binds, fd.scope.names.lookup x.1 = some .local)
    (hρ : ∀ x sv, ρ x = some sv → ∃ v, binds.reverse.lookup x = some v ∧ SRep Z s.heap (α x) v sv)
    (ho : ∀ x l, ρ x = some (.own l) → ¬ Z (α x) ∧ W.h₀.get? (α x) = none ∧ ¬ W.X (α x) ∧ ∀ b, l.place = some b → α x = b)
    (hi : ∀ x y l l', ρ x = some (.own l) → ρ y = some (.own l') → α x = α y → x = y)
    {F : Slots → Option (AFlow × Slots)} (hF : DenSs W d fd.scope body F) {fl : AFlow} (hf : F ρ = some (fl, ρ')) {Q : Value → Shared → Prop} {E' : Value → Shared → Prop}
    (q : ∀ v s' Z' α' env, Step W (.addrs fun a => ∃ x l, ρ x = some (.own l) ∧ α x = a) Z s Z' s' → RepV Z' s'.heap v (retA fl) → Loc W Z' s'.heap env ρ' α' → Q v s') : wpAny W.M A (call (.ref f) vals) Q E' s := by
  obtain ⟨o, hk, hd⟩ := k.look
  refine wpAny_call (codeAny_call_def R.lt (I.kin _ _ hk) hd I.nolimit (codeRec_of I.kin k.code) k.body hb k.nocell hl (fun h₁ hns hk₁ => ?_) k.co k.gen k.kind)
  have hN : s.heap.get? s.heap.objs.size = none := push_none _
  have p₁ : Step W .none Z s Z { s with heap := h₁, toks := s.toks + binds.length } := .grow I hk₁
  have hE : EnvOk (callEnv fd s.heap.objs.size f) fd.scope := ⟨rfl, k.globals, k.builtins, k.kind, fun x hx => by
    rcases hx with h | h
    · exact (k.nocell _ (lookup_in h) rfl).elim
    · exact (k.nofree _ h).elim⟩
  have fo : ∀ a, FOwn (callEnv fd s.heap.objs.size f) ρ α a → a = s.heap.objs.size ∨ ∃ x l, ρ x = some (.own l) ∧ α x = a := by
    rintro a (h | ⟨x, _, hx⟩ | h)
    · exact .inl h
    · change fd.closure.lookup x = some a at hx; rw [k.closure] at hx; cases hx
    · exact .inr h
  have L : Loc W Z h₁ (callEnv fd s.heap.objs.size f) ρ α := by
    refine ⟨⟨_, hns, fun x sv hx => ?_⟩, fun a f z => ?_, fun a f => ?_, fun x l b hx hb => (ho x l hx).2.2.2 b hb, hi, fun x c hc => ?_, fun x y c hc => ?_, fun c hc => ?_⟩
    · obtain ⟨v, hv, r⟩ := hρ x sv hx
      refine ⟨v, .inl ⟨hl _ (List.mem_reverse.mp (lookup_in hv)), hv⟩, ?_⟩
      cases sv with
      | val av => exact RepV.mono (fun _ z => z) (fun a o _ e => hk₁ a o e) r
      | own l => obtain ⟨e, vs, ⟨n, hn⟩, rs⟩ := r; exact ⟨e, vs, ⟨n, hk₁ _ _ hn⟩, rs.mono (fun _ z => z) fun a o _ e => hk₁ a o e⟩
    · rcases fo a f with rfl | ⟨x, l, hx, rfl⟩
      · exact I.fresh_z hN z
      · exact (ho x l hx).1 z
    · rcases fo a f with rfl | ⟨x, l, hx, rfl⟩
      · exact ⟨I.fresh_b hN, I.fresh_x hN⟩
      · exact ⟨(ho x l hx).2.1, (ho x l hx).2.2.1⟩
    · change fd.closure.lookup x = some c at hc; rw [k.closure] at hc; cases hc
    · change fd.closure.lookup x = some c at hc; rw [k.closure] at hc; cases hc
    · change fd.closure.lookup frz = some c at hc; rw [k.closure] at hc; cases hc
  refine hF _ _ Z _ ρ α fl ρ' (R.deeper _) hE p₁.inv L hf _ _ fun g s₂ Z₂ α₂ p₂ r₂ => ?_
  have p : Step W (.addrs fun a => ∃ x l, ρ x = some (.own l) ∧ α x = a) Z s Z₂ s₂ := p₁.weak.trans p₂.step (fun a h => (fo a h).elim (fun e => .inr (e ▸ hN)) .inl) (fun _ h => h.elim)
  refine q _ s₂ Z₂ α₂ _ p ?_ p₂.loc
  cases fl <;> cases g <;> first | exact r₂.elim | exact .none | exact r₂
noncomputable def bindA (names : List Str) (args : List AV) : Slots := fun x => ((names.zip args).reverse.lookup x).map .val
theorem lookup_none_of {β : Type} {x : Str} {m : List (Str × β)} (h : ∀ c, (x, c) ∉ m) : m.lookup x = none := by
  cases e : m.lookup x with
  | none => rfl
  | some c => exact (h c (lookup_in e)).elim
theorem zip_look {h : Heap} {vals : List Value} {args : List AV} (r : RepVs Z h vals args) (names : List Str) (x : Str) : (∀ a, (names.zip args).reverse.lookup x = some a → ∃ v, (names.zip vals).reverse.lookup x = some v ∧ RepV Z h v a) ∧ ((names.zip args).reverse.lookup x = none → (names.zip vals).reverse.lookup x = none) := by
  induction args generalizing vals names with
  | nil => rw [List.zip_nil_right]; rw [r.nil', List.zip_nil_right]; exact ⟨fun a h => by (cases h), fun _ => rfl⟩
  | cons b l ih =>
    obtain ⟨v, vs, rfl, r1, r2⟩ := r.cons'
    cases names with
    | nil => exact ⟨fun a h => by (cases h), fun _ => rfl⟩
    | cons n names =>
      obtain ⟨ih1, ih2⟩ := ih r2 names
      rw [List.zip_cons_cons, List.zip_cons_cons, List.reverse_cons, List.reverse_cons, List.lookup_append, List.lookup_append]
      cases e : (names.zip l).reverse.lookup x with
      | some c =>
        obtain ⟨w, hw, rw'⟩ := ih1 c e
        rw [hw]
        exact ⟨fun a h => ⟨w, rfl, Option.some.inj h ▸ rw'⟩, fun h => by (cases h)⟩
      | none =>
        rw [ih2 e, Option.none_or, Option.none_or, List.lookup_cons, List.lookup_cons]
        cases (x == n) with
        | true => exact ⟨fun a h => ⟨v, rfl, Option.some.inj h ▸ r1⟩, fun h => by (cases h)⟩
        | false => exact ⟨fun a h => by (cases h), fun _ => rfl⟩
theorem fspec_of {f : Addr} {fd : FuncData} {body : List Stmt} {names : List Str} {F : Slots → Option (AFlow × Slots)} (k : FnK W f fd body) (hb : ∀ s (vals : List Value), vals.length = names.length → BindsTo s fd ⟨vals, []⟩ (names.zip vals)) (hl : ∀ x ∈ names, fd.scope.names.lookup x = some .local)
    (hF : DenSs W d fd.scope body F) : FSpec W (d + 1) (.ref f) fun args => if args.length = names.length then (F (bindA names args)).map fun r => retA r.1 else none := by
  intro A Z s vals args av R I r hf Q E' q
  simp only at hf
  obtain ⟨hlen, hf⟩ := iteO hf
  · skip
    obtain ⟨⟨fl, ρ'⟩, hF', rfl⟩ := Option.map_eq_some_iff.mp hf
    have no : ∀ x l, bindA names args x ≠ some (.own l) := fun x l h => by
      obtain ⟨a, _, e⟩ := Option.map_eq_some_iff.mp h; cases e
    refine call_enter (α := fun _ => 0) k R I (hb s vals (r.length.trans hlen)) (fun x hx => hl _ (List.of_mem_zip (show (x.1, x.2) ∈ _ from hx)).1) (fun x sv hx => ?_) (fun x l hx => (no x l hx).elim) (fun x y l l' hx => (no x l hx).elim) hF hF' fun v s' Z' α' env p rv _ => q v s' Z' (p.mono (fun a ⟨x, l, hx, _⟩ => (no x l hx).elim) fun _ h => h.elim) rv
    obtain ⟨a, ha, rfl⟩ := Option.map_eq_some_iff.mp hx
    exact (zip_look r names x).1 a ha
end
end Mine
end
section
set_option linter.unusedVariables false
namespace Mine
section
variable {W : Wd} {Z Z' Z₁ : AddrSet} {s s' s₁ : Shared} {env : Env} {sc : Scope} {ρ ρ' : Slots} {α α' : Str → Addr} {A : Around} {d : Nat}
theorem RepEs.nil' {h : Heap} {es : List DictEntry} (r : RepEs Z h es []) : es = [] := by cases r; rfl
theorem RepEs.cons' {h : Heap} {es : List DictEntry} {x : Str} {a : AV} {fs : List (Str × AV)} (r : RepEs Z h es ((x, a) :: fs)) : ∃ hs t v es', es = ⟨hs, .str x t, v⟩ :: es' ∧ RepV Z h v a ∧ RepEs Z h es' fs := by cases r with | cons r rs => exact ⟨_, _, _, _, rfl, r, rs⟩
theorem isStr_eq (x name : Str) (t : Tok) : (Value.str x t).isStr name = (name == x) := by
  show (x == name) = (name == x)
  rw [Bool.eq_iff_iff, beq_iff_eq, beq_iff_eq]; exact ⟨Eq.symm, Eq.symm⟩
theorem RepEs.find {h : Heap} {name : Str} {es : List DictEntry} {fs : List (Str × AV)} (r : RepEs Z h es fs) : (∀ a, fs.lookup name = some a → ∃ en, es.find? (·.key.isStr name) = some en ∧ RepV Z h en.val a) ∧ (fs.lookup name = none → es.find? (·.key.isStr name) = none) ∧ es.any (·.refKey) = false := by
  induction fs generalizing es with
  | nil => rw [r.nil']; exact ⟨fun a h => by (cases h), fun _ => rfl, rfl⟩
  | cons p fs ih =>
    obtain ⟨x, b⟩ := p
    obtain ⟨hs, t, v, es', rfl, r1, rs⟩ := r.cons'
    obtain ⟨i1, i2, i3⟩ := ih rs
    rw [List.lookup_cons, List.find?_cons, List.any_cons, i3]
    show (∀ a, _ → ∃ en, (match (Value.str x t).isStr name with | true => _ | false => _) = some en ∧ _) ∧ (_ → (match (Value.str x t).isStr name with | true => _ | false => _) = none) ∧ _
    rw [isStr_eq]
    cases (name == x) with
    | true => exact ⟨fun a h => ⟨_, rfl, Option.some.inj h ▸ r1⟩, fun h => by (cases h), rfl⟩
    | false => exact ⟨i1, i2, rfl⟩
theorem RepEs.get {h : Heap} {name : Str} {es : List DictEntry} {fs : List (Str × AV)} {a : AV} (r : RepEs Z h es fs) (e : fs.lookup name = some a) : ∃ v, PySem.W.getL name es = some (some v) ∧ RepV Z h v a := by
  obtain ⟨en, h1, h2⟩ := r.find.1 a e
  exact ⟨en.val, by unfold PySem.W.getL; rw [h1], h2⟩
theorem RepEs.noref {h : Heap} {es : List DictEntry} {fs : List (Str × AV)} (r : RepEs Z h es fs) : es.any (·.refKey) = false := (r.find (name := "")).2.2
theorem RepEs.lacks {h : Heap} {name : Str} {es : List DictEntry} {fs : List (Str × AV)} (r : RepEs Z h es fs) (e : fs.lookup name = none) : es.find? (·.key.isStr name) = none := r.find.2.1 e
theorem RepEs.no {h : Heap} {name : Str} {es : List DictEntry} {fs : List (Str × AV)} (r : RepEs Z h es fs) (hn : fs.lookup name = none) : PySem.W.getL name es = some none := by
  unfold PySem.W.getL; rw [r.lacks hn, r.noref]; rfl
noncomputable def plainV : AV → Bool
  | .raw _ => false
  | _ => true
theorem handed {h : Heap} {v : Value} {a : AV} (r : RepV Z h v a) (hp : plainV a = true) : handedIn v = true := by
  cases r <;> first | rfl | cases hp
noncomputable def attrA (C : Addr) (name : Str) : AV → Option AV
  | .inst c fs => if c = C then (match fs.lookup name with | some a => if plainV a = true then some a else none | none => none) else none
  | _ => none
theorem den_attr {x name : Str} {p pos : Pos} {C : Addr} (hg : plainGet W.K C name = true) (hh : hasDictIn W.K C = true) (ha : findIn W.K (.ref C) name = some none) (h1 : (x == ("__debug__" : Str)) = false) (hn : (x == ("__classdict__" : Str)) = false) :
    DenP W d sc (.Attribute (.Name x p) name pos) fun ρ => getV ρ x >>= attrA C name := by
  intro A env Z s ρ α av R hE I L hf Q E' q
  replace ⟨a, hx, hf⟩ := bindO hf
  unfold attrA at hf
  split at hf
  · split at hf
    · rename_i c fs hc
      subst hc
      split at hf
      · rename_i a ha'
        replace ⟨hp, hf⟩ := iteO hf
        · cases hf
          refine Attribute_name (wpAny_Name (L.load hE (getV_eq hx) (fun v r => ?_) hn) h1)
          have r' : RepV Z s.heap v (.inst c fs) := r
          cases r' with | inst z1 z2 o1 o2 rs =>
          rename_i x' dx es n
          obtain ⟨w, hw, rw'⟩ := rs.get ha'
          exact get_value I.kin (od := some (dictOf es n)) ⟨o1, rfl, rfl, o2⟩ (plainGet_of hg).1 (findObj_own hh ha rfl hw) (handed rw' hp) (q _ _ Z (.toks I _) rw')
      · cases hf
    · cases hf
  · cases hf
noncomputable def LSpec (W : Wd) (d : Nat) (f : Value) (G : AV → List AV → List AV → Option (AV × List AV)) : Prop :=
  ∀ (A : Around) (Z : AddrSet) (s : Shared) (vself : Value) (self : AV) (a : Addr) (vs : List Value) (items : List AV) (vals : List Value) (args : List AV) (av : AV) (items' : List AV), Room A d → Inv W Z s → RepV Z s.heap vself self → ¬ Z a → W.h₀.get? a = none → ¬ W.X a →
    s.heap.PlainList a vs.toArray → RepVs Z s.heap vs items → RepVs Z s.heap vals args → G self items args = some (av, items') → ∀ (Q : Value → Shared → Prop) (E' : Value → Shared → Prop),
    (∀ v s' Z' vs', Step W (.addrs (· = a)) Z s Z' s' → ¬ Z' a → s'.heap.PlainList a vs'.toArray → RepVs Z' s'.heap vs' items' → RepV Z' s'.heap v av → Q v s') → wpAny W.M A (call f (vself :: .ref a :: vals)) Q E' s
noncomputable def bindLent (n0 n1 : Str) (names : List Str) (self : AV) (l : OL) (args : List AV) : Slots := ((bindA names args).set n0 (.val self)).set n1 (.own l)
theorem lspec_of {f : Addr} {fd : FuncData} {body : List Stmt} {n0 n1 : Str} {names : List Str} {F : Slots → Option (AFlow × Slots)} {G : AV → List AV → List AV → Option (AV × List AV)} (k : FnK W f fd body)
    (hb : ∀ s (v0 v1 : Value) (vals : List Value), vals.length = names.length → BindsTo s fd ⟨v0 :: v1 :: vals, []⟩ ((n0, v0) :: (n1, v1) :: names.zip vals)) (hl : ∀ x ∈ n0 :: n1 :: names, fd.scope.names.lookup x = some .local) (h01 : n0 ≠ n1) (h0 : n0 ∉ names) (h1 : n1 ∉ names)
    (hF : DenSs W d fd.scope body F)
    (hG : ∀ (a : Addr) (self : AV) (items args : List AV) (av : AV) (items' : List AV), G self items args = some (av, items') → args.length = names.length ∧ ∃ fl ρ', F (bindLent n0 n1 names self ⟨some a, items⟩ args) = some (fl, ρ') ∧ retA fl = av ∧ ρ' n1 = some (.own ⟨some a, items'⟩)) :
    LSpec W (d + 1) (.ref f) G := by
  intro A Z s vself self a vs items vals args av items' R I rself hza hba hxa hp rs rargs hg Q E' q
  obtain ⟨hlen, fl, ρ', hF', rfl, hρ'⟩ := hG a self items args av items' hg
  have hset : ∀ x sv, bindLent n0 n1 names self ⟨some a, items⟩ args x = some sv → (x = n1 ∧ sv = .own ⟨some a, items⟩) ∨ (x ≠ n1 ∧ x = n0 ∧ sv = .val self) ∨ (x ≠ n1 ∧ x ≠ n0 ∧ bindA names args x = some sv) := fun x sv hx => by
    unfold bindLent Slots.set at hx
    by_cases e : x = n1
    · rw [if_pos e] at hx; cases hx; exact .inl ⟨e, rfl⟩
    · rw [if_neg e] at hx
      by_cases e0 : x = n0
      · rw [if_pos e0] at hx; cases hx; exact .inr (.inl ⟨e, e0, rfl⟩)
      · rw [if_neg e0] at hx; exact .inr (.inr ⟨e, e0, hx⟩)
  have hown : ∀ x l, bindLent n0 n1 names self ⟨some a, items⟩ args x = some (.own l) → x = n1 ∧ l = ⟨some a, items⟩ := fun x l hx => by
    rcases hset x _ hx with ⟨e, h⟩ | ⟨_, _, h⟩ | ⟨_, _, h⟩
    · cases h; exact ⟨e, rfl⟩
    · cases h
    · obtain ⟨b, _, e⟩ := Option.map_eq_some_iff.mp h; cases e
  have hnz : ∀ x, x ∉ names → (names.zip vals).reverse.lookup x = none := fun x hx => lookup_none_of fun c hc => hx (List.of_mem_zip (List.mem_reverse.mp hc)).1
  have hbx : ∀ x, ((n0, vself) :: (n1, Value.ref a) :: names.zip vals).reverse.lookup x = ((names.zip vals).reverse.lookup x).or ([(n1, Value.ref a), (n0, vself)].lookup x) := fun x => by
    rw [← List.lookup_append]; simp
  refine call_enter (α := fun _ => a) k R I (hb s vself (.ref a) vals (rargs.length.trans hlen)) (fun x hx => hl _ ?_) (fun x sv hx => ?_) (fun x l hx => ?_) (fun x y l l' hx hy _ => (hown x l hx).1.trans (hown y l' hy).1.symm) hF hF' fun v s' Z' α' env p rv L' => ?_
  · rcases List.mem_cons.mp hx with rfl | hx
    · exact List.mem_cons_self
    · rcases List.mem_cons.mp hx with rfl | hx
      · exact List.mem_cons_of_mem _ List.mem_cons_self
      · exact List.mem_cons_of_mem _ (List.mem_cons_of_mem _ (List.of_mem_zip (show (x.1, x.2) ∈ _ from hx)).1)
  · rcases hset x sv hx with ⟨rfl, rfl⟩ | ⟨hne, rfl, rfl⟩ | ⟨hne, hne0, hb'⟩
    · refine ⟨.ref a, ?_, rfl, vs, hp, rs⟩
      rw [hbx, hnz _ h1]; simp
    · refine ⟨vself, ?_, rself⟩
      have : (x == n1) = false := by simpa using hne
      rw [hbx, hnz _ h0, List.lookup_cons, this]; simp
    · obtain ⟨b, hb1, rfl⟩ := Option.map_eq_some_iff.mp hb'
      obtain ⟨v, hv, rv⟩ := (zip_look rargs names x).1 b hb1
      exact ⟨v, by rw [hbx, hv]; rfl, rv⟩
  · obtain ⟨rfl, rfl⟩ := hown x l hx
    exact ⟨hza, hba, hxa, fun b hb => by cases hb; rfl⟩
  · obtain ⟨m, ns, hv⟩ := L'.ns
    obtain ⟨v₁, _, e, vs', hp', rs'⟩ := hv n1 _ hρ'
    have hfix := L'.fix n1 _ a hρ' rfl
    have nz' := L'.nz (α' n1) (.inr (.inr ⟨n1, _, hρ', rfl⟩))
    rw [hfix] at hp' nz'
    exact q v s' Z' vs' (p.mono (fun b ⟨x, l, hx, e⟩ => .inl e.symm) fun _ h => h.elim) nz' hp' rs' rv
theorem denx_lent {o y meth : Str} {p1 py apos pos : Pos} {es : List Expr} {fs : Slots → Option (List AV)} {C f : Addr} {G : AV → List AV → List AV → Option (AV × List AV)}
    (h1 : (o == ("__debug__" : Str)) = false) (hn : (o == ("__classdict__" : Str)) = false) (h1y : (y == ("__debug__" : Str)) = false) (hny : (y == ("__classdict__" : Str)) = false)
    (hg : plainGet W.K C meth = true) (hfi : findIn W.K (.ref C) meth = some (some (.ref f))) (hfn : isFn W.K (.ref f) = true) (hko : KeepOk W (.ref f)) (ha : DenPs W d sc es fs) (hs : ∀ env, starEach (.Name y py :: es) env = (false, eval (.Name y py) env) :: starEach es env) (hns : ∀ env pos, (backTo pos (starEach es env)).any (·.1) = false)
    (pl : Env → Value → Sem Bool) (he : ∀ env, eval (.Call (.Attribute (.Name o p1) meth apos) (.Name y py :: es) [] pos) env = (do
      let ov ← eval (.Name o p1) env
      standAt apos.atName
      let (f, first) ← holding [ov] (getMethod ov meth (pl env ov))
      callWith pos f first (backTo pos (starEach (.Name y py :: es) env)) [])) (hF : LSpec W d (.ref f) G) :
    DenX W d sc (.Call (.Attribute (.Name o p1) meth apos) (.Name y py :: es) [] pos) fun ρ => getV ρ o >>= fun self => getO ρ y >>= fun l => fs ρ >>= fun args => match self with
      | .inst c fl => if c = C ∧ fl.lookup meth = none then G self l.items args >>= fun r => some (r.1, ρ.set y (.own ⟨l.place, r.2⟩)) else none
      | _ => none := by
  intro A env Z s ρ α av ρ' R hE I L hf Q E' q
  replace ⟨self, hself, hf⟩ := bindO hf
  replace ⟨l, hl, hf⟩ := bindO hf
  replace ⟨args, hargs, hf⟩ := bindO hf
  split at hf
  · rename_i c fl
    replace ⟨hc, hf⟩ := iteO hf
    · skip
      obtain ⟨rfl, hlk⟩ := hc
      obtain ⟨⟨r1, r2⟩, hG, hf⟩ := bindO hf
      cases hf
      have hx := getO_eq hl
      rw [he env]
      refine wpAny_bind (wpAny_Name (L.load hE (getV_eq hself) (fun v r => ?_) hn) h1)
      have r' : RepV Z s.heap v (.inst c fl) := r
      have r'' := r'
      cases r' with | inst z1 z2 o1 o2 rs =>
      rename_i x' dx ess n
      refine wpAny_bind (wpAny_standAt (wpAny_bind (wpAny_holding (method_fn I.kin (od := some (dictOf ess n)) ⟨o1, rfl, rfl, o2⟩ (plainGet_of hg).1 (plainGet_of hg).2 hfi (beq_iff_eq.mp hfn) (by
        show (lookIn meth (dictOf ess n)).map _ = _
        rw [lookIn_dict, rs.no hlk]; rfl) ?_))))
      have hany : ∀ env pos, (backTo pos (starEach (.Name y py :: es) env)).any (·.1) = false := fun env pos => by
        rw [hs]
        cases hse : starEach es env with
        | nil => rfl
        | cons a b =>
          have := hns env pos
          rw [hse] at this
          simpa [backTo] using this
      refine callWith_of (P := W.K.In) (by rw [hany]; rfl) hko (evalArgs_ns (hany _ _) ?_)
      refine wpAny_items_cons (wpAny_Name (L.load hE hx (fun vy ry => ?_) hny) h1y) (hs env)
      obtain ⟨rfl, its, hpl, rl⟩ := ry
      refine ha A env Z s ρ α args R hE I L hargs pos _ _ fun vs s₁ Z₁ p₁ r₁ => ⟨p₁.inv.kin, ?_⟩
      have L₁ := L.step0 p₁
      have fb : FOwn env ρ α (α y) := .inr (.inr ⟨y, l, hx, rfl⟩)
      obtain ⟨n₀, hpl⟩ := hpl
      refine hF A Z₁ s₁ (.ref x') (.inst c fl) (α y) its l.items vs args r1 r2 R p₁.inv (p₁.rep0 r'') (L₁.nz _ fb) (L₁.nb _ fb).1 (L₁.nb _ fb).2 ⟨n₀, p₁.keep _ _ id hpl⟩ (p₁.reps0 rl) r₁ hG _ _ fun v s₂ Z₂ vs' p₂ hz₂ hp₂ rs₂ rv₂ => ?_
      exact q v s₂ Z₂ α ((FStep.pure L p₁).trans (L₁.swap hx p₂ hz₂ hp₂ rs₂)) rv₂
  · cases hf
end
end Mine
end
section
set_option linter.unusedVariables false
namespace Mine
section
variable {W : Wd} {Z Z' Z₁ : AddrSet} {s s' s₁ : Shared} {env : Env} {sc : Scope} {ρ ρ' : Slots} {α α' : Str → Addr} {A : Around} {d : Nat}
theorem den_exprX {e : Expr} {pos : Pos} {F : Slots → Option (AV × Slots)} (h : DenX W d sc e F) (hs : ∀ env, swapsWith e none pos.line env = pure false) :
    DenS W d sc (.Expr e pos) fun ρ => F ρ >>= fun r => match r.1 with | .none => some (.next, r.2) | _ => none := by
  intro A env Z s ρ α fl ρ' R hE I L hf Q E' q
  obtain ⟨⟨av, ρ₁⟩, h₁, hf⟩ := bindO hf
  cases av <;> cases hf
  refine wpAny_Expr (h A env Z s ρ α _ _ R hE I L h₁ _ _ fun v s₁ Z₁ α₁ p₁ r₁ => ?_) (by
      show (env.scope.kind == .module && _) = false
      rw [hE.kfn]; rfl) (hs env)
  cases r₁
  exact q .next s₁ Z₁ α₁ p₁ trivial
structure InitSt where
  attr : Str
  par : Str
  p1 : Pos
  p2 : Pos
  p3 : Pos
  p4 : Pos
noncomputable def InitSt.stmt (st : InitSt) : Stmt := .Assign [.Attribute (.Name "self" st.p1) st.attr st.p2] (.Name st.par st.p3) st.p4
noncomputable def initA (g : Str → Option AV) : List InitSt → List (Str × AV) → Option (List (Str × AV))
  | [], fs => some fs
  | st :: r, fs => match g st.par, fs.lookup st.attr with
    | some a, none => initA g r (fs ++ [(st.attr, a)])
    | _, _ => none
theorem putL_new {name : Str} {hsh : Int} {key v : Value} : ∀ {es : List DictEntry}, es.find? (·.key.isStr name) = none → putL name hsh key v es = es ++ [⟨hsh, key, v⟩]
  | [], _ => rfl
  | e :: r, h => by
    rw [List.find?_cons] at h
    unfold putL
    cases c : e.key.isStr name with
    | true => rw [c] at h; cases h
    | false => rw [c] at h; simp only at h; rw [if_neg (by decide), putL_new h]; rfl
theorem RepEs.snoc {h : Heap} {hs : Int} {x : Str} {t : Tok} {v : Value} {a : AV} {es : List DictEntry} {fs : List (Str × AV)} (r : RepEs Z h es fs) (q : RepV Z h v a) : RepEs Z h (es ++ [⟨hs, .str x t, v⟩]) (fs ++ [(x, a)]) := by
  induction fs generalizing es with
  | nil => rw [r.nil']; exact .cons q .nil
  | cons p fs ih => obtain ⟨y, b⟩ := p; obtain ⟨hs, t, v, es', rfl, r1, rs⟩ := r.cons'; exact .cons r1 (ih rs)
theorem RepEs.length {h : Heap} {es : List DictEntry} {fs : List (Str × AV)} (r : RepEs Z h es fs) : es.length = fs.length := by
  induction fs generalizing es with
  | nil => rw [r.nil']; rfl
  | cons p fs ih => obtain ⟨y, b⟩ := p; obtain ⟨hs, t, v, es', rfl, r1, rs⟩ := r.cons'; exact congrArg (· + 1) (ih rs)
structure ClsK (W : Wd) (C fI : Addr) : Prop where
  makes : makesIn W.K C = true
  init : findIn W.K (.ref C) "__init__" = some (some (.ref fI))
  fn : typeIn W.K (.ref fI) = some (.type "function")
  setattr : findIn W.K (.ref C) "__setattr__" = some (some (.builtin "object.__setattr__"))
  over : plainOver W.K C = true
  dict : hasDictIn W.K C = true
  get : plainGet W.K C "" = true
theorem init_run {C fI x dx L : Addr} {h₀ : Heap} {m : Str → Option Value} (k : ClsK W C fI) (X₀ : W.K.In h₀) (hL : env.locals = L) (hfn : env.scope.kind = .function) (hself : env.kindOf "self" = some .local) (hms : m "self" = some (.ref x)) {g : Str → Option AV}
    (hg : ∀ par a, g par = some a → ∃ v, m par = some v ∧ RepV Z h₀ v a) {Q : Flow → Shared → Prop} {E' : Value → Shared → Prop} (hne : x ≠ dx) {fs' : List (Str × AV)} :
    ∀ (l : List InitSt) (es : List DictEntry) (n : Nat) (fs : List (Str × AV)) (s : Shared), (∀ st ∈ l, env.kindOf st.par = some .local ∧ (st.par == ("__debug__" : Str)) = false ∧ takerIn W.K C st.attr = some none) → Fr h₀ L s.heap m → News h₀ L s.heap [(x, instObj C dx), (dx, dictOf es n)] → RepEs Z h₀ es fs → es.length + l.length ≤ 900 → initA g l fs = some fs' →
      (∀ h' tk es' n', Fr h₀ L h' m → News h₀ L h' [(x, instObj C dx), (dx, dictOf es' n')] → RepEs Z h₀ es' fs' → Q .next { s with heap := h', toks := tk }) → wpAny W.M A (execs (l.map InitSt.stmt) env) Q E' s
  | [], es, n, fs, s, _, F, N, re, _, hi, q => by
    cases hi
    exact wpAny_execs_nil (q s.heap s.toks es n F N re)
  | st :: r, es, n, fs, s, hl, F, N, re, hz, hi, q => by
    unfold initA at hi
    split at hi
    · rename_i a ha hno
      obtain ⟨v, hv, rv⟩ := hg _ _ ha
      obtain ⟨k1, k2, k3⟩ := hl st List.mem_cons_self
      refine wpAny_execs_cons ?_
      refine plainObj_wpAny_Assign_Attribute (wpAny_Name (wpAny_loadName_local hfn k1 (hL ▸ F.ns) hv (wpAny_Name (wpAny_loadName_local hfn hself (hL ▸ F.ns) hms ?_) (by decide))) k2) rfl
      have hfind := re.lacks hno
      have hgl := re.no hno
      refine set_dict (K := W.K) (es' := es ++ [⟨PyData.keyHash W.w.params st.attr, .str st.attr (s.toks + 1), v⟩]) (n' := putN st.attr es n) F X₀ N (InstAt.of_news N List.mem_cons_self (List.mem_cons_of_mem _ List.mem_cons_self)) rfl k.setattr k.over k3 k.dict (by rw [hgl]; rfl) (by rw [putL_new hfind]) (.tail hne (.head fun p hp => by cases hp)) (by simp at hz ⊢; (first | lia | omega)) fun h' F' N' => ?_
      exact init_run k X₀ hL hfn hself hms hg hne r _ _ (fs ++ [(st.attr, a)]) _ (fun st hst => hl st (List.mem_cons_of_mem _ hst)) F' N' (re.snoc rv) (by simp at hz ⊢; (first | lia | omega)) hi fun h' tk es' n' F'' N'' re' => q h' tk es' n' F'' N'' re'
    · cases hi
theorem ctor_raw {C fI : Addr} {fd : FuncData} {names : List Str} {l : List InitSt} {bd : List AV → Option (List AV)} (k : ClsK W C fI) (kf : FnK W fI fd (l.map InitSt.stmt))
    (hb : ∀ (Z : AddrSet) (h : Heap) (x : Value) (vals : List Value) (args full : List AV), RepVs Z h vals args → bd args = some full → ∃ fvals, (∀ s : Shared, W.K.In s.heap → BindsTo s fd ⟨x :: vals, []⟩ (("self", x) :: names.zip fvals)) ∧ RepVs Z h fvals full)
    (hl : ∀ x ∈ ("self" : Str) :: names, fd.scope.names.lookup x = some .local) (hns : ("self" : Str) ∉ names) (hst : ∀ st ∈ l, st.par ∈ names ∧ (st.par == ("__debug__" : Str)) = false ∧ takerIn W.K C st.attr = some none) (hlen : l.length ≤ 900)
    {vals : List Value} {args full : List AV} {fs : List (Str × AV)} (R : Room A (d + 1)) (I : Inv W Z s) (r : RepVs Z s.heap vals args) (hfull : bd args = some full) (hfs : initA (fun p => (names.zip full).reverse.lookup p) l [] = some fs) {Q : Value → Shared → Prop} {E' : Value → Shared → Prop}
    (q : ∀ s' x dx es n, Step W .none Z s Z s' → s.heap.get? x = none → s.heap.get? dx = none → x ≠ dx → s'.heap.get? x = some (instObj C dx) → s'.heap.get? dx = some (dictOf es n) → RepEs Z s'.heap es fs → Q (.ref x) s') :
    wpAny W.M A (call (.ref C) vals) Q E' s := by
  refine wpAny_with_toks (Nat.le_refl _) (wpAny_call ?_)
  have X := I.kin
  obtain ⟨hh, g, dr, t, os⟩ := s
  refine make_core (makes_of X k.makes) (looks_findIn X k.init) (fun self => bind_fn X self k.fn) (.inl rfl) ?_
  have k1 : ∀ b o, hh.get? b = some o → ((hh.push emptyDict).push (instObj C hh.objs.size)).get? b = some o := fun b o e => Heap.get?_push_of_some _ (Heap.get?_push_of_some _ e)
  have hx : ((hh.push emptyDict).push (instObj C hh.objs.size)).get? (hh.objs.size + 1) = some (instObj C hh.objs.size) := by heap_get
  have hdx : ((hh.push emptyDict).push (instObj C hh.objs.size)).get? hh.objs.size = some (dictOf [] 0) := by heap_get
  have p₁ : Step W .none Z ⟨hh, g, dr, t, os⟩ Z ⟨(hh.push emptyDict).push (instObj C hh.objs.size), g, dr, t, os⟩ := .grow (tk := t) I k1
  obtain ⟨fvals, hbind, rf⟩ := hb Z hh (.ref (hh.objs.size + 1)) vals args full r hfull
  obtain ⟨o, ho, hd⟩ := kf.look
  have hw : (Code.builtin "type.__call__" ⟨.ref C :: vals, []⟩).weight = 1 := rfl
  have hroom : (A.under (.builtin "type.__call__" ⟨.ref C :: vals, []⟩)).depth < recursionLimit := by
    show A.depth + (Code.builtin "type.__call__" ⟨.ref C :: vals, []⟩).weight < recursionLimit
    rw [hw]
    have := R.depth; (first | lia | omega)
  refine codeAny_call_def hroom (p₁.inv.kin _ _ ho) hd p₁.inv.nolimit (codeRec_of p₁.inv.kin kf.code) kf.body (hbind _ p₁.inv.kin) kf.nocell (fun y hy => hl _ ?_) (fun h₁ hns₁ hk₁ => ?_) kf.co kf.gen kf.kind
  · rcases List.mem_cons.mp hy with rfl | hy
    · exact List.mem_cons_self
    · exact List.mem_cons_of_mem _ (List.of_mem_zip (show (y.1, y.2) ∈ _ from hy)).1
  · have hself : ((("self" : Str), Value.ref (hh.objs.size + 1)) :: names.zip fvals).reverse.lookup ("self" : Str) = some (Value.ref (hh.objs.size + 1)) := by
      rw [List.reverse_cons, List.lookup_append, lookup_none_of (m := (names.zip fvals).reverse) fun c hc => hns (List.of_mem_zip (List.mem_reverse.mp hc)).1]; simp
    have hnx : hh.get? (hh.objs.size + 1) = none := by
      cases e : hh.get? (hh.objs.size + 1) with
      | none => rfl
      | some o =>
        have h9 : hh.objs.size + 1 < hh.objs.size := Heap.lt_size e
        (first | lia | omega)
    have hsz : ((hh.push emptyDict).push (instObj C hh.objs.size)).objs.size = hh.objs.size + 2 := by rw [Heap.size_push, Heap.size_push]
    have F₁ : Fr hh ((hh.push emptyDict).push (instObj C hh.objs.size)).objs.size h₁ (fun y => ((("self" : Str), Value.ref (hh.objs.size + 1)) :: names.zip fvals).reverse.lookup y) := ⟨hns₁, fun b o e => hk₁ b o (k1 b o e), by rw [hsz]; exact Nat.le_add_right _ 2⟩
    refine init_run (env := callEnv fd ((hh.push emptyDict).push (instObj C hh.objs.size)).objs.size fI) (h₀ := hh) (x := hh.objs.size + 1) (dx := hh.objs.size) k X rfl kf.kind (hl _ List.mem_cons_self) hself (g := fun p => (names.zip full).reverse.lookup p) (Z := Z) (fun par a ha => ?_) (Nat.ne_of_gt (Nat.lt_succ_self hh.objs.size)) l [] 0 [] _ (fun st hs => ?_) F₁ (fun p hp => ?_) .nil (by simpa using hlen) hfs fun h' tk es' n' F' N' re' => ?_
    · obtain ⟨v, hv, rv⟩ := (zip_look rf names par).1 a ha
      refine ⟨v, ?_, rv⟩
      · show List.lookup par (((("self" : Str), Value.ref (hh.objs.size + 1)) :: names.zip fvals).reverse) = some v
        rw [List.reverse_cons, List.lookup_append, hv]; rfl
    · obtain ⟨a, b, c⟩ := hst st hs
      exact ⟨hl _ (List.mem_cons_of_mem _ a), b, c⟩
    · rcases List.mem_cons.mp hp with rfl | hp
      · exact ⟨hk₁ _ _ hx, by rw [hsz]; show hh.objs.size + 1 ≠ hh.objs.size + 2; (first | lia | omega), hnx⟩
      · cases List.mem_singleton.mp hp
        exact ⟨hk₁ _ _ hdx, by rw [hsz]; show hh.objs.size ≠ hh.objs.size + 2; (first | lia | omega), push_none _⟩
    · refine ⟨rfl, ?_⟩
      have hx' := (N' _ List.mem_cons_self).1
      have hdx' := (N' _ (List.mem_cons_of_mem _ List.mem_cons_self)).1
      have hk := F'.keep
      exact fun htk => q _ (hh.objs.size + 1) hh.objs.size es' n' (.grow I hk htk) hnx (push_none _) (Nat.succ_ne_self _) hx' hdx' (re'.mono (fun _ z => z) fun b o _ e => hk b o e)
end
end Mine
end
section
set_option linter.unusedVariables false
namespace Mine
section
variable {W : Wd} {Z Z' Z₁ : AddrSet} {s s' s₁ : Shared} {env : Env} {sc : Scope} {ρ ρ' : Slots} {α α' : Str → Addr} {A : Around} {d : Nat}
noncomputable def pop0A (ρ : Slots) (x : Str) (l : OL) : Option (AV × Slots) := match l.items with | a :: r => if r.length ≤ 1000000 then some (a, ρ.set x (.own ⟨l.place, r⟩)) else none | [] => none
theorem denx_pop0x {x : Str} {p1 apos cpos ip : Pos} {k : Nat} (h1 : (x == ("__debug__" : Str)) = false) (hn : (x == ("__classdict__" : Str)) = false) (hline : (apos.endLine == cpos.line) = true) :
    DenX W d sc (.Call (.Attribute (.Name x p1) "pop" apos) [.Constant (.int 0) k ip] [] cpos) fun ρ => getO ρ x >>= fun l => pop0A ρ x l := denx_pop0 h1 hn hline
noncomputable def lentA (C : Addr) (meth : Str) (G : AV → List AV → List AV → Option (AV × List AV)) (ρ : Slots) (y : Str) (self : AV) (l : OL) (args : List AV) : Option (AV × Slots) := match self with
  | .inst c fl => if c = C ∧ fl.lookup meth = none then G self l.items args >>= fun r => some (r.1, ρ.set y (.own ⟨l.place, r.2⟩)) else none
  | _ => none
theorem denx_lentx {o y meth : Str} {p1 py apos pos : Pos} {es : List Expr} {fs : Slots → Option (List AV)} {C f : Addr} {G : AV → List AV → List AV → Option (AV × List AV)}
    (h1 : (o == ("__debug__" : Str)) = false) (hn : (o == ("__classdict__" : Str)) = false) (h1y : (y == ("__debug__" : Str)) = false) (hny : (y == ("__classdict__" : Str)) = false)
    (hg : plainGet W.K C meth = true) (hfi : findIn W.K (.ref C) meth = some (some (.ref f))) (hfn : isFn W.K (.ref f) = true) (hko : KeepOk W (.ref f)) (ha : DenPs W d sc es fs) (hs : ∀ env, starEach (.Name y py :: es) env = (false, eval (.Name y py) env) :: starEach es env) (hns : ∀ env pos, (backTo pos (starEach es env)).any (·.1) = false)
    (pl : Env → Value → Sem Bool) (he : ∀ env, eval (.Call (.Attribute (.Name o p1) meth apos) (.Name y py :: es) [] pos) env = (do
      let ov ← eval (.Name o p1) env
      standAt apos.atName
      let (f, first) ← holding [ov] (getMethod ov meth (pl env ov))
      callWith pos f first (backTo pos (starEach (.Name y py :: es) env)) [])) (hF : LSpec W d (.ref f) G) :
    DenX W d sc (.Call (.Attribute (.Name o p1) meth apos) (.Name y py :: es) [] pos) fun ρ => getV ρ o >>= fun self => getO ρ y >>= fun l => fs ρ >>= fun args => lentA C meth G ρ y self l args :=
  denx_lent h1 hn h1y hny hg hfi hfn hko ha hs hns pl he hF
noncomputable def noneX (r : AV × Slots) : Option (AFlow × Slots) := match r.1 with | .none => some (.next, r.2) | _ => none
theorem den_exprXx {e : Expr} {pos : Pos} {F : Slots → Option (AV × Slots)} (h : DenX W d sc e F) (hs : ∀ env, swapsWith e none pos.line env = pure false) :
    DenS W d sc (.Expr e pos) fun ρ => F ρ >>= noneX := den_exprX h hs
-- comprehensions: the names of others that they read
noncomputable def frees (scope : Scope) : List Str := scope.names.filterMap fun x => if x.2 == .free then some x.1 else none
noncomputable def only (xs : List Str) (ρ : Slots) : Slots := fun x => if xs.contains x then ρ x else none
noncomputable def compOk (scope sc : Scope) : Bool := (scope.kind == .function) && (scope.names.all fun x => x.2 != .cell) && (scope.names.all fun x => x.2 != .local || scope.names.lookup x.1 == some .local) &&
  (scope.names.all fun x => x.2 != .free || (scope.names.lookup x.1 == some .free && (sc.names.lookup x.1 == some .cell || sc.names.lookup x.1 == some .free)))
theorem compScope {scope sc : Scope} (h : compOk scope sc = true) : CompScope scope sc := by
  unfold compOk at h
  simp only [Bool.and_eq_true, List.all_eq_true, Bool.or_eq_true, bne_iff_ne, beq_iff_eq] at h
  obtain ⟨⟨⟨h1, h2⟩, h3⟩, h4⟩ := h
  refine ⟨h1, h2, fun x hx e => (h3 x hx).resolve_left (fun n => n e), fun x hx e => (h4 x hx).resolve_left (fun n => n e)⟩
theorem capt_only {scope : Scope} (hs : CompScope scope sc) (ρ : Slots) : capt scope ρ = only (frees scope) ρ := by
  funext x
  unfold capt only
  have : (scope.names.lookup x = some .free) ↔ (frees scope).contains x = true := by
    rw [List.contains_iff_mem]
    unfold frees
    rw [List.mem_filterMap]
    constructor
    · intro h; exact ⟨_, lookup_in h, rfl⟩
    · rintro ⟨⟨n, k⟩, hm, h⟩
      simp only at h
      split at h
      · rename_i hk
        cases h
        exact (hs.free _ hm (eq_of_beq hk)).1
      · cases h
  by_cases h : scope.names.lookup x = some .free
  · rw [if_pos h, if_pos (this.mp h)]
  · rw [if_neg h, if_neg (fun c => h (this.mpr c))]
theorem deno_compx {elt target iter : Expr} {ifs : List Expr} {scope : Scope} {pos : Pos} {g : Slots → Option (List AV)} {T : AV → Slots → Option Slots} {t : Slots → Option Bool} {f : Slots → Option AV} (xs : List Str) (hx : frees scope = xs) (hs : CompScope scope sc) (hi : DenIt W d sc target iter g)
    (htg : DenTgC W d (relabelS scope sc) target T) (hif : DenIfs W d (relabelS scope sc) ifs t) (helt : DenP W d (relabelS scope sc) elt f) (hset : ∀ env x, foldedSetIterable iter env x = pure x) :
    DenO W d sc (.ListComp elt [⟨target, iter, ifs, 0⟩] scope pos) fun ρ => g ρ >>= fun items => if items.length ≤ 1000000 then compA T t f items (only xs ρ) else none := by
  subst hx
  have := deno_comp (pos := pos) hs hi htg hif helt hset
  simp only [capt_only hs] at this
  exact this
theorem den_assign_compx {x : Str} {px spos : Pos} {elt target iter : Expr} {ifs : List Expr} {scope : Scope} {pos : Pos} {g : Slots → Option (List AV)} {T : AV → Slots → Option Slots} {t : Slots → Option Bool} {f : Slots → Option AV} (xs : List Str) (hx : frees scope = xs) (hs : CompScope scope sc) (hi : DenIt W d sc target iter g)
    (htg : DenTgC W d (relabelS scope sc) target T) (hif : DenIfs W d (relabelS scope sc) ifs t) (helt : DenP W d (relabelS scope sc) elt f) (hset : ∀ env x, foldedSetIterable iter env x = pure x)
    (hk : sc.names.lookup x = some .local) (hline : px.line = pos.line) (hany : (scope.names.any fun (n, k) => n == x && (k == .local || k == .cell)) = false) :
    DenS W d sc (.Assign [.Name x px] (.ListComp elt [⟨target, iter, ifs, 0⟩] scope pos) spos) fun ρ => g ρ >>= fun items => if items.length ≤ 1000000 then compA T t f items (only xs ρ) >>= fun l => some (.next, ρ.set x (.own ⟨none, l⟩)) else none := by
  subst hx
  have := den_assign_comp (spos := spos) hs hi htg hif helt hset hk hline hany
  simp only [capt_only hs] at this
  exact this
theorem kd_in {x : Str} {sc : Scope} (h : (sc.names.lookup x == some .local || (sc.names.lookup x == some .cell && x != frz)) = true) : Kd sc x := by
  rcases Bool.or_eq_true_iff.mp h with h | h
  · exact .inl (eq_of_beq h)
  · have := Bool.and_eq_true_iff.mp h
    exact .inr ⟨eq_of_beq this.1, bne_iff_ne.mp this.2⟩
theorem kinds_in {l : List Str} {sc : Scope} (h : (l.all fun x => (sc.names.lookup x == some .local || (sc.names.lookup x == some .cell && x != frz))) = true) (x : Str) (hx : x ∈ l) : Kd sc x := kd_in (List.all_eq_true.mp h x hx)
end
end Mine
end
section
set_option linter.unusedVariables false
namespace Mine
noncomputable def fdAt (K : Frag) (f : Addr) : Option FuncData := match K.lookup f with
  | some o => (match o.data with | .func fd => some fd | _ => none)
  | none => none
noncomputable def fdK (K : Frag) (f : Addr) (h : (fdAt K f).isSome = true) : FuncData := (fdAt K f).get h
theorem fdAt_look {K : Frag} {f : Addr} (h : (fdAt K f).isSome = true) : ∃ o, K.lookup f = some o ∧ o.data = .func (fdK K f h) := by
  have e : fdAt K f = some (fdK K f h) := by unfold fdK; simp
  generalize fdK K f h = fd at e
  unfold fdAt at e
  split at e
  · rename_i o ho
    split at e
    · rename_i fd' hd; cases e; exact ⟨o, ho, hd⟩
    · cases e
  · cases e
noncomputable def noCellB (sc : Scope) : Bool := sc.names.all fun x => x.2 != .cell && x.2 != .free
theorem fnk_of {W : Wd} {f : Addr} {body : List Stmt} (h : (fdAt W.K f).isSome = true) (hb : (fdK W.K f h).body = .stmts body) (hc : codeIn W.K (fdK W.K f h).code (fdK W.K f h).qualname = true) (hg : (fdK W.K f h).globals = mainGlobals) (hbl : (fdK W.K f h).builtins = builtinsNs)
    (hcl : (fdK W.K f h).closure = []) (hn : noCellB (fdK W.K f h).scope = true) (hk : (fdK W.K f h).scope.kind = .function) (hco : (fdK W.K f h).scope.isCoroutine = false) (hge : (fdK W.K f h).scope.isGenerator = false) : FnK W f (fdK W.K f h) body where
  look := fdAt_look h
  body := hb
  code := hc
  globals := hg
  builtins := hbl
  closure := hcl
  nocell x hx := by have := List.all_eq_true.mp hn x hx; simp at this; exact this.1
  nofree x hx := by have := List.all_eq_true.mp hn _ (lookup_in hx); simp at this
  kind := hk
  co := hco
  gen := hge
end Mine
end
section
set_option linter.unusedVariables false
namespace Mine
theorem reps_ints {Z : AddrSet} {h : Heap} : ∀ {vals : List Value} {ns : List Int}, IntsAre vals ns → RepVs Z h vals (ns.map .int)
  | [], [], _ => .nil
  | _ :: _, _ :: _, hi => by
    cases hi
    exact .cons (.int _ _) (reps_ints (by assumption))
noncomputable def script0 (ns : List Int) : Slots := fun x => if x = "script" then some (.val (.lst (ns.map .int))) else none
end Mine
end
section
set_option linter.unusedVariables false
namespace Mine
section
variable {W : Wd} {Z Z' Z₁ : AddrSet} {s s' s₁ : Shared} {env : Env} {sc : Scope} {ρ ρ' : Slots} {α α' : Str → Addr} {A : Around} {d : Nat}
theorem look_snoc {x n : Str} {w : Value} (r : List (Str × Value)) : ((n, w) :: r).reverse.lookup x = (r.reverse.lookup x).or (if x = n then some w else none) := by
  rw [List.reverse_cons, List.lookup_append, List.lookup_cons, List.lookup_nil]
  by_cases e : x = n
  · rw [if_pos e, e, beq_self_eq_true]
  · rw [if_neg e, beq_eq_false_iff_ne.mpr e]
theorem bindL_look {k : Str → Option NameKind} {x : Str} (hk : k x = some .local) (binds : List (Str × Value)) (m : Str → Option Value) : bindL k binds m x = (binds.reverse.lookup x).or (m x) := by
  induction binds generalizing m with
  | nil => rfl
  | cons p r ih =>
    obtain ⟨n, w⟩ := p
    show bindL k r _ x = _
    rw [ih, look_snoc]
    cases r.reverse.lookup x with
    | some v => rfl
    | none =>
      by_cases e : x = n
      · rw [← e, if_pos hk]; simp
      · by_cases hn : k n = some .local
        · rw [if_pos hn]; simp [e]
        · rw [if_neg hn]; simp [e]
theorem bindC_look {k : Str → Option NameKind} {x : Str} (hk : k x ≠ some .local) (binds : List (Str × Value)) (m : Str → Option Value) : bindC k binds m x = (binds.reverse.lookup x).or (m x) := by
  induction binds generalizing m with
  | nil => rfl
  | cons p r ih =>
    obtain ⟨n, w⟩ := p
    show bindC k r _ x = _
    rw [ih, look_snoc]
    cases r.reverse.lookup x with
    | some v => rfl
    | none =>
      by_cases e : x = n
      · rw [← e, if_neg hk]; simp
      · by_cases hn : k n = some .local
        · rw [if_pos hn]; simp [e]
        · rw [if_neg hn]; simp [e]
theorem cells_acc {x : Str} : ∀ (names : List (Str × NameKind)) (n : Nat) (acc : List (Str × Addr)), ((acc.lookup x).isSome = true ∨ names.lookup x = some .cell) → ((cellsFrom n names acc).lookup x).isSome = true
  | [], n, acc, h => by
    rcases h with h | h
    · exact h
    · cases h
  | (y, k) :: r, n, acc, h => by
    unfold cellsFrom
    by_cases hk : (k == NameKind.cell) = true
    · rw [if_pos hk]
      refine cells_acc r (n + 1) _ ?_
      rw [List.lookup_cons]
      cases e : (x == y) with
      | true => exact .inl rfl
      | false =>
        rcases h with h | h
        · exact .inl h
        · rw [List.lookup_cons, e] at h; exact .inr h
    · rw [if_neg hk]
      refine cells_acc r n acc ?_
      rcases h with h | h
      · exact .inl h
      · rw [List.lookup_cons] at h
        cases e : (x == y) with
        | true => rw [e] at h; cases h; exact (hk rfl).elim
        | false => rw [e] at h; exact .inr h
structure FnC (W : Wd) (f : Addr) (fd : FuncData) (body : List Stmt) : Prop where
  look : ∃ o, W.K.lookup f = some o ∧ o.data = .func fd
  body : fd.body = .stmts body
  code : codeIn W.K fd.code fd.qualname = true
  globals : fd.globals = mainGlobals
  builtins : fd.builtins = builtinsNs
  closure : fd.closure = []
  nofree : ∀ x, fd.scope.names.lookup x ≠ some .free
  kind : fd.scope.kind = .function
  co : fd.scope.isCoroutine = false
  gen : fd.scope.isGenerator = false
theorem cells_apart {cs : List (Str × Addr)} {y z : Str} {c : Addr} (hp : cs.Pairwise (fun x y => x.2 ≠ y.2)) (hy : cs.lookup y = some c) (hz : cs.lookup z = some c) : y = z := by
  induction cs with
  | nil => cases hy
  | cons p r ih =>
    obtain ⟨n, b⟩ := p
    rw [List.lookup_cons] at hy hz
    have hp' := List.pairwise_cons.mp hp
    cases ey : (y == n) with
    | true =>
      rw [ey] at hy; cases hy
      cases ez : (z == n) with
      | true => rw [eq_of_beq ey, eq_of_beq ez]
      | false => rw [ez] at hz; exact (hp'.1 _ (lookup_in hz) rfl).elim
    | false =>
      rw [ey] at hy
      cases ez : (z == n) with
      | true => rw [ez] at hz; cases hz; exact (hp'.1 _ (lookup_in hy) rfl).elim
      | false => rw [ez] at hz; exact ih hp'.2 hy hz
noncomputable def withSelf (Z : AddrSet) (env : Env) : AddrSet := fun a => Z a ∨ env.cells.lookup frz = some a
theorem enter_loc {fd : FuncData} {f : Addr} {binds : List (Str × Value)} (I : Inv W Z s) (hl : ∀ x ∈ binds, fd.scope.names.lookup x.1 = some .local ∨ fd.scope.names.lookup x.1 = some .cell)
    (hρ : ∀ x sv, ρ x = some sv → ∃ v av, binds.reverse.lookup x = some v ∧ sv = .val av ∧ RepV Z s.heap v av) (htk : s.toks ≤ s₁.toks)
    (x : InCallC s (callEnvC fd s.heap.objs.size f).locals (bindL (callEnvC fd s.heap.objs.size f).kindOf binds fun _ => none) (callEnvC fd s.heap.objs.size f).cells (bindC (callEnvC fd s.heap.objs.size f).kindOf binds fun _ => none) s₁) :
    Step W .none Z s (withSelf Z (callEnvC fd s.heap.objs.size f)) s₁ ∧ Loc W (withSelf Z (callEnvC fd s.heap.objs.size f)) s₁.heap (callEnvC fd s.heap.objs.size f) ρ α ∧ ∀ a, FOwn (callEnvC fd s.heap.objs.size f) ρ α a → s.heap.get? a = none := by
  have big : ∀ a, s.heap.objs.size ≤ a → s.heap.get? a = none := fun a h => by
    cases e : s.heap.get? a with
    | none => rfl
    | some o => exact absurd (Heap.lt_size e) (Nat.not_lt.mpr h)
  have noown : ∀ y l, ρ y ≠ some (.own l) := fun y l h => by
    obtain ⟨v, av, _, e, _⟩ := hρ y _ h; cases e
  have cfresh : ∀ y c, (callEnvC fd s.heap.objs.size f).cells.lookup y = some c → s.heap.get? c = none ∧ c ≠ (callEnvC fd s.heap.objs.size f).locals := fun y c hy => ⟨big _ (Nat.le_of_lt (x.above y c (lookup_in hy))), Nat.ne_of_gt (x.above y c (lookup_in hy))⟩
  have fo : ∀ a, FOwn (callEnvC fd s.heap.objs.size f) ρ α a → s.heap.get? a = none := by
    rintro a (rfl | ⟨y, _, hy⟩ | ⟨y, l, hy, _⟩)
    · exact big _ (Nat.le_refl _)
    · exact (cfresh y a hy).1
    · exact (noown y l hy).elim
  have keep := x.toInCall.keep
  have cell := x.cell
  have apart := x.apart
  have ns := x.toInCall.ns
  obtain ⟨h₁, tk, rfl⟩ := x.toInCall.same
  have p : Step W .none Z s (withSelf Z (callEnvC fd s.heap.objs.size f)) { s with heap := h₁, toks := tk } :=
    ⟨⟨I.ok, fun b o e x => keep _ _ (I.base b o e x), fun b x => let ⟨o, e⟩ := I.xs b x; ⟨o, keep _ _ e⟩, fun a z => z.elim (fun z => let ⟨o, e⟩ := I.zin a z; ⟨o, keep _ _ e⟩) fun hc => let ⟨o, e, _⟩ := cell frz a hc; ⟨o, e⟩, I.os, I.bare, fun a z => z.elim (I.zx a) fun hc => I.fresh_x (cfresh frz a hc).1, fun a h => .inl (I.z0 a h), Nat.le_trans I.tk htk⟩,
      fun b o _ e => keep b o e, fun _ h => .inl h, fun a h => h.elim .inl fun hc => .inr (.inr (cfresh frz a hc).1), fun _ _ _ e => e⟩
  refine ⟨p, ⟨⟨_, ns, fun y sv hy => ?_⟩, fun a f' z => ?_, fun a f' => ⟨I.fresh_b (fo a f'), I.fresh_x (fo a f')⟩, fun y l b hy => (noown y l hy).elim, fun y z l l' hy => (noown y l hy).elim, fun y c hc => ⟨_, cell y c hc⟩, fun y z c hy hz => cells_apart apart hy hz, fun c hc => .inr hc⟩, fo⟩
  · obtain ⟨v, av, hv, rfl, r⟩ := hρ y sv hy
    refine ⟨v, ?_, r.mono (fun _ z => .inl z) fun a o _ e => keep a o e⟩
    rcases hl _ (List.mem_reverse.mp (lookup_in hv)) with k | k
    · have k' : (callEnvC fd s.heap.objs.size f).kindOf y = some .local := k
      exact .inl ⟨k', by rw [bindL_look k', hv]; rfl⟩
    · have k' : (callEnvC fd s.heap.objs.size f).kindOf y = some .cell := k
      obtain ⟨c, hc⟩ := Option.isSome_iff_exists.mp (cells_acc fd.scope.names (s.heap.objs.size + 1) [] (.inr k))
      have := cell y c hc
      rw [bindC_look (by rw [k']; decide), hv] at this
      exact .inr ⟨.inl k', c, hc, this⟩
  · rcases z with z | z
    · exact I.fresh_z (fo a f') z
    · rcases f' with e | ⟨y, hn, hy⟩ | ⟨y, l, hy, _⟩
      · exact (cfresh frz a z).2 e
      · exact hn (cells_apart apart hy z)
      · exact noown y l hy
theorem enter_env {fd : FuncData} {f L : Addr} (hg : fd.globals = mainGlobals) (hb : fd.builtins = builtinsNs) (hn : ∀ x, fd.scope.names.lookup x ≠ some .free) (hk : fd.scope.kind = .function) : EnvOk (callEnvC fd L f) fd.scope :=
  ⟨rfl, hg, hb, hk, fun x hx => by
    rcases hx with h | h
    · exact Option.isSome_iff_exists.mp (cells_acc fd.scope.names (L + 1) [] (.inr h))
    · exact (hn _ h).elim⟩
end
end Mine
end
section
set_option linter.unusedVariables false
namespace Mine
section
variable {W : Wd} {Z Z' Z₁ : AddrSet} {s s' s₁ : Shared} {env : Env} {sc : Scope} {ρ ρ' : Slots} {α α' : Str → Addr} {A : Around} {d : Nat}
open Classical in
end
end Mine
end
section
set_option linter.unusedVariables false
namespace Mine
section
variable {W : Wd} {Z Z' Z₁ : AddrSet} {s s' s₁ : Shared} {env : Env} {sc : Scope} {ρ ρ' : Slots} {α α' : Str → Addr} {A : Around} {d : Nat}
structure FnS (W : Wd) (f c : Addr) (fd : FuncData) (body : List Stmt) (v : Value) (me : AV) : Prop where
  look : ∃ o, W.h₀.get? f = some o ∧ o.data = .func fd
  nox : ∀ a, ¬ W.X a
  code : W.h₀.CodeRec fd.code fd.qualname
  body : fd.body = .stmts body
  globals : fd.globals = mainGlobals
  builtins : fd.builtins = builtinsNs
  closure : fd.closure = [(frz, c)]
  nocell : ∀ x ∈ fd.scope.names, x.2 ≠ .cell
  free : ∀ x, fd.scope.names.lookup x = some .free → x = frz
  hfree : fd.scope.names.lookup frz = some .free
  kind : fd.scope.kind = .function
  co : fd.scope.isCoroutine = false
  gen : fd.scope.isGenerator = false
  z : W.Z₀ c
  cell : W.h₀.IsCell c (some v)
  rep : RepV W.Z₀ W.h₀ v me
end
end Mine
end
section
set_option linter.unusedVariables false
namespace Mine
section
variable {W : Wd} {Z Z' Z₁ : AddrSet} {s s' s₁ : Shared} {env : Env} {sc : Scope} {ρ ρ' : Slots} {α α' : Str → Addr} {A : Around} {d : Nat}
end
end Mine
end
section
open PySem PySem.W PyProof.Rows PySem.Builtin PySem.Builtin.Str
set_option linter.unusedVariables false
namespace Mine
section
variable {W : Wd} {Z Z' Z₁ : AddrSet} {s s' s₁ : Shared} {A : Around} {d : Nat}
end
end Mine
end
section
set_option linter.unusedVariables false
namespace Mine
section
variable {W : Wd} {Z Z' Z₁ : AddrSet} {s s' s₁ : Shared} {env : Env} {sc : Scope} {ρ ρ' : Slots} {α α' : Str → Addr} {A : Around} {d : Nat}
theorem execs_app (a b : List Stmt) : execs (a ++ b) env = (execs a env >>= fun f => match f with | .next => execs b env | f => pure f) := by
  induction a with
  | nil => show execs b env = (pure Flow.next >>= _); rw [pure_bind]
  | cons x a ih =>
    show execs (x :: (a ++ b)) env = _
    rw [execs_cons, execs_cons, bind_assoc]
    congr 1
    funext f
    cases f
    · exact ih
    all_goals (show pure _ = (pure _ >>= _); rw [pure_bind])
theorem wpAny_execs_app {a b : List Stmt} {Q : Flow → Shared → Prop} {E' : Value → Shared → Prop} (h : wpAny W.M A (execs a env) (fun f s' => match f with | .next => wpAny W.M A (execs b env) Q E' s' | f => Q f s') E' s) : wpAny W.M A (execs (a ++ b) env) Q E' s := by
  rw [execs_app]
  refine wpAny_bind (wpAny_mono h (fun f s' h' => ?_) fun _ _ x => x)
  cases f
  · exact h'
  all_goals exact wpAny_pure h'
structure Jump (P : Addr) (Z : AddrSet) (s : Shared) (Z' : AddrSet) (s' : Shared) : Prop where
  keep : ∀ b o, b ≠ P → s.heap.get? b = some o → s'.heap.get? b = some o
  zsub : ∀ a, Z a → Z' a
  znew : ∀ a, Z' a → Z a ∨ s.heap.get? a = none
  zin : ∀ a, Z' a → ∃ o, s'.heap.get? a = some o
  os : s'.os = s.os
  bare : AllBare s'.gens
  tk : 1 ≤ s'.toks
  tab : ∃ ps, s'.heap.get? P = some (tabObj ps)
theorem Loc.more {W₂ : Wd} {h : Heap} (L : Loc W Z h env ρ α) (h0 : W₂.h₀ = W.h₀) (hx : W₂.X = W.X) (hz : ∀ a, Z a → Z' a) (hn : ∀ a, FOwn env ρ α a → ¬ Z' a) : Loc W₂ Z' h env ρ α := by
  obtain ⟨m, ns, hv⟩ := L.ns
  refine ⟨⟨m, ns, fun x sv hx => ?_⟩, hn, fun a f => by rw [h0, hx]; exact L.nb a f, L.fix, L.inj, L.cell, L.cinj, fun c hc => hz c (L.slf c hc)⟩
  obtain ⟨v, a, r⟩ := hv x sv hx
  refine ⟨v, a, ?_⟩
  cases sv with
  | val av => exact RepV.mono hz (fun _ _ _ e => e) r
  | own l => obtain ⟨e, vs, hp, rs⟩ := r; exact ⟨e, vs, hp, rs.mono hz fun _ _ _ e => e⟩
structure MakerOk (W : Wd) (f c P : Addr) (fd : FuncData) (names : List Str) (name : Str) (params : Arguments) (ibody : List Stmt) (iscope : Scope) (pos : Pos) (rest : List Stmt) (inames : List Str) : Prop where
  fn : FnC W f fd (.FunctionDef name params ibody [] none [] iscope none name pos :: rest)
  bind : ∀ (vals : List Value), vals.length = names.length → bindArgs fd ⟨vals, []⟩ = pure (names.zip vals)
  loc : ∀ x ∈ names, fd.scope.names.lookup x = some .local ∨ fd.scope.names.lookup x = some .cell
  self : fd.scope.names.lookup frz = some .cell
  x : ∀ a, W.X a ↔ a = P
  code : fd.code = .ref c
  codeHd : codeHdIn W.K c P = true
  built : W.h₀.BuiltinsAt W.mg P
  d0 : params.defaults = []
  k0 : params.kw_defaults = []
  ann : ∀ env, annTrees params none env = []
  kd : Kd fd.scope name
  inocell : ∀ x ∈ iscope.names, x.2 ≠ .cell
  ifree : ∀ x, iscope.names.lookup x = some .free → x = frz
  ihfree : iscope.names.lookup frz = some .free
  ifrees : iscope.names.filter (fun x => x.2 == .free) = [(frz, .free)]
  ikind : iscope.kind = .function
  ico : iscope.isCoroutine = false
  igen : iscope.isGenerator = false
  ibind : ∀ (qual : Str) (clos : List (Str × Addr)) (doc pm : Value) (c' : Addr) (ctv : Value) (s : Shared) (vals : List Value), vals.length = inames.length → BindsTo s (fnX name qual params ibody iscope clos .none .none doc pm none (.ref c') ctv) ⟨vals, []⟩ (inames.zip vals)
  iloc : ∀ x ∈ inames, iscope.names.lookup x = some .local
  inot : frz ∉ inames
end
end Mine
end
section
set_option linter.unusedVariables false
namespace Mine
theorem newEnv1 {M : Model} {A : Around} {E : Value → Shared → Prop} {s : Shared} {scope : Scope} {globals : Addr} {n : Str} {v : Value} {qual : Str} {func : Option Addr} {code : Value} {builtins : Addr} {Q : Env → Shared → Prop} (hk : scope.kind = .function) (hl : scope.names.lookup n = some .local)
    (hQ : ∀ env, env = newEnv scope s.heap.objs.size globals (cellsFrom (s.heap.objs.size + 1) scope.names []) qual func code none builtins →
      ∀ s', s.toks + 1 ≤ s'.toks → InCallC s env.locals (bindL env.kindOf [(n, v)] fun _ => none) env.cells (bindC env.kindOf [(n, v)] fun _ => none) s' → Q env s') :
    wpAny M A (newFunctionEnv scope globals [] [(n, v)] qual func code none builtins) Q E s := by
  simp only [newFunctionEnv, Option.isSome_none, Bool.false_eq_true, if_false]
  refine wpAny_bind (wpAny_alloc ?_)
  refine wpAny_bind (wpAny_layCells _ (fun name kind cells => by cases hkc : kind == NameKind.cell <;> simp [hkc]) _ _ _ _ ?_)
  have ok := cellsFrom_ok scope.names (s.heap.push { cls := .type "frame", data := .dict #[] }) (s.heap.objs.size + 1) [] ⟨fun _ _ hm => (nomatch hm), List.Pairwise.nil⟩ (by rw [Heap.size_push]; exact Nat.le_refl _)
  rw [Heap.size_push] at ok
  rw [show ({ s with heap := s.heap.push { cls := .type "frame", data := .dict #[] } } : Shared).heap.objs.size = s.heap.objs.size + 1 from Heap.size_push ..]
  have x : InCallC s (newEnv scope s.heap.objs.size globals (cellsFrom (s.heap.objs.size + 1) scope.names []) qual func code none builtins).locals (fun _ => none) (newEnv scope s.heap.objs.size globals (cellsFrom (s.heap.objs.size + 1) scope.names []) qual func code none builtins).cells (fun _ => none) { s with heap := pushCells (s.heap.push { cls := .type "frame", data := .dict #[] }) scope.names } :=
    ⟨⟨⟨_, _, rfl⟩, (Heap.Ns.new s.heap (.type "frame")).keeps (pushCells_keeps _ _), fun b o e => pushCells_keeps _ _ b o (Heap.get?_push_of_some _ e), Nat.le_refl _⟩,
      fun n c hc => (ok.empty n c (mem_of_lookup hc)).1, ok.apart, fun n c hm => (ok.empty n c hm).2⟩
  have hl' : (newEnv scope s.heap.objs.size globals (cellsFrom (s.heap.objs.size + 1) scope.names []) qual func code none builtins).kindOf n = some .local := hl
  refine wpAny_bind ?_
  rw [List.forIn_cons]
  refine wpAny_bind (wpAny_bind (wpAny_storeName_local hl' x.toInCall.ns (fun h' hn' hs' => wpAny_pure ?_) (by show (scope.kind == .class || _) = false; rw [hk]; rfl)))
  show wpAny _ _ (forIn [] _ _) _ _ _
  rw [List.forIn_nil]
  refine wpAny_pure (wpAny_pure (hQ _ rfl _ (Nat.le_refl _) ?_))
  have eL : (bindL (newEnv scope s.heap.objs.size globals (cellsFrom (s.heap.objs.size + 1) scope.names []) qual func code none builtins).kindOf [(n, v)] fun _ => none) = fun y => if y = n then some v else none := by
    unfold bindL; rw [if_pos hl']; rfl
  have eC : (bindC (newEnv scope s.heap.objs.size globals (cellsFrom (s.heap.objs.size + 1) scope.names []) qual func code none builtins).kindOf [(n, v)] fun _ => none) = fun _ => none := by
    unfold bindC; rw [if_pos hl']; rfl
  rw [eL, eC]
  refine ⟨⟨⟨h', _, rfl⟩, hn', fun b o e => ?_, x.toInCall.fresh⟩, fun k c hc => ?_, x.apart, x.above⟩
  · exact hs'.extBut b o (Nat.ne_of_lt (Nat.lt_of_lt_of_le (Heap.lt_size e) x.toInCall.fresh)) (x.toInCall.keep b o e)
  · exact (x.cell k c hc).sameBut hs' (Nat.ne_of_gt (x.above k c (mem_of_lookup hc)))
section
variable {W : Wd} {Z Z' Z₁ : AddrSet} {s s' s₁ : Shared} {env : Env} {sc : Scope} {ρ ρ' : Slots} {α α' : Str → Addr} {A : Around} {d : Nat} {P : Addr} {ps : Array Value}
structure Stage (P : Addr) (s₁ : Shared) (ps : Array Value) (W : Wd) (env : Env) (Z : AddrSet) (s : Shared) (ρ : Slots) (α : Str → Addr) : Prop where
  inv : Inv W Z s
  loc : Loc W Z s.heap env ρ α
  keep : ∀ b o, b ≠ P → s₁.heap.get? b = some o → s.heap.get? b = some o
  own : ∀ a, FOwn env ρ α a → s₁.heap.get? a = none
  os : s.os = s₁.os
  tab : s.heap.get? P = some (tabObj ps)
  tab₁ : s₁.heap.get? P = some (tabObj #[])
end
end Mine
end
section
set_option linter.unusedVariables false
namespace Mine
section
variable {W : Wd} {Z Z' Z₁ : AddrSet} {s s' s₁ : Shared} {env : Env} {sc : Scope} {ρ ρ' : Slots} {α α' : Str → Addr} {A : Around} {d : Nat}
end
end Mine
end
section
set_option linter.unusedVariables false
namespace Mine
section
variable {W : Wd} {Z Z' Z₁ : AddrSet} {s s' s₁ : Shared} {env : Env} {sc : Scope} {ρ ρ' : Slots} {α α' : Str → Addr} {A : Around} {d : Nat}
theorem RepVs.set {h : Heap} {v : Value} {a : AV} (q : RepV Z h v a) : ∀ {vs : List Value} {l : List AV} (n : Nat), RepVs Z h vs l → RepVs Z h (vs.set n v) (l.set n a)
  | vs, [], n, r => by rw [r.nil']; exact .nil
  | vs, b :: l, 0, r => by obtain ⟨u, us, rfl, r, rs⟩ := r.cons'; exact .cons q rs
  | vs, b :: l, n + 1, r => by obtain ⟨u, us, rfl, r, rs⟩ := r.cons'; exact .cons r (rs.set q n)
noncomputable def putL (l : List AV) (k : Int) (a : AV) : Option (List AV) := if 0 ≤ k then (if k < l.length ∧ l.length ≤ 1000000 then some (l.set k.toNat a) else none) else if -(l.length : Int) ≤ k ∧ l.length ≤ 1000000 then some (l.set (k + l.length).toNat a) else none
theorem put_own {x : Str} {l : OL} {l' : List AV} {k : Int} {t : Tok} {v : Value} {a : AV} (I : Inv W Z s) (L : Loc W Z s.heap env ρ α) (hx : ρ x = some (.own l)) (r : RepV Z s.heap v a) (hp : putL l.items k a = some l') {Q : Unit → Shared → Prop} {E' : Value → Shared → Prop}
    (q : ∀ s', FStep W env Z s ρ α Z s' (ρ.set x (.own ⟨l.place, l'⟩)) α → Q () s') : wpAny W.M A (setItem (.ref (α x)) (.int k t) v) Q E' s := by
  obtain ⟨m, ns, hv⟩ := L.ns
  obtain ⟨_, _, _, vs, ⟨n, hn⟩, rs⟩ := hv x _ hx
  have hlen : vs.toArray.size = l.items.length := by rw [List.size_toArray, rs.length]
  have fin : ∀ j : Nat, l' = l.items.set j a → Q () { s with heap := s.heap.update (α x) (Obj.mapSeq (·.setIfInBounds j v)) } := fun j hj => by
    have h1 := PySem.IsL.update hn (·.setIfInBounds j v)
    have e1 : vs.toArray.setIfInBounds j v = (vs.set j v).toArray := by simp
    refine q _ (L.upd (tk := s.toks) (vs' := vs.set j v) I hx (Heap.SameBut.update ..) ⟨_, by rw [← e1]; exact h1⟩ ?_)
    rw [hj]; exact rs.set r j
  unfold putL at hp
  by_cases h0 : 0 ≤ k
  · rw [if_pos h0] at hp
    obtain ⟨hc, hp⟩ := iteO hp
    exact ki_setAt hn h0 (by (first | lia | omega)) (by (first | lia | omega)) (fin _ (Option.some.inj hp).symm)
  · rw [if_neg h0] at hp
    obtain ⟨hc, hp⟩ := iteO hp
    refine ki_setBack hn (by (first | lia | omega)) (by (first | lia | omega)) (by (first | lia | omega)) ?_
    rw [hlen]
    exact fin _ (Option.some.inj hp).symm
theorem den_setsub {x : Str} {p pos' pos : Pos} {i value : Expr} {f g : Slots → Option AV} (hv : DenP W d sc value f) (hi : DenP W d sc i g) (h1 : (x == ("__debug__" : Str)) = false) (hn : (x == ("__classdict__" : Str)) = false) (hs : ∀ env, swapsWith value (some (.Subscript (.Name x p) i pos')) pos.line env = pure false) :
    DenS W d sc (.Assign [.Subscript (.Name x p) i pos'] value pos) fun ρ => f ρ >>= fun a => getO ρ x >>= fun l => g ρ >>= fun i => i.int? >>= fun k => putL l.items k a >>= fun l' => some (.next, ρ.set x (.own ⟨l.place, l'⟩)) := by
  intro A env Z s ρ α fl ρ' R hE I L hf Q E' q
  obtain ⟨a, ha, hf⟩ := bindO hf
  obtain ⟨l, hl, hf⟩ := bindO hf
  obtain ⟨iv, hi', hf⟩ := bindO hf
  obtain ⟨k, hk, hf⟩ := bindO hf
  obtain ⟨l', hp, hf⟩ := bindO hf
  cases hf
  have hx := getO_eq hl
  refine wpAny_Assign_Subscript (hv A env Z s ρ α a R hE I L ha _ _ fun v s₁ Z₁ p₁ r₁ => wpAny_Name ((L.step0 p₁).load hE hx (fun w rw' => ?_) hn) h1) (hs env)
  obtain ⟨rfl, vs, hpl, rs⟩ := rw'
  refine hi A env Z₁ s₁ ρ α iv R hE p₁.inv (L.step0 p₁) hi' _ _ fun vi s₂ Z₂ p₂ r₂ => ?_
  obtain ⟨t, rfl⟩ := int?_rep hk r₂
  exact put_own p₂.inv ((L.step0 p₁).step0 p₂) hx (p₂.rep0 r₁) hp fun s₃ p₃ => q .next s₃ Z₂ α ((FStep.pure L (p₁.tr p₂)).trans p₃) trivial
end
end Mine
end
section
set_option linter.unusedVariables false
namespace Mine
section
variable {W : Wd} {Z Z' Z₁ Z₀ : AddrSet} {s s' s₁ s₀ : Shared} {env : Env} {sc : Scope} {ρ ρ' ρ₀ : Slots} {α α' α₀ : Str → Addr} {A : Around} {d : Nat}
noncomputable def IterT (W : Wd) (A : Around) (Z : AddrSet) (s₀ s : Shared) (it : Value) (items : List AV) : Prop :=
  ∃ (I : Addr) (fp wr : List Addr) (P : Nat → Array Value → Prop) (St : Nat → Heap → Prop) (Mid : Nat → Addr → Heap → Prop), it = .ref I ∧ WalksT W.prog W.w A I fp wr items.length P St Mid ∧ St 0 s.heap ∧
    (∀ i vals, P i vals → ∃ l, items[i]? = some (.tup l) ∧ RepVs Z s.heap vals.toList l) ∧ (∀ b ∈ wr, s₀.heap.get? b = none ∧ ¬ Z b) ∧ (∀ b ∈ fp, b ∈ wr ∨ Z b ∨ (s₀.heap.get? b = none ∧ ¬ Z b)) ∧ (∀ i h, St i h → ∀ b ∈ fp, ∃ o, h.get? b = some o)
noncomputable def DenItT (W : Wd) (d : Nat) (sc : Scope) (e : Expr) (g : Slots → Option (List AV)) : Prop :=
  ∀ (A : Around) (env : Env) (Z : AddrSet) (s : Shared) (ρ : Slots) (α : Str → Addr) (items : List AV), Room A d → EnvOk env sc → Inv W Z s → Loc W Z s.heap env ρ α → g ρ = some items →
    ∀ (Q : Value → Shared → Prop) (E' : Value → Shared → Prop), (∀ x s₁ Z₁, Step W .none Z s Z₁ s₁ → (∀ (Q' : Value → Shared → Prop) (E'' : Value → Shared → Prop), (∀ it s₂ Z₂, Step W .none Z₁ s₁ Z₂ s₂ → IterT W A Z₂ s s₂ it items → Q' it s₂) → wpAny W.M A (pyIter x) Q' E'' s₁) → Q x s₁) →
      wpAny W.M A (eval e env) Q E' s
theorem Step.writes1 (I : Inv W Z s) {wr : List Addr} {h' : Heap} {tk : Nat} {T : Addr} {oT : Obj} (hk : ∀ b o, b ∉ wr → s.heap.get? b = some o → h'.get? b = some o) (hw : ∀ b ∈ wr, W.h₀.get? b = none ∧ ¬ W.X b ∧ ¬ Z b) (hT : s.heap.get? T = none) (hT' : h'.get? T = some oT) (htk : s.toks ≤ tk) : Step W (.addrs (· ∈ wr)) Z s (fun b => Z b ∨ b = T) { s with heap := h', toks := tk } :=
  ⟨⟨I.ok, fun b o e x => hk b o (fun hb => by rw [(hw b hb).1] at e; cases e) (I.base b o e x), fun b x => let ⟨o, e⟩ := I.xs b x; ⟨o, hk b o (fun hb => (hw b hb).2.1 x) e⟩, fun b z => z.elim (fun z => let ⟨o, e⟩ := I.zin b z; ⟨o, hk b o (fun hb => (hw b hb).2.2 z) e⟩) fun e => ⟨oT, e ▸ hT'⟩, I.os, I.bare, fun b z => z.elim (I.zx b) fun e => e ▸ I.fresh_x hT, fun b h => .inl (I.z0 b h), Nat.le_trans I.tk htk⟩,
    fun b o hb e => hk b o hb e, fun _ z => .inl z, fun _ z => z.elim .inl fun e => .inr (.inr (e ▸ hT)), fun _ _ _ e => e⟩
structure ForAtT (W : Wd) (A : Around) (env : Env) (Z : AddrSet) (s : Shared) (fp wr : List Addr) (St : Nat → Heap → Prop) (Mid : Nat → Addr → Heap → Prop) (P : Nat → Array Value → Prop) (n : Nat) (J : Addr) (Z₂ : AddrSet) : Prop where
  I : Inv W Z s
  Wk : WalksT W.prog W.w A J fp wr n P St Mid
  hw : ∀ b ∈ wr, s.heap.get? b = none ∧ ¬ Z₂ b
  hf : ∀ b ∈ fp, b ∈ wr ∨ Z₂ b ∨ (s.heap.get? b = none ∧ ¬ Z₂ b)
  ob : ∀ i h, St i h → ∀ b ∈ fp, ∃ o, h.get? b = some o
structure ForInvT (W : Wd) (env : Env) (Z : AddrSet) (s : Shared) (ρ : Slots) (α : Str → Addr) (fp wr : List Addr) (St : Nat → Heap → Prop) (Z₂ : AddrSet) (s₂ s' : Shared) (i : Nat) (Z' : AddrSet) (ρ₁ : Slots) (α' : Str → Addr) : Prop where
  f : FStep W env Z s ρ α Z' s' ρ₁ α'
  st : St i s'.heap
  w : ∀ b ∈ wr, ¬ FOwn env ρ₁ α' b ∧ ¬ Z' b
  p : ∀ b ∈ fp, ¬ FOwn env ρ₁ α' b
  z : ∀ b o, Z₂ b → s₂.heap.get? b = some o → s'.heap.get? b = some o
  zz : ∀ b, Z₂ b → Z' b
section
variable {fp wr : List Addr} {St : Nat → Heap → Prop} {Mid : Nat → Addr → Heap → Prop} {P : Nat → Array Value → Prop} {n i : Nat} {J : Addr} {Z₂ Z₃ Z₆ : AddrSet} {s₂ s₃ s₆ : Shared} {ρ₃ ρ₆ : Slots} {α₃ α₆ : Str → Addr}
theorem ForInvT.drawn (k : ForAtT W A env Z s fp wr St Mid P n J Z₂) (c : ForInvT W env Z s ρ α fp wr St Z₂ s₂ s₃ i Z₃ ρ₃ α₃) {h' : Heap} {tk : Nat} {j : Nat} {T : Addr} {oT : Obj} (st : St j h') (hk : ∀ b o, b ∉ wr → s₃.heap.get? b = some o → h'.get? b = some o) (htk : s₃.toks ≤ tk) (hT : s₃.heap.get? T = none) (hT' : h'.get? T = some oT) (hTw : T ∉ wr) :
    ForInvT W env Z s ρ α fp wr St Z₂ s₂ { s₃ with heap := h', toks := tk } j (fun b => Z₃ b ∨ b = T) ρ₃ α₃ := by
  have p₄ := Step.writes1 (W := W) c.f.step.inv hk (fun b hb => ⟨k.I.fresh_b (k.hw b hb).1, k.I.fresh_x (k.hw b hb).1, (c.w b hb).2⟩) hT hT' htk
  exact ⟨c.f.other p₄ (fun a ha => ⟨(k.hw a ha).1, c.w a ha⟩) (fun _ h => h), st, fun b hb => ⟨(c.w b hb).1, fun z => z.elim (c.w b hb).2 fun e => hTw (e ▸ hb)⟩, c.p, fun b o z e => hk b o (fun hb => (c.w b hb).2 (c.zz b z)) (c.z b o z e), fun b z => .inl (c.zz b z)⟩
theorem ForInvT.step (k : ForAtT W A env Z s fp wr St Mid P n J Z₂) (c : ForInvT W env Z s ρ α fp wr St Z₂ s₂ s₃ i Z₃ ρ₃ α₃) (p : FStep W env Z₃ s₃ ρ₃ α₃ Z₆ s₆ ρ₆ α₆) : ForInvT W env Z s ρ α fp wr St Z₂ s₂ s₆ i Z₆ ρ₆ α₆ := by
  have hfo : ∀ b ∈ fp, ¬ FOwn env ρ₆ α₆ b := fun b hb fo => by
    obtain ⟨o, e⟩ := k.ob _ _ c.st b hb
    rcases p.fo b fo with h | h
    · exact c.p b hb h
    · rw [e] at h; cases h
  refine ⟨c.f.trans p, k.Wk.frame _ _ _ c.st fun b hb o e => p.step.keep b o (c.p b hb) e, fun b hb => ?_, hfo, fun b o z e => p.step.keep b o (fun fo => c.f.loc.nz b fo (c.zz b z)) (c.z b o z e), fun b z => p.step.zsub b (c.zz b z)⟩
  obtain ⟨o, e⟩ := k.ob _ _ c.st b (k.Wk.sub b hb)
  refine ⟨hfo b (k.Wk.sub b hb), fun z => ?_⟩
  rcases p.step.znew b z with h | h | h
  · exact (c.w b hb).2 h
  · exact (c.w b hb).1 h
  · rw [e] at h; cases h
end
theorem for_loopT {elts : List Expr} {kk : Nat} {tpos : Pos} {body : List Stmt} {T : AV → Slots → Option Slots} {B : Slots → Option (AFlow × Slots)} {items : List AV} {fl : AFlow} {fp wr : List Addr} {St : Nat → Heap → Prop} {Mid : Nat → Addr → Heap → Prop} {P : Nat → Array Value → Prop} {J : Addr} {Z₂ : AddrSet} {s₂ : Shared} {Rr : Result → Shared → Prop}
    (ht : DenTg W d sc (.Tuple elts kk tpos) T) (hb : DenSs W d sc body B) (R : Room A d) (hE : EnvOk env sc) (k : ForAtT W A env Z s fp wr St Mid P items.length J Z₂) (c : ForInvT W env Z s ρ α fp wr St Z₂ s₂ s₂ 0 Z₂ ρ α) (hP : ∀ i vals, P i vals → ∃ l, items[i]? = some (.tup l) ∧ RepVs Z₂ s₂.heap vals.toList l)
    (hf : forA T B items ρ = some (fl, ρ'))
    (q : ∀ f s' Z' α', FStep W env Z s ρ α Z' s' ρ' α' → FlowRep Z' s'.heap f fl → Rr (.ok f) s') : codeAny W.M A (.forLoop (.Tuple elts kk tpos) (.ref J) body [] env) Rr s₂ := by
  refine codeAny_forLoop_any (fun k s' => ∃ Z' ρ₁ α' i, ForInvT W env Z s ρ α fp wr St Z₂ s₂ s' i Z' ρ₁ α' ∧ k = items.length - i ∧ i ≤ items.length ∧ forA T B (items.drop i) ρ₁ = some (fl, ρ')) ?_ items.length ⟨Z₂, ρ, α, 0, c, rfl, Nat.zero_le _, hf⟩
  clear c hf
  rintro _ s₃ ⟨Z₃, ρ₃, α₃, i, c, rfl, hi', hfa⟩
  by_cases hlt : i < items.length
  · refine wpAny_with_toks (Nat.le_refl _) (k.Wk.item i s₃ _ _ hlt c.st fun Tu vals h₁ tk hv hge hTu hmid hk₁ => fun (htk : s₃.toks ≤ tk) => ?_)
    have hTw := k.Wk.apart _ _ _ hmid
    refine k.Wk.go elts kk tpos i Tu _ _ _ hmid fun h' st₄ hk₂ => ?_
    obtain ⟨oT, hoT, hcT, nT, hdT⟩ := hTu
    have hoT' : h'.get? Tu = some oT := hk₂ Tu oT hTw hoT
    have hTn : s₃.heap.get? Tu = none := Heap.get?_none_of_le hge
    have c4 := c.drawn (tk := tk) k st₄ (fun b o hb e => hk₂ b o hb (hk₁ b o hb e)) htk hTn hoT' hTw
    clear c
    obtain ⟨l, ha, ra⟩ := hP i vals hv
    have rT : RepV (fun b => Z₃ b ∨ b = Tu) h' (.ref Tu) (.tup l) := .tup (.inr rfl) ⟨oT, hoT', hcT, nT, hdT⟩ (ra.mono c4.zz c4.z)
    rw [List.drop_eq_getElem_cons hlt, Option.some.inj ((List.getElem?_eq_getElem hlt).symm.trans ha)] at hfa
    unfold forA at hfa
    obtain ⟨ρ₅, h₅, hfa⟩ := bindO hfa
    obtain ⟨⟨fl₆, ρ₆⟩, h₆, hfa⟩ := bindO hfa
    refine ht A env _ _ ρ₃ α₃ _ _ ρ₅ R hE c4.f.step.inv c4.f.loc rT h₅ _ _ fun s₅ Z₅ α₅ f₅ => ?_
    have c5 := c4.step k f₅
    clear c4 f₅ h₅
    refine hb A env Z₅ s₅ ρ₅ α₅ fl₆ ρ₆ R hE c5.f.step.inv c5.f.loc h₆ _ _ fun f s₆ Z₆ α₆ f₆ r₆ => ?_
    have c6 := c5.step k f₆
    have hlt' : items.length - (i + 1) < items.length - i := Nat.sub_lt_sub_left hlt (Nat.lt_succ_self i)
    clear h₆ f₆ c5
    revert hfa
    apply flow_cases r₆
    · exact fun hfa => ⟨items.length - (i + 1), hlt', Z₆, ρ₆, α₆, i + 1, c6, rfl, hlt, hfa⟩
    · intro hfa; cases hfa; exact q .next s₆ Z₆ α₆ c6.f trivial
    · exact fun hfa => ⟨items.length - (i + 1), hlt', Z₆, ρ₆, α₆, i + 1, c6, rfl, hlt, hfa⟩
    · intro v a r hfa; cases hfa; exact q _ s₆ Z₆ α₆ c6.f r
  · have hin : i = items.length := Nat.le_antisymm hi' (Nat.le_of_not_lt hlt)
    rw [hin, List.drop_length] at hfa
    cases hfa
    have hst : St items.length s₃.heap := hin ▸ c.st
    refine wpAny_with_toks (Nat.le_refl _) (k.Wk.done s₃ _ _ hst fun h' tk hk => fun (htk : s₃.toks ≤ tk) => ?_)
    have p₄ : Step W (.addrs (· ∈ wr)) Z₃ s₃ Z₃ { s₃ with heap := h', toks := tk } := .writes c.f.step.inv hk fun b hb => ⟨k.I.fresh_b (k.hw b hb).1, k.I.fresh_x (k.hw b hb).1, (c.w b hb).2⟩
    exact wpAny_execs_nil (q .next _ Z₃ α₃ (c.f.other p₄ (fun a ha => ⟨(k.hw a ha).1, c.w a ha⟩) (fun _ h => h)) trivial)
theorem den_forT {elts : List Expr} {kk : Nat} {tpos : Pos} {iter : Expr} {body : List Stmt} {pos : Pos} {g : Slots → Option (List AV)} {T : AV → Slots → Option Slots} {B : Slots → Option (AFlow × Slots)} (hi : DenItT W d sc iter g) (ht : DenTg W d sc (.Tuple elts kk tpos) T) (hb : DenSs W d sc body B) (hs : ∀ env x, foldedSetIterable iter env x = pure x) :
    DenS W d sc (.For (.Tuple elts kk tpos) iter body [] pos) fun ρ => g ρ >>= fun items => forA T B items ρ := by
  intro A env Z s ρ α fl ρ' R hE I L hf Q E' q
  obtain ⟨items, hit, hf⟩ := bindO hf
  refine wpAny_For (hi A env Z s ρ α items R hE I L hit _ _ fun x s₁ Z₁ p₁ hx => hx _ _ fun it s₂ Z₂ p₂ hI => ?_) (hs env)
  obtain ⟨J, fp, wr, P, St, Mid, rfl, Wk, st, hP, hwr, hfp, hob⟩ := hI
  have fs := (FStep.pure L p₁).trans (FStep.pure (L.step0 p₁) p₂)
  have hn : ∀ b, s.heap.get? b = none → ¬ FOwn env ρ α b := fun b h f => by obtain ⟨o, e⟩ := L.alive f; rw [h] at e; cases e
  refine for_loopT ht hb R hE ⟨I, Wk, hwr, hfp, hob⟩ ⟨fs, st, fun b hb => ⟨hn b (hwr b hb).1, (hwr b hb).2⟩, fun b hb => ?_, fun _ _ _ e => e, fun _ z => z⟩ hP hf q
  rcases hfp b hb with h | h | h
  · exact hn b (hwr b h).1
  · exact fun f => fs.loc.nz b f h
  · exact hn b h.1
noncomputable def zipA : List AV → List AV → List AV
  | a :: l, b :: m => .tup [a, b] :: zipA l m
  | _, _ => []
noncomputable def zipF (l : List AV) : Option (List AV) := match l with
  | [.lst a, .lst b] => some (zipA a b)
  | _ => none
noncomputable def enumL (k : Nat) : List AV → List AV
  | [] => []
  | a :: l => .tup [.int k, a] :: enumL (k + 1) l
theorem enumL_get : ∀ (l : List AV) (k i : Nat) {a : AV}, l[i]? = some a → (enumL k l)[i]? = some (.tup [.int (k + i : Nat), a])
  | [], _, _, _, h => by simp at h
  | b :: l, k, 0, _, h => by simp at h; subst h; rfl
  | b :: l, k, i + 1, _, h => by
    have := enumL_get l (k + 1) i (by simpa using h)
    rw [enumL, List.getElem?_cons_succ, this, show k + 1 + i = k + (i + 1) by (first | lia | omega)]
theorem enumL_length : ∀ (l : List AV) (k : Nat), (enumL k l).length = l.length
  | [], _ => rfl
  | _ :: l, k => by simp [enumL, enumL_length l]
noncomputable def enumF (l : List AV) : Option (List AV) := match l with
  | [.lst a] => some (enumL 0 a)
  | _ => none
theorem it_enum {np pos : Pos} {es : List Expr} {fs : Slots → Option (List AV)} (hg : W.Glob "enumerate" (.type "enumerate")) (hk : sc.names.lookup ("enumerate" : Str) = some .globalImplicit) (ha : DenPs W d sc es fs) (hns : ∀ env pos, (backTo pos (starEach es env)).any (·.1) = false) :
    DenItT W d sc (.Call (.Name "enumerate" np) es [] pos) fun ρ => fs ρ >>= enumF := by
  intro A env Z s ρ α items R hE I L hf Q E' q
  obtain ⟨l, hl, hf⟩ := bindO hf
  show wpAny _ _ (do callWith pos (← eval (.Name "enumerate" np) env) [] (backTo pos (starEach es env)) (backToKw pos (keywordEach [] env))) _ _ _
  refine wpAny_bind (load_glob hE I hg hk (by decide) (callWith_den (keep_type "enumerate") ha hns R hE I L hl fun vs s₁ Z₁ p₁ r₁ => ?_))
  unfold enumF at hf
  split at hf
  · rename_i a
    cases hf
    obtain ⟨v1, rfl, ra⟩ := r₁.one
    obtain ⟨l1, xs, rfl, z1, hl1, rx⟩ := ra.lst'
    refine call_enumerate_list hl1 fun h' hz hi1 hsz hk' => ?_
    have p₂ : Step W .none Z₁ s₁ Z₁ { s₁ with heap := h' } := .grow p₁.inv (tk := s₁.toks) hk'
    have hlt1 : l1 < s₁.heap.objs.size := by obtain ⟨o, ho, _⟩ := hl1; exact Heap.lt_size ho
    refine q _ _ Z₁ (p₁.tr p₂) fun Q' E'' q' => wpAny_pyIter_enum hz (q' _ _ Z₁ (.id p₂.inv) ?_)
    have hn : ∀ b, s₁.heap.objs.size ≤ b → s.heap.get? b = none ∧ ¬ Z₁ b := fun b hb => ⟨(p₁.none_back (Heap.get?_none_of_le hb)).resolve_left id, p₁.inv.fresh_z (Heap.get?_none_of_le hb)⟩
    have Wk := WalksT.enumerate (prog := W.prog) (w := W.w) R.handled (s₁.heap.objs.size + 1) s₁.heap.objs.size l1 (Nat.succ_ne_self _) (ktu_ne 1 hlt1) (Nat.ne_of_lt hlt1) xs.toArray
    rw [show xs.toArray.size = (enumL 0 a).length by rw [enumL_length, List.size_toArray, rx.length]] at Wk
    refine ⟨_, _, _, _, _, _, rfl, Wk, ⟨⟨_, hz⟩, hi1, hl1.at fun o e => hk' _ o e⟩, ?_, ?_, ?_, ?_⟩
    · rintro i vals ⟨t, x, hx, rfl⟩
      obtain ⟨a', ha', ra'⟩ := rx.back hx
      refine ⟨[.int (0 + i : Nat), a'], enumL_get _ 0 i ha', .cons ?_ (.cons (p₂.rep0 ra') .nil)⟩
      rw [Nat.zero_add]; exact .int _ _
    · intro b hb
      refine hn b ?_
      simp only [List.mem_cons, List.not_mem_nil, or_false] at hb
      rcases hb with rfl | rfl
      · exact Nat.le_add_right _ _
      · exact Nat.le_refl _
    · intro b hb
      simp only [List.mem_cons, List.not_mem_nil, or_false] at hb
      rcases hb with rfl | rfl | rfl
      · exact .inl (by simp)
      · exact .inl (by simp)
      · exact .inr (.inl z1)
    · rintro i h ⟨⟨_, g1⟩, ⟨o4, g4, _⟩, ⟨o6, g6, _⟩⟩ b hb
      simp only [List.mem_cons, List.not_mem_nil, or_false] at hb
      rcases hb with rfl | rfl | rfl
      · exact ⟨_, g1⟩
      · exact ⟨_, g4⟩
      · exact ⟨_, g6⟩
  · cases hf
end
end Mine
end
section
set_option linter.unusedVariables false
namespace Mine
section
variable {W : Wd} {Z Z' Z₁ : AddrSet} {s s' s₁ : Shared} {env : Env} {sc : Scope} {ρ ρ' : Slots} {α α' : Str → Addr} {A : Around} {d : Nat}
structure MakerF (W : Wd) (f c P : Addr) (qual : Str) (fd : FuncData) (names : List Str) (name : Str) (params : Arguments) (ibody : List Stmt) (iscope : Scope) (pos : Pos) (rest : List Stmt) (inames : List Str) : Prop where
  fn : FnC W f fd (.FunctionDef name params ibody [] none [] iscope none name pos :: rest)
  bind : ∀ (vals : List Value), vals.length = names.length → bindArgs fd ⟨vals, []⟩ = pure (names.zip vals)
  loc : ∀ x ∈ names, fd.scope.names.lookup x = some .local ∨ fd.scope.names.lookup x = some .cell
  self : fd.scope.names.lookup frz = some .cell
  qual : ∀ L, qualnameIn (callEnvC fd L f) name name = qual
  code : fd.code = .ref c
  codeHd : codeHdIn W.K c P = true
  d0 : params.defaults = []
  k0 : params.kw_defaults = []
  ann : ∀ env, annTrees params none env = []
  kd : Kd fd.scope name
  inocell : ∀ x ∈ iscope.names, x.2 ≠ .cell
  ifree : ∀ x, iscope.names.lookup x = some .free → x = frz
  ihfree : iscope.names.lookup frz = some .free
  ifrees : iscope.names.filter (fun x => x.2 == .free) = [(frz, .free)]
  ikind : iscope.kind = .function
  ico : iscope.isCoroutine = false
  igen : iscope.isGenerator = false
  ibind : ∀ (qual : Str) (clos : List (Str × Addr)) (doc pm : Value) (c' : Addr) (ctv : Value) (s : Shared) (vals : List Value), vals.length = inames.length → BindsTo s (fnX name qual params ibody iscope clos .none .none doc pm none (.ref c') ctv) ⟨vals, []⟩ (inames.zip vals)
  iloc : ∀ x ∈ inames, iscope.names.lookup x = some .local
  inot : frz ∉ inames
structure Leap (W : Wd) (Z : AddrSet) (s : Shared) (Z' : AddrSet) (s' : Shared) : Prop where
  keep : ∀ b o, ¬ W.X b → s.heap.get? b = some o → s'.heap.get? b = some o
  zsub : ∀ a, Z a → Z' a
  znew : ∀ a, Z' a → Z a ∨ s.heap.get? a = none
  zin : ∀ a, Z' a → ∃ o, s'.heap.get? a = some o
  os : s'.os = s.os
  bare : AllBare s'.gens
  tk : 1 ≤ s'.toks
  gens : ∀ (i : Nat) x, s.gens[i]? = some x → s'.gens[i]? = some x
end
end Mine
end
section
set_option linter.unusedVariables false
namespace Mine
section
variable {W : Wd} {Z Z' Z₁ : AddrSet} {s s' s₁ : Shared} {env : Env} {sc : Scope} {ρ ρ' : Slots} {α α' : Str → Addr} {A : Around} {d : Nat} {P : Addr} {ps : Array Value} {tpos : Pos} {qual : Str}
noncomputable def methA (C : Addr) (meth : Str) (G : List AV → Option AV) (self : AV) (args : List AV) : Option AV := match self with
  | .inst c fl => if c = C ∧ fl.lookup meth = none then G (self :: args) else none
  | _ => none
theorem den_methF {meth : Str} {o : Expr} {es : List Expr} {apos pos : Pos} {f : Slots → Option AV} {fs : Slots → Option (List AV)} {C m : Addr} {G : List AV → Option AV}
    (ho : DenP W d sc o f) (ha : DenPs W d sc es fs) (hns : ∀ env pos, (backTo pos (starEach es env)).any (·.1) = false)
    (hg : plainGet W.K C meth = true) (hfi : findIn W.K (.ref C) meth = some (some (.ref m))) (hfn : isFn W.K (.ref m) = true) (hko : KeepOk W (.ref m))
    (pl : Env → Value → Sem Bool) (he : ∀ env, eval (.Call (.Attribute o meth apos) es [] pos) env = (do
      let ov ← eval o env
      standAt apos.atName
      let (f, first) ← holding [ov] (getMethod ov meth (pl env ov))
      callWith pos f first (backTo pos (starEach es env)) [])) (hF : FSpec W d (.ref m) G) :
    DenP W d sc (.Call (.Attribute o meth apos) es [] pos) fun ρ => f ρ >>= fun self => fs ρ >>= fun args => methA C meth G self args := by
  intro A env Z s ρ α av R hE I L hf Q E' q
  obtain ⟨self, hself, hf⟩ := bindO hf
  obtain ⟨l, hl, hf⟩ := bindO hf
  unfold methA at hf
  split at hf
  · rename_i c fl
    have ⟨hc, hf2⟩ := iteO hf
    obtain ⟨rfl, hlk⟩ := hc
    rw [he env]
    refine wpAny_bind (ho A env Z s ρ α _ R hE I L hself _ _ fun v s₂ Z₂ p₂ r₂ => ?_)
    have r' := r₂
    cases r' with | inst z1 z2 o1 o2 rs =>
    rename_i x' dx ess n
    refine wpAny_bind (wpAny_standAt (wpAny_bind (wpAny_holding (method_fn p₂.inv.kin (od := some (dictOf ess n)) ⟨o1, rfl, rfl, o2⟩ (plainGet_of hg).1 (plainGet_of hg).2 hfi (beq_iff_eq.mp hfn) (by
      show (lookIn meth (dictOf ess n)).map _ = _
      rw [lookIn_dict, rs.no hlk]; rfl) ?_))))
    refine callWith_den (first := [.ref x']) hko ha hns R hE p₂.inv (L.step0 p₂) hl fun vs s₃ Z₃ p₃ r₃ => ?_
    exact hF A Z₃ s₃ (.ref x' :: vs) _ av R p₃.inv (.cons (p₃.rep0 r₂) r₃) hf2 _ _ fun rv s₄ Z₄ p₄ r₄ => q rv s₄ Z₄ ((p₂.tr p₃).tr p₄) r₄
  · cases hf
end
end Mine
end
section
set_option linter.unusedVariables false
namespace Mine
section
variable {W : Wd} {Z Z' Z₁ : AddrSet} {s s' s₁ : Shared} {env : Env} {sc : Scope} {ρ ρ' : Slots} {α α' : Str → Addr} {A : Around} {d : Nat}
end
end Mine
end
section
open PySem PySem.W PyProof.Rows PySem.Calls
set_option linter.unusedVariables false
set_option maxRecDepth 100000
set_option maxHeartbeats 4000000
namespace Mine
-- the four formats
noncomputable def idT (x : Str) (n : Int) : Str := ((" id=\"difflib_chg_" : Str) ++ x ++ ("_" : Str) ++ Str.ofString (toString n) ++ ("\"" : Str))
noncomputable def nextT (x : Str) (n : Int) : Str := (("<a href=\"#difflib_chg_" : Str) ++ x ++ ("_" : Str) ++ Str.ofString (toString n) ++ ("\">n</a>" : Str))
noncomputable def firstT (x : Str) : Str := (("<a href=\"#difflib_chg_" : Str) ++ x ++ ("_0\">f</a>" : Str))
noncomputable def topT (x : Str) : Str := (("<a href=\"#difflib_chg_" : Str) ++ x ++ ("_top\">t</a>" : Str))
section
variable {x : Str} {n : Int} {t u v : Tok} {b : Addr}
theorem meets_id (hx : x.length ≤ 1000000) (hn : 0 ≤ n) (hm : n < 10 ^ 10) : Meets (Builtin.«str.__mod__» ⟨[.str ⟨#[32, 105, 100, 61, 34, 100, 105, 102, 102, 108, 105, 98, 95, 99, 104, 103, 95, 37, 115, 95, 37, 100, 34]⟩ t, .ref b], []⟩) (fun _ R s => IsTup s.heap b #[.str x u, .int n v] ∧ ∀ t' k, R (.ok (.ret (.str (idT x n) t'))) { s with toks := k }) := by
  unfold idT; kpt_run
theorem meets_next (hx : x.length ≤ 1000000) (hn : 0 ≤ n) (hm : n < 10 ^ 10) : Meets (Builtin.«str.__mod__» ⟨[.str ⟨#[60, 97, 32, 104, 114, 101, 102, 61, 34, 35, 100, 105, 102, 102, 108, 105, 98, 95, 99, 104, 103, 95, 37, 115, 95, 37, 100, 34, 62, 110, 60, 47, 97, 62]⟩ t, .ref b], []⟩) (fun _ R s => IsTup s.heap b #[.str x u, .int n v] ∧ ∀ t' k, R (.ok (.ret (.str (nextT x n) t'))) { s with toks := k }) := by
  unfold nextT; kpt_run
theorem meets_first (hx : x.length ≤ 1000000) : Meets (Builtin.«str.__mod__» ⟨[.str ⟨#[60, 97, 32, 104, 114, 101, 102, 61, 34, 35, 100, 105, 102, 102, 108, 105, 98, 95, 99, 104, 103, 95, 37, 115, 95, 48, 34, 62, 102, 60, 47, 97, 62]⟩ t, .str x u], []⟩) (fun _ R s => ∀ t' k, R (.ok (.ret (.str (firstT x) t'))) { s with toks := k }) := by
  unfold firstT; kpc_run_s
theorem meets_top (hx : x.length ≤ 1000000) : Meets (Builtin.«str.__mod__» ⟨[.str ⟨#[60, 97, 32, 104, 114, 101, 102, 61, 34, 35, 100, 105, 102, 102, 108, 105, 98, 95, 99, 104, 103, 95, 37, 115, 95, 116, 111, 112, 34, 62, 116, 60, 47, 97, 62]⟩ t, .str x u], []⟩) (fun _ R s => ∀ t' k, R (.ok (.ret (.str (topT x) t'))) { s with toks := k }) := by
  unfold topT; kpc_run_s
end
end Mine
end
section
open PySem PySem.W PyProof.Rows PySem.Calls
set_option linter.unusedVariables false
set_option maxRecDepth 100000
set_option exponentiation.threshold 3000
namespace Mine
section
variable {W : Wd} {Z Z' Z₁ : AddrSet} {s s' s₁ : Shared} {env : Env} {sc : Scope} {ρ ρ' : Slots} {α α' : Str → Addr} {A : Around} {d : Nat}
noncomputable def pct2 (T : Str → Int → Str) : AV → Option AV
  | .tup [.str x, .int n] => if x.length ≤ 1000000 ∧ 0 ≤ n ∧ n < 10 ^ 10 then some (.str (T x n)) else none
  | _ => none
noncomputable def pct1 (T : Str → Str) (a : AV) : Option AV := a.str? >>= fun x => if x.length ≤ 1000000 then some (.str (T x)) else none
theorem pct2_eq {T : Str → Int → Str} : ∀ {a c : AV}, pct2 T a = some c → ∃ x n, a = .tup [.str x, .int n] ∧ (x.length ≤ 1000000 ∧ 0 ≤ n ∧ n < 10 ^ 10) ∧ c = .str (T x n) := fun {a c} h => by
  unfold pct2 at h
  split at h
  · obtain ⟨h1, h⟩ := iteO h; cases h; exact ⟨_, _, rfl, h1, rfl⟩
  · cases h
theorem mod_tup {X X' T : Str} {t : Tok} {b : Addr} {its : Array Value} {Q : Value → Shared → Prop} {E' : Value → Shared → Prop} (ht : IsTup s.heap b its) (hX : X = X')
    (hm : Meets (Builtin.«str.__mod__» ⟨[.str X' t, .ref b], []⟩) (fun _ R s => IsTup s.heap b its ∧ ∀ t' k, R (.ok (.ret (.str T t'))) { s with toks := k }))
    (h : ∀ t' k, Q (.str T t') { s with toks := k }) : wpAny W.M A (binaryOp .Mod (.str X t) (.ref b)) Q E' s := by
  subst hX
  have hT : s.TypeIs (.ref b) "tuple" := let ⟨o, ho, hc, _⟩ := ht; ⟨o, ho, hc⟩
  exact KPt.bin_left (T := "str") (U := "tuple") (op := .Mod) (by decide) (typeIs_str s X t) hT F.fills_str_mod KPt.fills_tuple F.slot_str_mod
    (call_meets F.slot_str_mod (typeIs_str s X t) F.entry_str_mod (F.args_str_mod_2 _ _) hm ⟨ht, fun t' k => ⟨(fun e => nomatch e), h t' k⟩⟩)
theorem den_pct2 {r : Expr} {F X : Str} {k : Nat} {p pos : Pos} {g : Slots → Option AV} {T : Str → Int → Str} (hr : DenP W d sc r g) (hX : F = X)
    (hm : ∀ {x n t u v b}, x.length ≤ 1000000 → 0 ≤ n → n < 10 ^ 10 → Meets (Builtin.«str.__mod__» ⟨[.str X t, .ref b], []⟩) (fun _ R s => IsTup s.heap b #[.str x u, .int n v] ∧ ∀ t' k, R (.ok (.ret (.str (T x n) t'))) { s with toks := k })) :
    DenP W d sc (.BinOp (.Constant (.str F) k p) .Mod r pos) fun ρ => g ρ >>= pct2 T := by
  intro A env Z s ρ α av R hE I L hf Q E' q
  obtain ⟨b, hb, hf⟩ := bindO hf
  obtain ⟨x, n, rfl, ⟨h1, h2, h3⟩, rfl⟩ := pct2_eq hf
  refine wpAny_BinOp (den_str F k p A env Z s ρ α _ R hE I L rfl _ _ fun va s₁ Z₁ p₁ r₁ => hr A env Z₁ s₁ ρ α _ R hE p₁.inv (L.step0 p₁) hb _ _ fun vb s₂ Z₂ p₂ r₂ => ?_)
  obtain ⟨t, rfl⟩ := r₁.str'
  obtain ⟨b, vs, rfl, z, ht, rs⟩ := r₂.tup'
  obtain ⟨v1, vs, rfl, e1, rs⟩ := rs.cons'
  obtain ⟨v2, vs, rfl, e2, rs⟩ := rs.cons'
  cases rs.nil'
  obtain ⟨u, rfl⟩ := e1.str'
  obtain ⟨v, rfl⟩ := e2.int'
  refine wpAny_with_toks (Nat.le_refl _) (mod_tup ht hX (hm h1 h2 h3) fun t' k => fun (htk : s₂.toks ≤ k) => ?_)
  exact q _ _ Z₂ (p₁.tr (p₂.tr (.toks p₂.inv k htk))) (.str _ _)
theorem den_pct1 {r : Expr} {F X : Str} {k : Nat} {p pos : Pos} {g : Slots → Option AV} {T : Str → Str} (hr : DenP W d sc r g) (hX : F = X)
    (hm : ∀ {x t u}, x.length ≤ 1000000 → Meets (Builtin.«str.__mod__» ⟨[.str X t, .str x u], []⟩) (fun _ R s => ∀ t' k, R (.ok (.ret (.str (T x) t'))) { s with toks := k })) :
    DenP W d sc (.BinOp (.Constant (.str F) k p) .Mod r pos) fun ρ => g ρ >>= pct1 T := by
  intro A env Z s ρ α av R hE I L hf Q E' q
  obtain ⟨b, hb, hf⟩ := bindO hf
  obtain ⟨x, hx, hf⟩ := bindO hf
  obtain ⟨h1, hf⟩ := iteO hf
  cases hf
  refine wpAny_BinOp (den_str F k p A env Z s ρ α _ R hE I L rfl _ _ fun va s₁ Z₁ p₁ r₁ => hr A env Z₁ s₁ ρ α _ R hE p₁.inv (L.step0 p₁) hb _ _ fun vb s₂ Z₂ p₂ r₂ => ?_)
  obtain ⟨t, rfl⟩ := r₁.str'
  obtain ⟨u, rfl⟩ := str?_rep hx r₂
  refine wpAny_with_toks (Nat.le_refl _) (KPc.mod_str hX h1 (fun z hz => hm hz) fun t' k => fun (htk : s₂.toks ≤ k) => ?_)
  exact q _ _ Z₂ (p₁.tr (p₂.tr (.toks p₂.inv k htk))) (.str _ _)
noncomputable def max3 (l : List AV) : Option AV := match l with
  | [a, b, c] => a.int? >>= fun i => b.int? >>= fun j => c.int? >>= fun k => some (.int (max (max i j) k))
  | l => maxF l
theorem spec_max3 : FSpec W d (.builtin "max") max3 := by
  intro A Z s vals args av R I r h Q E' q
  unfold max3 at h
  split at h
  · obtain ⟨i, hi, h⟩ := bindO h
    obtain ⟨j, hj, h⟩ := bindO h
    obtain ⟨k, hk, h⟩ := bindO h
    cases h
    obtain ⟨v1, vs, rfl, e1, rs⟩ := r.cons'
    obtain ⟨v2, vs, rfl, e2, rs⟩ := rs.cons'
    obtain ⟨v3, vs, rfl, e3, rs⟩ := rs.cons'
    cases rs.nil'
    obtain ⟨t, rfl⟩ := int?_rep hi e1
    obtain ⟨u, rfl⟩ := int?_rep hj e2
    obtain ⟨x, rfl⟩ := int?_rep hk e3
    refine wpAny_with_toks (Nat.le_refl _) (max_three_ints R.handled fun h' tk hk => fun (htk : s.toks ≤ tk) => ?_)
    have fin : ∀ m t, max (max i j) k = m → Q (.int m t) { s with heap := h', toks := tk } := fun m t e => q _ _ Z (.grow I hk htk) (e ▸ .int _ _)
    by_cases h1 : j > i
    · rw [if_pos h1]
      by_cases h2 : k > j
      · rw [if_pos h2]; exact fin _ _ (by (first | lia | omega))
      · rw [if_neg h2]; exact fin _ _ (by (first | lia | omega))
    · rw [if_neg h1]
      by_cases h2 : k > i
      · rw [if_pos h2]; exact fin _ _ (by (first | lia | omega))
      · rw [if_neg h2]; exact fin _ _ (by (first | lia | omega))
  · exact spec_max A Z s vals _ av R I r h Q E' q
noncomputable def maxL (l : List AV) : Option AV := arg1 l fun a => a.lst? >>= maxF
theorem spec_maxL : FSpec W d (.builtin "max") maxL := by
  intro A Z s vals args av R I r h Q E' q
  obtain ⟨a, v, rfl, ra, h⟩ := arg1_rep h r
  obtain ⟨l, hl, h⟩ := bindO h
  obtain ⟨b, vs, rfl, z, hb, rs⟩ := lst?_rep hl ra
  obtain ⟨i, j, t, u, rfl, rfl⟩ := ints2_rep h rs
  have hb' : s.heap.IsList b (intItems #[(i, t), (j, u)]) := by simpa [intItems] using hb
  refine wpAny_with_toks (Nat.le_refl _) (max_intList R.handled hb' (by simp) fun v h' tk hv hk => fun (htk : s.toks ≤ tk) => ?_)
  refine q _ _ Z (.grow I hk htk) ?_
  have hv' : (#[Value.int i t, Value.int j u])[if j > i then 1 else 0]? = some v := by
    have e : argBest (fun a b => decide (numAt #[(i, t), (j, u)] a > numAt #[(i, t), (j, u)] b)) 1 = if j > i then 1 else 0 := by
      by_cases h : j > i
      · rw [if_pos h]; simp [argBest, numAt, h]
      · rw [if_neg h]; simp [argBest, numAt, h]
    simpa [intItems, e] using hv
  by_cases h : j > i
  · rw [if_pos h] at hv' ⊢; cases hv'; exact .int _ _
  · rw [if_neg h] at hv' ⊢; cases hv'; exact .int _ _
noncomputable def strF (l : List AV) : Option AV := arg1 l fun a => a.int? >>= fun i => if i.natAbs < 10 ^ 10 then some (.str (Str.ofString (toString i))) else none
theorem log_small {n : Nat} (h : n < 10 ^ 10) : n.log2 < 1920 := by
  rcases Nat.eq_zero_or_pos n with rfl | h0
  · decide
  · exact (Nat.log2_lt (Nat.pos_iff_ne_zero.mp h0)).mpr (Nat.lt_of_lt_of_le h (Nat.le_trans (show 10 ^ 10 ≤ 2 ^ 40 by decide) (Nat.pow_le_pow_right (by decide) (by decide))))
theorem spec_str : FSpec W d (.type "str") strF := by
  intro A Z s vals args av R I r h
  obtain ⟨a, v, rfl, ra, h⟩ := arg1_rep h r
  obtain ⟨i, hi, h⟩ := bindO h
  obtain ⟨hz, h⟩ := iteO h
  cases h
  obtain ⟨t, rfl⟩ := int?_rep hi ra
  exact .val I fun Q E' q => P.str_of_int (log_small hz) (q _ _ (.str _ _))
theorem den_meth_lst {o : Expr} {name : Str} {apos pos : Pos} {es : List Expr} {f : Slots → Option AV} {fs : Slots → Option (List AV)} {id : String} {F : List AV → Option AV} (ho : DenP W d sc o f)
    (hbase : ∀ env, attributeBase o name env (eval o env) = eval o env)
    (hfew : ∀ env, ((backTo pos (starEach es env)).all (fun x => !x.1) && (backToKw pos (keywordEach [] env)).all (fun x => x.1.isSome) && decide (es.length + ([] : List Keyword).length + (if ([] : List Keyword).isEmpty then 0 else 1) < 30)) = true)
    (hline : (apos.endLine == pos.line) = true) (slot : Slot "list" name id) (hty : typeOf (.builtin id) = pure (.type "method_descriptor")) (ha : DenPs W d sc es fs) (hn : ∀ env pos, (backTo pos (starEach es env)).any (·.1) = false)
    (hF : FSpec W d (.builtin id) F) : DenP W d sc (.Call (.Attribute o name apos) es [] pos) fun ρ => f ρ >>= fun a => a.lst? >>= fun x => fs ρ >>= fun l => F (.lst x :: l) := by
  intro A env Z s ρ α av R hE I L hf Q E' q
  obtain ⟨a, ha', hf⟩ := bindO hf
  obtain ⟨x, hx, hf'⟩ := bindO hf
  obtain ⟨l, hl, hf''⟩ := bindO hf'
  have : a = .lst x := lst?_eq hx
  subst this
  refine wpAny_Call_method (hbase env) (hfew env) hline PySem.F.plainAttrs_list slot hty (ho A env Z s ρ α _ R hE I L ha' _ _ fun ov s₁ Z₁ p₁ r₁ => ?_)
  obtain ⟨b, vs, rfl, z, ⟨o, ho, hc, hd, r⟩, rs⟩ := r₁.lstP
  refine ⟨⟨o, ho, hc⟩, fun a e => (by cases e; exact ⟨o, ho, hd⟩), ?_⟩
  exact callWith_den (first := [.ref b]) (keep_builtin id) ha hn R hE p₁.inv (L.step0 p₁) hl fun vs s₂ Z₂ p₂ r₂ => hF A Z₂ s₂ (.ref b :: vs) (.lst x :: l) av R p₂.inv (.cons (p₂.rep0 (.lst z ⟨o, ho, hc, hd, r⟩ rs)) r₂) hf'' _ _ fun v s₃ Z₃ p₃ r₃ => q v s₃ Z₃ (p₁.tr (p₂.tr p₃)) r₃
noncomputable def indexF (l : List AV) : Option AV := arg2 l fun a b => a.lst? >>= fun l => intsOf l >>= fun ns => b.int? >>= fun k => if k ∈ ns ∧ ns.length ≤ 1000000 then some (.int (ns.idxOf k)) else none
noncomputable def isInt (k : Int) : Value → Bool
  | .int i _ => i == k
  | _ => false
theorem ints_at {vs : List Value} {ns : List Int} (h : IntsAre vs ns) : ∀ {i : Nat} {v : Value}, vs[i]? = some v → ∃ n t, ns[i]? = some n ∧ v = .int n t := by
  induction h with
  | nil => intro i v e; cases e
  | cons n t _ ih =>
    intro i v e
    cases i with
    | zero => cases e; exact ⟨n, t, rfl, rfl⟩
    | succ i => exact ih e
theorem spec_index : FSpec W d (.builtin "list.index") indexF := by
  intro A Z s vals args av R I r h
  obtain ⟨a, b, v, w, rfl, ra, rb, h⟩ := arg2_rep h r
  obtain ⟨l, hl, h⟩ := bindO h
  obtain ⟨ns, hns, h⟩ := bindO h
  obtain ⟨k, hk, h⟩ := bindO h
  obtain ⟨⟨hm, hz⟩, h⟩ := iteO h
  cases h
  obtain ⟨c, vs, rfl, z, hb, rs⟩ := lst?_rep hl ra
  obtain ⟨u, rfl⟩ := int?_rep hk rb
  have hi := ints_rep rs hns
  obtain ⟨⟨oc, od, odt, osl⟩, ho, hc, n, hd⟩ := id hb
  cases hc; cases hd
  have hlen : vs.length = ns.length := hi.length
  have hj : ns.idxOf k < ns.length := List.idxOf_lt_length_of_mem hm
  have at' : ∀ m (h : m < vs.toArray.size), ∃ t, vs.toArray[m] = .int (ns[m]'(by rw [← hlen]; simpa using h)) t := fun m h => by
    have h' : m < vs.length := by simpa using h
    obtain ⟨x, t, e1, e2⟩ := ints_at hi (List.getElem?_eq_getElem h')
    refine ⟨t, ?_⟩
    rw [List.getElem_toArray, e2]
    rw [List.getElem?_eq_getElem (by rw [← hlen]; exact h')] at e1
    cases e1; rfl
  refine .val I fun Q E' q => call_meets F.slot_list_index hb.typeIs F.entry_list_index (F.args_list_index_2 _ _) (PySem.SeqAt.list_indexAt c vs.toArray n od osl (.int k u) (isInt k) (ns.idxOf k) (by simpa [hlen] using hj) (by (first | lia | omega)) ?_ fun m hm hlt => ?_) ⟨ho, fun y hy => ?_, ?_⟩
  · obtain ⟨t, e⟩ := at' (ns.idxOf k) (by simpa [hlen] using hj)
    rw [e]
    show (_ == k) = true
    rw [List.getElem_idxOf]; simp
  · obtain ⟨t, e⟩ := at' m hm
    rw [e]
    show (_ == k) = false
    have := List.not_of_lt_findIdx (p := (· == k)) (xs := ns) hlt
    simpa using this
  · obtain ⟨m, hm, rfl⟩ := Array.mem_iff_getElem.mp hy
    obtain ⟨t, e⟩ := at' m hm
    rw [e]
    exact PySem.SeqAt.EqAt.int_int _ _ _ _
  · exact q _ _ (.int _ _)
theorem den_assign2 {x y : Str} {p p' pos : Pos} {e : Expr} {f : Slots → Option AV} (h : DenP W d sc e f) (hk : Kd sc x) (hk' : Kd sc y) (hs : ∀ env, swappedStores [.Name x p, .Name y p'] e env = pure none) :
    DenS W d sc (.Assign [.Name x p, .Name y p'] e pos) fun ρ => f ρ >>= fun a => some (.next, (ρ.set x (.val a)).set y (.val a)) := by
  intro A env Z s ρ α fl ρ' R hE I L hf Q E' q
  obtain ⟨a, ha, hf⟩ := bindO hf
  cases hf
  refine wpAny_Assign_two (h A env Z s ρ α a R hE I L ha _ _ fun v s₁ Z₁ p₁ r₁ => ?_) rfl (hs env)
  refine tg_name (p := p) hk A env Z₁ s₁ ρ α v a _ R hE p₁.inv (L.step0 p₁) r₁ rfl _ _ fun s₂ Z₂ α₂ p₂ => ?_
  exact tg_name (p := p') hk' A env Z₂ s₂ _ α₂ v a _ R hE p₂.step.inv p₂.loc (p₂.step.rep (fun a z f => (L.step0 p₁).nz a f z) r₁) rfl _ _ fun s₃ Z₃ α₃ p₃ => q .next s₃ Z₃ α₃ (((FStep.pure L p₁).trans p₂).trans p₃) trivial
end
end Mine
end
section
open PySem PySem.W PyProof.Rows PySem.Calls
set_option linter.unusedVariables false
set_option maxRecDepth 100000
namespace Mine
section
variable {W : Wd} {Z Z' Z₁ : AddrSet} {s s' s₁ : Shared} {env : Env} {sc : Scope} {ρ ρ' : Slots} {α α' : Str → Addr} {A : Around} {d : Nat}
theorem set_raw {x dx C fI : Addr} {es : List DictEntry} {n : Nat} {name : Str} {v : Value} {Q : Unit → Shared → Prop} {E' : Value → Shared → Prop} (k : ClsK W C fI) (X : W.K.In s.heap) (hx : s.heap.get? x = some (instObj C dx)) (hdx : s.heap.get? dx = some (dictOf es n)) (ht : takerIn W.K C name = some none)
    (hno : PySem.W.getL name es = some none) (hfi : es.find? (·.key.isStr name) = none) (hz : es.length ≤ 900)
    (h : ∀ h' n', h'.get? dx = some (dictOf (es ++ [⟨PyData.keyHash W.w.params name, .str name (s.toks + 1), v⟩]) n') → (∀ b, b ≠ dx → h'.get? b = s.heap.get? b) → Q () { s with heap := h', toks := s.toks + 2 }) :
    wpAny W.M A (setAttr (.ref x) name v) Q E' s := by
  have I : InstAt s.heap x (instObj C dx) C (some (dictOf es n)) := ⟨hx, rfl, rfl, hdx⟩
  refine set_plain X I k.setattr (osa_open (s := { s with toks := s.toks + 1 }) X I k.over ht fun b => ?_)
  obtain ⟨cd, hc, hd'⟩ := any_some k.dict
  have hput : Obj.putName name (PyData.keyHash W.w.params name) (.str name (s.toks + 1)) v (dictOf es n) = dictOf (es ++ [⟨PyData.keyHash W.w.params name, .str name (s.toks + 1), v⟩]) (putN name es n) := by rw [putName_dict, putL_new hfi]
  have hD : (s.heap.update dx (Obj.putName name (PyData.keyHash W.w.params name) (.str name (s.toks + 1)) v)).get? dx = some (dictOf (es ++ [⟨PyData.keyHash W.w.params name, .str name (s.toks + 1), v⟩]) (putN name es n)) := by
    rw [← hput]; exact Heap.get?_update_self _ hdx (by rw [hput]; rfl)
  have hcl : Looks W.M ({ s with toks := s.toks + 1 } : Shared).heap (classData C) cd := looks_clsIn X hc
  refine wpAny_bind (wpAny_pure (wpAny_bind (wpAny_bind (wpAny_loadPart hx (wpAny_bind (hcl.here ?_))))))
  rw [hd']
  refine wpAny_pure (a := some dx) (wpAny_bind (wpAny_pure (wpAny_bind ?_)))
  unfold nsSet
  refine wpAny_bind (wpAny_bind (wpAny_askSetting (wpAny_pure (wpAny_bind (wpAny_mkText (wpAny_bind (wpAny_loadPart hdx ?_)))))))
  have hany : es.any (·.refKey) = false := by
    unfold PySem.W.getL at hno
    rw [hfi] at hno
    dsimp only at hno
    cases c : es.any (·.refKey) with
    | false => rfl
    | true => rw [c] at hno; cases hno
  have c : (!es.toArray.any (·.key.isStr name) && es.toArray.any (·.refKey)) = false := by
    rw [List.any_toArray, List.any_toArray, hany, Bool.and_false]
  dsimp only
  rw [aRefKeyMayBeTheName_at, c]
  refine wpAny_updatePart hdx ?_
  refine wpAny_bind (wpAny_lookBehind hD (pastItsLine_dict (by rw [List.size_toArray, sizeLine_eq]; simp; (first | lia | omega))) ?_)
  exact wpAny_pure (h _ _ hD fun b hb => Heap.get?_update_other _ _ (Ne.symm hb))
end
end Mine
end
section
open PySem PySem.W PyProof.Rows PySem.Calls
set_option linter.unusedVariables false
namespace Mine
section
variable {W : Wd} {Z Z' Z₁ : AddrSet} {s s' s₁ : Shared} {env : Env} {sc : Scope} {ρ ρ' : Slots} {α α' : Str → Addr} {A : Around} {d : Nat}
noncomputable def repO (a b : AV) : Option (List AV) := a.lst? >>= fun x => b.int? >>= fun n => if n < 16777216 ∧ -16777216 < n ∧ x.length * n.toNat ≤ 16777216 then some (List.replicate n.toNat x).flatten else none
theorem deno_mult {l r : Expr} {pos : Pos} {f g : Slots → Option AV} (hl : DenP W d sc l f) (hr : DenP W d sc r g) : DenO W d sc (.BinOp l .Mult r pos) fun ρ => f ρ >>= fun a => g ρ >>= fun b => repO a b := by
  intro A env Z s ρ α out R hE I L hf Q E' q
  obtain ⟨a, ha, hf⟩ := bindO hf
  obtain ⟨b, hb, hf⟩ := bindO hf
  obtain ⟨x, hx, hf⟩ := bindO hf
  obtain ⟨n, hn, hf⟩ := bindO hf
  obtain ⟨hc, hf⟩ := iteO hf
  cases hf
  refine wpAny_BinOp (hl A env Z s ρ α a R hE I L ha _ _ fun va s₁ Z₁ p₁ r₁ => hr A env Z₁ s₁ ρ α b R hE p₁.inv (L.step0 p₁) hb _ _ fun vb s₂ Z₂ p₂ r₂ => ?_)
  obtain ⟨c, vs, rfl, z, hl', rs⟩ := lst?_rep hx (p₂.rep0 r₁)
  obtain ⟨t, rfl⟩ := int?_rep hn r₂
  exact (GivesO.newLst (vs := (List.replicate n.toNat vs).flatten) (n := 0) p₂.inv (rs.rep _) fun Q E' q => mul_list_raw hl' hc.1 hc.2.1 (by rw [rs.length]; exact hc.2.2) q) _ _ fun a vs s₃ Z₃ p₃ hn hz hp r₃ => q a vs s₃ Z₃ (p₁.tr (p₂.tr p₃)) (((p₁.tr p₂).none_back hn).resolve_left id) hz hp r₃
end
end Mine
end
section
open Sem (wp)
set_option linter.unusedVariables false
namespace Mine
noncomputable def Sg (M : Model) (A : Around) (Φ : End → Shared → Prop) (c : Code) (t : Sem Fin) (fs : List Frame) (s : Shared) : Prop :=
  ∀ Γ p, Γ.code = c → Γ.Woken A → ∃ e s', PySem.Runs M Γ p t fs s e s' ∧ Φ e s'
section
variable {M : Model} {A : Around} {Φ : End → Shared → Prop} {c : Code} {fs : List Frame} {s : Shared} {env : Env} {K : Flow → Sem Fin} {H : Value → Sem Fin} {gd : Bool → Bool} {lv : List Value → List Value}
theorem sg_wrap {α : Type} {m : Sem α} {K : α → Sem Fin} {H : Value → Sem Fin} {gd lv} (h : wpAny M (A.over c fs) m (fun a s' => Sg M A Φ c (K a) fs s') (fun x s' => Sg M A Φ c (H x) fs s') s) : Sg M A Φ c (m.wrap K H gd lv) fs s := by
  rintro Γ p rfl hΓ
  exact runs_wrap_of_wp K H gd lv m (h (Γ.over fs) p (hΓ.over fs)) (fun a p' s' h' => h' Γ p' rfl hΓ) (fun x p' s' h' => h' Γ p' rfl hΓ)
theorem sg_at {p' : Pos} {k : Unit → Sem Fin} (h : Sg M A Φ c (k ()) fs s) : Sg M A Φ c (.at p' k) fs s :=
  sg_wrap (m := standAt p') (K := k) (H := .raise) (gd := id) (lv := id) (wpAny_standAt h)
theorem sg_point {l : List Value} {k : Unit → Sem Fin} (h : Sg M A Φ c (k ()) fs s) : Sg M A Φ c (.point l k) fs s :=
  sg_wrap (m := point) (K := k) (H := .raise) (gd := id) (lv := fun _ => l) (wpAny_point h)
theorem sg_call {c' : Code} {h g l} {k : Result → Sem Fin} (hc : ∀ p, Sg M A Φ c' (M.den c') (.ret k h g l c p [] :: fs) s) : Sg M A Φ c (.call c' h g l k) fs s := by
  rintro Γ p rfl hΓ
  obtain ⟨e, s', hr, he⟩ := hc p (Γ.goto c') p rfl (hΓ.goto c')
  exact ⟨e, s', runs_call_seg hr, he⟩
theorem sg_leaf {k h g l c₁ p₁ kp} (r : Result) (hk : Sg M A Φ c₁ (k r) fs s) : Sg M A Φ c (leafOf r) (.ret k h g l c₁ p₁ kp :: fs) s := by
  rintro Γ p rfl hΓ
  obtain ⟨e, s', hr, he⟩ := hk (Γ.goto c₁) p₁ rfl (hΓ.goto c₁)
  exact ⟨e, s', PySem.Runs.pop r hr, he⟩
theorem sg_again {c' : Code} (hq : c'.quiet = true) (hc : Sg M A Φ c' (M.den c') fs s) : Sg M A Φ c (.pure (.again c')) fs s := by
  rintro Γ p rfl hΓ
  obtain ⟨e, s', hr, he⟩ := hc (Γ.goto c') p rfl (hΓ.goto c')
  exact ⟨e, s', PySem.Runs.head (c₁ := c') (fun _ _ x => .again hq x) hr, he⟩
theorem sg_end (r : Result) (h : Φ (.ret r) s) : Sg M A Φ c (leafOf r) [] s := by
  rintro Γ p rfl _
  exact ⟨.ret r, s, PySem.Runs.leaf r, h⟩
theorem sg_yield {v g l} {k : Resume → Sem Fin} (hfs : splitAtGen fs = none) (h : ∀ p, Φ (.susp v g l k c p fs) s) : Sg M A Φ c (.yield v g l k) fs s := by
  rintro Γ p rfl _
  exact ⟨_, s, PySem.Runs.yield' fs hfs, h p⟩
theorem sg_execs_app {a b : List Stmt} (h : Sg M A Φ c ((execs a env).wrap (fun f => match f with | .next => (execs b env).wrap K H gd lv | f => K f) H gd lv) fs s) : Sg M A Φ c ((execs (a ++ b) env).wrap K H gd lv) fs s := by
  have e : (execs (a ++ b) env).wrap K H gd lv = (execs a env).wrap (fun f => match f with | .next => (execs b env).wrap K H gd lv | f => K f) H gd lv := by
    rw [execs_app, Sem.bind_eq_wrap', Sem.wrap_wrap]
    exact Sem.wrap_congr _ _ _ (fun f => by cases f <;> rfl) (fun _ => rfl)
  rw [e]; exact h
theorem sg_execs_cons {st : Stmt} {rest : List Stmt} (h : Sg M A Φ c ((exec st env).wrap (fun f => match f with | .next => (execs rest env).wrap K H gd lv | f => K f) H gd lv) fs s) : Sg M A Φ c ((execs (st :: rest) env).wrap K H gd lv) fs s := by
  rw [execs_cons_wrap]; exact h
theorem sg_Yield {e : Expr} {ypos pos : Pos} (hfs : splitAtGen fs = none) (hgd : gd false = false)
    (h : wpAny M (A.over c fs) (eval e env) (fun v s' => ∀ l k p, (∀ A' Φ' s'', Sg M A' Φ' c (K .next) fs s'' → Sg M A' Φ' c (k (.send .none)) fs s'') → Φ (.susp v false l k c p fs) s') (fun x s' => Sg M A Φ c (H x) fs s') s) (hco : env.scope.isCoroutine = false) (hi : interactive env = false) :
    Sg M A Φ c ((exec (.Expr (.Yield (some e) ypos) pos) env).wrap K H gd lv) fs s := by
  rw [exec_Expr env _ pos hi rfl]
  show Sg M A Φ c (.at pos fun _ => ((eval e env >>= fun v => (standAt ypos >>= fun _ => yieldOut env v)) >>= fun x =>
    dropValue (.Yield (some e) ypos) pos x).wrap K H gd lv) fs s
  have hy : ∀ v, yieldOut env v = yieldValue v := fun v => by simp only [yieldOut, hco, Bool.false_eq_true, if_false]
  simp only [hy]
  refine sg_at ?_
  rw [Sem.bind_eq_wrap', Sem.bind_eq_wrap', Sem.wrap_wrap, Sem.wrap_wrap]
  refine sg_wrap (wpAny_mono h (fun v s' h' => ?_) fun _ _ x => x)
  refine sg_at (sg_yield hfs fun p => ?_)
  have hg : (fun g => gd (id g)) false = false := hgd
  rw [hg]
  refine h' _ _ p fun A' Φ' s'' hx => ?_
  exact hx
theorem sg_If {test : Expr} {body orelse : List Stmt} {pos : Pos} (h : wpAny M (A.over c fs) (isTrue test env (eval test env)) (fun b s' => if b = true then Sg M A Φ c ((execs body env).wrap K H gd lv) fs s' else Sg M A Φ c ((execs orelse env).wrap K H gd lv) fs s') (fun x s' => Sg M A Φ c (H x) fs s') s) :
    Sg M A Φ c ((exec (.If test body orelse pos) env).wrap K H gd lv) fs s := by
  rw [exec_If]
  refine sg_at ?_
  show Sg M A Φ c ((isTrue test env (eval test env) >>= fun b => if b = true then execs body env else execs orelse env).wrap K H gd lv) fs s
  rw [Sem.bind_eq_wrap', Sem.wrap_wrap]
  refine sg_wrap (wpAny_mono h (fun b s' h' => ?_) fun _ _ x => x)
  cases b <;> exact h'
theorem sg_While {test : Expr} {body orelse : List Stmt} {pos : Pos}
    (h : ∀ p, Sg M A Φ (.whileLoop test body orelse env) (M.den (.whileLoop test body orelse env))
      (.ret (fun r => ((match r with | .ok f => (.pure f : Sem Flow) | .error e => .raise e).onRaise fun (x : Value) => do
        if (← field x 1) == Value.none then unsupported "frame.own-activation:exception-without-traceback"
        setFlight x env.frame).wrap K H gd lv) none (gd false) (lv []) c p [] :: fs) s) :
    Sg M A Φ c ((exec (.While test body orelse pos) env).wrap K H gd lv) fs s :=
  sg_at (sg_call h)
end
section
variable {prog : Program} {w : World} {A : Around} {Φ : End → Shared → Prop} {fs : List Frame} {s : Shared} {env : Env} {c : Code} {K : Flow → Sem Fin} {H : Value → Sem Fin} {gd : Bool → Bool} {lv : List Value → List Value}
noncomputable abbrev noteH (env : Env) (e : Value) : Sem Fin := (do noteFrame e env; theTreesLotGoes e : Sem Unit).wrap (fun _ => .raise e) .raise id id
theorem sg_whileLoop {test : Expr} {body orelse : List Stmt}
    (h : wpAny (model prog w) (A.over (.whileLoop test body orelse env) fs) (isTrue test env (eval test env)) (fun b s' =>
        if b = true then
          Sg (model prog w) A Φ (.whileLoop test body orelse env) ((execs body env).wrap (fun f => match f with
            | .next | .cont => .pure (.again (.whileLoop test body orelse env))
            | .brk => .pure (.done .next)
            | .ret v => .pure (.done (.ret v))) (noteH env) id id) fs s'
        else Sg (model prog w) A Φ (.whileLoop test body orelse env) ((execs orelse env).wrap (fun f => .pure (.done f)) (noteH env) id id) fs s')
      (fun x s' => Sg (model prog w) A Φ (.whileLoop test body orelse env) (noteH env x) fs s') s) :
    Sg (model prog w) A Φ (.whileLoop test body orelse env) ((model prog w).den (.whileLoop test body orelse env)) fs s := by
  show Sg _ A Φ _ ((whileTurn test body orelse env).onRaise (fun x => do noteFrame x env; theTreesLotGoes x)) fs s
  unfold whileTurn
  rw [Sem.onRaise_eq_wrap, Sem.bind_eq_wrap', Sem.wrap_wrap]
  refine sg_wrap (wpAny_mono h (fun b s' hb => ?_) fun x s' hx => ?_)
  · cases b with
    | true =>
      rw [if_pos rfl] at hb
      show Sg _ A Φ _ (Sem.wrap _ _ _ _ (if true = true then _ else _)) fs s'
      rw [if_pos rfl, Sem.bind_eq_wrap', Sem.wrap_wrap]
      rw [Sem.wrap_congr (execs body env) _ _ (K' := fun f => match f with
            | .next | .cont => .pure (.again (.whileLoop test body orelse env))
            | .brk => .pure (.done .next)
            | .ret v => .pure (.done (.ret v))) (H' := noteH env)
        (fun f => by cases f <;> rfl)
        (fun e => by first | exact Sem.bind_eq_wrap _ _ | (show (do noteFrame e env; theTreesLotGoes e : Sem Unit).bind (fun _ => .raise e) = _; rw [Sem.bind_eq_wrap]))]
      exact hb
    | false =>
      rw [if_neg Bool.false_ne_true] at hb
      show Sg _ A Φ _ (Sem.wrap _ _ _ _ (if false = true then _ else _)) fs s'
      rw [if_neg Bool.false_ne_true, Sem.bind_eq_wrap', Sem.wrap_wrap]
      rw [Sem.wrap_congr (execs orelse env) _ _ (K' := fun f => (.pure (.done f) : Sem Fin)) (H' := noteH env)
        (fun f => by rfl)
        (fun e => by first | exact Sem.bind_eq_wrap _ _ | (show (do noteFrame e env; theTreesLotGoes e : Sem Unit).bind (fun _ => .raise e) = _; rw [Sem.bind_eq_wrap]))]
      exact hb
  · first
      | (rw [← Sem.bind_eq_wrap] at hx; exact hx)
      | (show Sg _ A Φ _ ((do noteFrame x env; theTreesLotGoes x : Sem Unit).bind fun _ => .raise x) fs s'; rw [Sem.bind_eq_wrap]; exact hx)
theorem sg_func {body : List Stmt}
    (h : Sg (model prog w) A Φ (.func body env) ((execs body env).wrap (fun f => .pure (.done (.ret (match f with | .ret v => v | _ => .none))))
      (fun e => (leaving env e).wrap (fun _ => .raise e) .raise id id) id id) fs s) :
    Sg (model prog w) A Φ (.func body env) ((model prog w).den (.func body env)) fs s := by
  show Sg _ A Φ _ (.point [] fun _ => ((execs body env).onRaise (leaving env)) >>= _) fs s
  refine sg_point ?_
  rw [Sem.onRaise_eq_wrap, Sem.bind_eq_wrap', Sem.wrap_wrap]
  rw [Sem.wrap_congr (execs body env) _ _ (K' := fun f => .pure (.done (.ret (match f with | .ret v => v | _ => .none))))
    (H' := fun e => (leaving env e).wrap (fun _ => .raise e) .raise id id) (fun f => by cases f <;> rfl)
    (fun e => by rw [Sem.bind_eq_wrap, Sem.wrap_wrap]; rfl)]
  exact h
noncomputable abbrev ownRet (env : Env) (K : Flow → Sem Fin) (H : Value → Sem Fin) (gd : Bool → Bool) (lv : List Value → List Value) : Result → Sem Fin := fun r => ((match r with | .ok f => (.pure f : Sem Flow) | .error e => .raise e).onRaise fun (x : Value) => do
        if (← field x 1) == Value.none then unsupported "frame.own-activation:exception-without-traceback"
        setFlight x env.frame).wrap K H gd lv
theorem sg_For {target iter : Expr} {body orelse : List Stmt} {pos : Pos}
    (h : wpAny (model prog w) (A.over c fs) (eval iter env) (fun x s₁ => wpAny (model prog w) (A.over c fs) (pyIter x) (fun it s₂ => ∀ p, Sg (model prog w) A Φ (.forLoop target it body orelse env) ((model prog w).den (.forLoop target it body orelse env)) (.ret (ownRet env K H gd lv) none (gd false) (lv []) c p [] :: fs) s₂) (fun x s' => Sg (model prog w) A Φ c (H x) fs s') s₁) (fun x s' => Sg (model prog w) A Φ c (H x) fs s') s)
    (hs : ∀ x, foldedSetIterable iter env x = pure x) : Sg (model prog w) A Φ c ((exec (.For target iter body orelse pos) env).wrap K H gd lv) fs s := by
  rw [exec_For]
  refine sg_at ?_
  show Sg _ A Φ c ((eval iter env >>= fun x => foldedSetIterable iter env x >>= fun x => standAt iter.pos >>= fun _ => holding [x] (pyIter x) >>= fun it => runOwn (.forLoop target it body orelse env) env).wrap K H gd lv) fs s
  rw [Sem.bind_eq_wrap', Sem.wrap_wrap]
  refine sg_wrap (wpAny_mono h (fun x s₁ h₁ => ?_) fun _ _ x => x)
  rw [hs]
  show Sg _ A Φ c (.at iter.pos fun _ => ((holding [x] (pyIter x) >>= fun it => runOwn (.forLoop target it body orelse env) env)).wrap K H gd lv) fs s₁
  refine sg_at ?_
  rw [Sem.bind_eq_wrap', Sem.wrap_wrap]
  refine sg_wrap (wpAny_holding (wpAny_mono h₁ (fun it s₂ h₂ => ?_) fun _ _ x => x))
  exact sg_call h₂
theorem sg_forLoop {target : Expr} {it : Value} {body : List Stmt}
    (h : wpAny (model prog w) (A.over (.forLoop target it body [] env) fs) (pyNext it) (fun r s₁ => match r with
        | none => Sg (model prog w) A Φ (.forLoop target it body [] env) (.pure (.again (.block [] env))) fs s₁
        | some v => wpAny (model prog w) (A.over (.forLoop target it body [] env) fs) (letOwnedTupleGo target it v) (fun _ s₂ => wpAny (model prog w) (A.over (.forLoop target it body [] env) fs) (assign target env v) (fun _ s₃ =>
            Sg (model prog w) A Φ (.forLoop target it body [] env) ((execs body env).wrap (fun f => match f with
            | .next | .cont => .pure (.again (.forLoop target it body [] env))
            | .brk => .pure (.done .next)
            | .ret v => .pure (.done (.ret v))) (noteH env) id id) fs s₃) (fun x s' => Sg (model prog w) A Φ (.forLoop target it body [] env) (noteH env x) fs s') s₂) (fun x s' => Sg (model prog w) A Φ (.forLoop target it body [] env) (noteH env x) fs s') s₁)
      (fun x s' => Sg (model prog w) A Φ (.forLoop target it body [] env) (noteH env x) fs s') s) :
    Sg (model prog w) A Φ (.forLoop target it body [] env) ((model prog w).den (.forLoop target it body [] env)) fs s := by
  show Sg _ A Φ _ ((forTurn target it body [] env).onRaise (fun x => do noteFrame x env; theTreesLotGoes x)) fs s
  have nh : ∀ e, ((do noteFrame e env; theTreesLotGoes e : Sem Unit).bind fun _ => (.raise e : Sem Fin)) = noteH env e := fun e => Sem.bind_eq_wrap _ _
  unfold forTurn
  rw [Sem.onRaise_eq_wrap]
  refine sg_at ?_
  show Sg _ A Φ _ ((((pyNext it).onRaise (fun _ => standAt { target.pos with line := 0 })) >>= _).wrap _ _ _ _) fs s
  rw [Sem.bind_eq_wrap', Sem.wrap_wrap]
  refine sg_wrap (wpAny_onRaise (wpAny_mono h (fun r s₁ h₁ => ?_) fun x s' hx => wpAny_standAt (by rw [← nh] at hx; exact hx)))
  cases r with
  | none => exact h₁
  | some v =>
    show Sg _ A Φ _ ((letOwnedTupleGo target it v >>= fun _ => assign target env v >>= fun _ => execs body env >>= _).wrap _ _ _ _) fs s₁
    rw [Sem.bind_eq_wrap', Sem.wrap_wrap]
    refine sg_wrap (wpAny_mono h₁ (fun _ s₂ h₂ => ?_) fun x s' hx => by rw [← nh] at hx; exact hx)
    rw [Sem.bind_eq_wrap', Sem.wrap_wrap]
    refine sg_wrap (wpAny_mono h₂ (fun _ s₃ h₃ => ?_) fun x s' hx => by rw [← nh] at hx; exact hx)
    rw [Sem.bind_eq_wrap', Sem.wrap_wrap]
    rw [Sem.wrap_congr (execs body env) _ _ (K' := fun f => match f with
            | .next | .cont => .pure (.again (.forLoop target it body [] env))
            | .brk => .pure (.done .next)
            | .ret v => .pure (.done (.ret v))) (H' := noteH env)
        (fun f => by cases f <;> rfl)
        (fun e => by exact nh e)]
    exact h₃
theorem sg_block {Φ : End → Shared → Prop} (h : Sg (model prog w) A Φ (.block [] env) (.pure (.done .next)) fs s) : Sg (model prog w) A Φ (.block [] env) ((model prog w).den (.block [] env)) fs s := by
  exact h
end
end Mine
end
section
open Sem (wp)
set_option linter.unusedVariables false
namespace Mine
noncomputable def Goes1 (M : Model) (A : Around) (Φ : End → Shared → Prop) (gs : GenState) (s : Shared) : Prop := match gs with
  | .fresh c => Sg M A Φ c (M.den c) [] s
  | .suspended k _ c _ fs _ => Sg M A Φ c (k (.send .none)) fs s
  | _ => False
theorem resume1 {M : Model} {A : Around} {Φ : End → Shared → Prop} {E : Value → Shared → Prop} {s : Shared} {g : Nat} {gs : GenState} {l : List Value} {α : Type} {k : GenResult → Sem α} {Q : α → Shared → Prop} (hg : s.gens[g]? = some gs)
    (hgo : Goes1 M A Φ gs (s.setGen g .running)) (hq : ∀ e s₁, Φ e s₁ → e.quiet = true) (hR : ∀ e s₁, Φ e s₁ → wpAny M A (k e.result) Q E (s₁.setGen g e.genState)) : wpAny M A (.resume g (.send .none) l k) Q E s := by
  intro Γ p hΓ
  rw [Sem.wp_resume]
  cases gs with
  | fresh c =>
    obtain ⟨e₁, s₁, hr, he⟩ := hgo (Γ.wake c p) p rfl (hΓ.wake c p)
    exact ⟨_, _, by unfold Wakes; rw [hg]; exact ⟨e₁, s₁, hr, hq e₁ s₁ he, rfl, rfl⟩, hR e₁ s₁ he Γ p hΓ⟩
  | suspended k₀ l₀ c₀ p₀ fs₀ cl =>
    obtain ⟨e₁, s₁, hr, he⟩ := hgo (Γ.wake c₀ p) p₀ rfl (hΓ.wake c₀ p)
    exact ⟨_, _, by unfold Wakes; rw [hg]; exact ⟨e₁, s₁, hr, hq e₁ s₁ he, rfl, rfl⟩, hR e₁ s₁ he Γ p hΓ⟩
  | running => exact hgo.elim
  | finished => exact hgo.elim
section
variable {prog : Program} {w : World} {A : Around} {E : Value → Shared → Prop} {s : Shared}
theorem pyNext_gen1 {a : Addr} {g : Nat} {gs : GenState} {Φ : End → Shared → Prop} {Q : Option Value → Shared → Prop} (hh : A.handled = none) (hl : s.heap.NoLimit) (hroom : A.depth < recursionLimit) (hg : s.heap.IsGen a g) (hgs : s.gens[g]? = some gs)
    (hgo : Goes1 (model prog w) A.in1 Φ gs (s.setGen g .running)) (hq : ∀ e s₁, Φ e s₁ → e.quiet = true)
    (hY : ∀ v gg l k c p fs s₁, Φ (.susp v gg l k c p fs) s₁ → Q (some v) (s₁.setGen g (End.susp v gg l k c p fs).genState))
    (hE : ∀ r s₁, Φ (.ret r) s₁ → r = .ok (.ret .none) ∧ ∀ h', (∀ b o, s₁.heap.get? b = some o → h'.get? b = some o) → Q none { s₁.setGen g .finished with heap := h' }) :
    wpAny (model prog w) A (pyNext (.ref a)) Q E s := by
  unfold pyNext
  refine wpAny_bind (wpAny_attempt (wpAny_callSpecial?_slot (name := Str.ofString "__next__") hg.typeIs slot_gen_next
    (wpAny_call_entry slot_gen_next hg.typeIs entry_gen_next ?_ (args_gen_next _))))
  show wpAny _ _ (Builtin.Generator.genWake (.ref a) (.send .none)) _ _ s
  unfold Builtin.Generator.genWake
  refine wpAny_bind (wpAny_holding (wpAny_genNumber hg (wpAny_bind (wpAny_genState hgs ?_))))
  cases gs with
  | running => exact hgo.elim
  | finished => exact hgo.elim
  | _ =>
    refine wpAny_bind (wpAny_roomToWake hl hroom ?_)
    show wpAny _ _ (.resume g (.send .none) [] _) _ _ s
    refine resume1 hgs hgo hq fun e s₁ he => ?_
    cases e with
    | ret x =>
      obtain ⟨rfl, hp⟩ := hE x s₁ he
      show wpAny _ _ (newExc (.type "StopIteration") [] >>= _) _ _ _
      refine wpAny_bind ?_
      simp only [newExc, newTuple]
      refine wpAny_bind (wpAny_newObj_type ?_ (by size_fits))
      refine wpAny_bind (m := firstArgMember _ _) (wpAny_of_eq (a := Value.none) (by first | rfl | (simp only [firstArgMember]; rfl)) ?_)
      refine wpAny_newObj_type ?_ (by size_fits)
      simp only [raiseNew]
      refine wpAny_bind (wpAny_bind (wpAny_handled ?_))
      rw [show A.in1.handled = none from hh]
      refine wpAny_throw ?_
      refine wpAny_bind (wpAny_isInstance (T := "StopIteration") (b := true) ⟨_, Heap.get?_push_size _ rfl, rfl⟩ isSubtype_stop ?_)
      exact wpAny_pure (hp _ fun b o hb => Heap.get?_push_of_some _ (Heap.get?_push_of_some _ hb))
    | susp v gg l k c p fs => exact wpAny_pure ⟨v, rfl, wpAny_pure (hY v gg l k c p fs s₁ he)⟩
noncomputable def Spent (h : Heap) (J : Addr) : Prop := ∃ o i, h.get? J = some o ∧ o.cls = .type "list_iterator" ∧ o.data = .fields #[.none, .int i 0]
theorem Spent.typeIs {J : Addr} (x : Spent s.heap J) : s.TypeIs (.ref J) "list_iterator" := let ⟨o, _, ho, hc, _⟩ := x; ⟨o, ho, hc⟩
theorem next_end {it l : Addr} {i : Nat} {items} {Q : Option Value → Shared → Prop} (hh : A.handled = none)
    (hit : s.heap.IsListIter it l i) (hl : s.heap.IsList l items) (hx : items[i]? = none)
    (hQ : ∀ h', Heap.ExtBut it s.heap h' → Spent h' it → Q none { s with heap := h' }) : wpAny (model prog w) A (pyNext (.ref it)) Q E s := by
  obtain ⟨o, ho, hc, hd⟩ := id hit
  obtain ⟨ol, hol, _, nl, hdl⟩ := hl
  unfold pyNext
  refine wpAny_bind (wpAny_attempt (wpAny_callSpecial?_slot (name := Str.ofString "__next__") hit.typeIs slot_listiter_next
    (wpAny_call_entry slot_listiter_next hit.typeIs entry_listiter_next ?_ (args_listiter_next _))))
  show wpAny _ _ (field (.ref it) 0 >>= _) _ _ s
  refine wpAny_bind (wpAny_field ho hd (x := .ref l) rfl ?_)
  show wpAny _ _ (if (Value.ref l == Value.none) = true then _ else _) _ _ s
  rw [if_neg (show ¬ ((Value.ref l == Value.none) = true) from Bool.false_ne_true)]
  show wpAny _ _ (field (.ref it) 1 >>= _) _ _ s
  refine wpAny_bind (wpAny_field ho hd (x := .int i 0) rfl ?_)
  show wpAny _ _ (seqItems? (.ref l) >>= _) _ _ s
  refine wpAny_bind (wpAny_seqItems hol hdl ?_)
  simp only [Int.toNat_natCast, hx]
  refine wpAny_bind (wpAny_rule (wpAny_bind (wpAny_setField ho hd (by simp) ?_)))
  show wpAny _ _ (newExc (.type "StopIteration") [] >>= _) _ _ _
  refine wpAny_bind ?_
  simp only [newExc, newTuple]
  refine wpAny_bind (wpAny_newObj_type ?_ (by size_fits))
  refine wpAny_bind (m := firstArgMember _ _) (wpAny_of_eq (a := Value.none) (by first | rfl | (simp only [firstArgMember]; rfl)) ?_)
  refine wpAny_newObj_type ?_ (by size_fits)
  simp only [raiseNew]
  refine wpAny_bind (wpAny_handled ?_)
  rw [show A.in1.handled = none from hh]
  refine wpAny_bind (wpAny_pure (wpAny_throw ?_))
  refine wpAny_bind (wpAny_isInstance (T := "StopIteration") (b := true) ⟨_, Heap.get?_push_size _ rfl, rfl⟩ isSubtype_stop ?_)
  exact wpAny_pure (hQ _ (((Heap.SameBut.update ..).extBut.push _).push _) ⟨_, i, Heap.get?_push_of_some _ (Heap.get?_push_of_some _ (Heap.get?_update_self _ ho (Obj.isFreed_of_fields (Obj.data_mapFields hd _)))), (Obj.cls_mapFields ..).trans hc, by rw [Obj.data_mapFields hd]; simp⟩)
theorem next_spent {it : Addr} {Q : Option Value → Shared → Prop} (hh : A.handled = none) (hit : Spent s.heap it)
    (hQ : ∀ h', (∀ b o, s.heap.get? b = some o → h'.get? b = some o) → Q none { s with heap := h' }) : wpAny (model prog w) A (pyNext (.ref it)) Q E s := by
  obtain ⟨o, i, ho, hc, hd⟩ := id hit
  unfold pyNext
  refine wpAny_bind (wpAny_attempt (wpAny_callSpecial?_slot (name := Str.ofString "__next__") hit.typeIs slot_listiter_next
    (wpAny_call_entry slot_listiter_next hit.typeIs entry_listiter_next ?_ (args_listiter_next _))))
  show wpAny _ _ (field (.ref it) 0 >>= _) _ _ s
  refine wpAny_bind (wpAny_field ho hd (x := .none) rfl ?_)
  show wpAny _ _ (if (Value.none == Value.none) = true then _ else _) _ _ s
  rw [if_pos (show (Value.none == Value.none) = true from rfl)]
  refine wpAny_bind (wpAny_rule ?_)
  refine wpAny_bind ?_
  show wpAny _ _ (newExc (.type "StopIteration") [] >>= _) _ _ _
  refine wpAny_bind ?_
  simp only [newExc, newTuple]
  refine wpAny_bind (wpAny_newObj_type ?_ (by size_fits))
  refine wpAny_bind (m := firstArgMember _ _) (wpAny_of_eq (a := Value.none) (by first | rfl | (simp only [firstArgMember]; rfl)) ?_)
  refine wpAny_newObj_type ?_ (by size_fits)
  simp only [raiseNew]
  refine wpAny_bind (wpAny_handled ?_)
  rw [show A.in1.handled = none from hh]
  refine wpAny_bind (wpAny_pure (wpAny_throw ?_))
  refine wpAny_bind (wpAny_isInstance (T := "StopIteration") (b := true) ⟨_, Heap.get?_push_size _ rfl, rfl⟩ isSubtype_stop ?_)
  exact wpAny_pure (hQ _ fun b o hb => Heap.get?_push_of_some _ (Heap.get?_push_of_some _ hb))
end
end Mine
end
section
open Sem (wp)
set_option linter.unusedVariables false
namespace Mine
structure GText where
  elts : List Expr
  tk : Nat
  tpos : Pos
  iter : Expr
  test : Expr
  y1 : Expr
  q1 : Pos
  q2 : Pos
  q3 : Pos
  q4 : Pos
  mid : List Stmt
  wtest : Expr
  pop : List Stmt
  y2 : Expr
  r1 : Pos
  r2 : Pos
  r3 : Pos
  fpos : Pos
namespace GText
noncomputable def tgt (t : GText) : Expr := .Tuple t.elts t.tk t.tpos
noncomputable def wbody (t : GText) : List Stmt := t.pop ++ [.Expr (.Yield (some t.y2) t.r1) t.r2]
noncomputable def fbody (t : GText) : List Stmt := .If t.test [.Expr (.Yield (some t.y1) t.q1) t.q2, .Continue t.q3] [] t.q4 :: (t.mid ++ [.While t.wtest t.wbody [] t.r3])
noncomputable def body (t : GText) : List Stmt := [.For t.tgt t.iter t.fbody [] t.fpos]
noncomputable abbrev cFor (t : GText) (env : Env) (J : Addr) : Code := .forLoop t.tgt (.ref J) t.fbody [] env
noncomputable abbrev cWh (t : GText) (env : Env) : Code := .whileLoop t.wtest t.wbody [] env
noncomputable abbrev K0 : Flow → Sem Fin := fun f => .pure (.done (.ret (match f with | .ret v => v | _ => .none)))
noncomputable abbrev H0 (env : Env) : Value → Sem Fin := fun e => (leaving env e).wrap (fun _ => .raise e) .raise id id
noncomputable abbrev KF (env : Env) : Flow → Sem Fin := fun f => match f with | .next => (execs [] env).wrap K0 (H0 env) id id | f => K0 f
noncomputable abbrev frF (t : GText) (env : Env) (p : Pos) : Frame := .ret (ownRet env (KF env) (H0 env) id id) none (id false) (id []) (.func t.body env) p []
noncomputable abbrev KL (t : GText) (env : Env) (J : Addr) : Flow → Sem Fin := fun f => match f with
  | .next | .cont => .pure (.again (t.cFor env J))
  | .brk => .pure (.done .next)
  | .ret v => .pure (.done (.ret v))
noncomputable abbrev KW (t : GText) (env : Env) (J : Addr) : Flow → Sem Fin := fun f => match f with | .next => (execs [] env).wrap (t.KL env J) (noteH env) id id | f => t.KL env J f
noncomputable abbrev frW (t : GText) (env : Env) (J : Addr) (p : Pos) : Frame := .ret (ownRet env (t.KW env J) (noteH env) id id) none (id false) (id []) (t.cFor env J) p []
end GText
structure GDen (W : Wd) (d : Nat) (sc : Scope) (t : GText) (T : AV → Slots → Option Slots) (ct : Slots → Option Bool) (f1 : Slots → Option AV) (FM : Slots → Option (AFlow × Slots)) (cw : Slots → Option Bool) (FP : Slots → Option (AFlow × Slots)) (f2 : Slots → Option AV) : Prop where
  tgt : DenTg W d sc t.tgt T
  test : DenT W d sc t.test ct
  y1 : DenP W d sc t.y1 f1
  mid : DenSs W d sc t.mid FM
  wtest : DenT W d sc t.wtest cw
  pop : DenSs W d sc t.pop FP
  y2 : DenP W d sc t.y2 f2
  co : sc.isCoroutine = false
structure GAbs (T : AV → Slots → Option Slots) (ct : Slots → Option Bool) (f1 : Slots → Option AV) (FM : Slots → Option (AFlow × Slots)) (cw : Slots → Option Bool) (FP : Slots → Option (AFlow × Slots)) (f2 : Slots → Option AV) (Rdy : Slots → Prop) (Pend : Slots → List AV → Prop) (rowI : AV → List AV) (okR : AV → Prop) : Prop where
  row : ∀ ρ row, Rdy ρ → okR row → ∃ it P ρ₁, rowI row = it :: P ∧ T row ρ = some ρ₁ ∧ ((ct ρ₁ = some true ∧ f1 ρ₁ = some it ∧ P = [] ∧ Rdy ρ₁) ∨ (ct ρ₁ = some false ∧ ∃ ρ₂, FM ρ₁ = some (.next, ρ₂) ∧ Pend ρ₂ (it :: P)))
  stop : ∀ ρ, Pend ρ [] → cw ρ = some false ∧ Rdy ρ
  more : ∀ ρ it P, Pend ρ (it :: P) → cw ρ = some true ∧ ∃ ρ', FP ρ = some (.next, ρ') ∧ f2 ρ' = some it ∧ Pend ρ' P
noncomputable def nxtG (rowI : AV → List AV) : List AV → List AV → Option (AV × List AV × List AV)
  | it :: P, rem => some (it, P, rem)
  | [], row :: rem => match rowI row with | it :: P => some (it, P, rem) | [] => none
  | [], [] => none
section
variable {W : Wd} {Z Z' Z₁ Z₂ : AddrSet} {s s' s₁ s₂ : Shared} {env : Env} {sc : Scope} {ρ ρ' ρ₁ ρ₂ : Slots} {α α' α₁ α₂ : Str → Addr} {A : Around} {d : Nat} {J lr : Addr} {rows rem rem' P : List AV} {t : GText}
noncomputable def ItSt (h : Heap) (J lr : Addr) (rows rem : List AV) : Prop := (∃ i, h.IsListIter J lr i ∧ rem = rows.drop i) ∨ (rem = [] ∧ Spent h J)
theorem ItSt.at {h h' : Heap} (x : ItSt h J lr rows rem) (hk : ∀ o, h.get? J = some o → h'.get? J = some o) : ItSt h' J lr rows rem := by
  rcases x with ⟨i, hi, hr⟩ | ⟨hr, o, i, ho, r⟩
  · exact .inl ⟨i, hi.at hk, hr⟩
  · exact .inr ⟨hr, o, i, hk _ ho, r⟩
theorem ItSt.alive {h : Heap} (x : ItSt h J lr rows rem) : ∃ o, h.get? J = some o ∧ o.cls = .type "list_iterator" := by
  rcases x with ⟨i, ⟨o, ho, hc, _⟩, hr⟩ | ⟨hr, o, i, ho, hc, _⟩
  · exact ⟨o, ho, hc⟩
  · exact ⟨o, ho, hc⟩
structure Hold (W : Wd) (env : Env) (J lr : Addr) (rows : List AV) (Z : AddrSet) (s : Shared) (ρ : Slots) (α : Str → Addr) (rem : List AV) : Prop where
  inv : Inv W Z s
  loc : Loc W Z s.heap env ρ α
  it : ItSt s.heap J lr rows rem
  lz : Z lr
  lst : ∃ vs, s.heap.IsList lr vs.toArray ∧ RepVs Z s.heap vs rows
  jz : ¬ Z J
  jb : W.h₀.get? J = none ∧ ¬ W.X J
  jf : ¬ FOwn env ρ α J
structure HStep (W : Wd) (env : Env) (J : Addr) (Z : AddrSet) (s : Shared) (ρ : Slots) (α : Str → Addr) (Z' : AddrSet) (s' : Shared) (ρ' : Slots) (α' : Str → Addr) : Prop where
  step : Step W (.addrs fun a => FOwn env ρ α a ∨ a = J) Z s Z' s'
  fo : ∀ a, FOwn env ρ' α' a → FOwn env ρ α a ∨ s.heap.get? a = none
  live : ∃ o, s'.heap.get? J = some o
theorem HStep.trans (p : HStep W env J Z s ρ α Z₁ s₁ ρ₁ α₁) (q : HStep W env J Z₁ s₁ ρ₁ α₁ Z' s' ρ' α') : HStep W env J Z s ρ α Z' s' ρ' α' where
  step := p.step.trans q.step (fun a h => h.elim (fun h => (p.fo a h).imp .inl id) fun h => .inl (.inr h)) (fun _ h => h.elim)
  fo a h := by
    rcases q.fo a h with h | h
    · exact p.fo a h
    · rcases p.step.none_back h with h' | h'
      · rcases h' with h' | h'
        · exact .inl h'
        · obtain ⟨o, e⟩ := p.live; rw [show a = J from h', e] at h; cases h
      · exact .inr h'
  live := q.live
theorem Hold.step (k : Hold W env J lr rows Z s ρ α rem) (p : FStep W env Z s ρ α Z' s' ρ' α') : Hold W env J lr rows Z' s' ρ' α' rem ∧ HStep W env J Z s ρ α Z' s' ρ' α' := by
  obtain ⟨oJ, hoJ, _⟩ := k.it.alive
  have kJ : ∀ o, s.heap.get? J = some o → s'.heap.get? J = some o := fun o e => p.step.keep J o k.jf e
  have kz : ∀ a o, Z a → s.heap.get? a = some o → s'.heap.get? a = some o := fun a o z e => p.step.keep a o (fun f => k.loc.nz a f z) e
  refine ⟨⟨p.step.inv, p.loc, k.it.at kJ, p.step.zsub _ k.lz, ?_, fun z => ?_, k.jb, fun f => ?_⟩, ⟨p.step.mono (fun a h => .inl (.inl h)) (fun _ h => h.elim), p.fo, ⟨oJ, kJ oJ hoJ⟩⟩⟩
  · obtain ⟨vs, hl, r⟩ := k.lst
    exact ⟨vs, hl.at fun o e => kz _ o k.lz e, r.mono p.step.zsub kz⟩
  · rcases p.step.znew J z with h | h | h
    · exact k.jz h
    · exact k.jf h
    · rw [hoJ] at h; cases h
  · rcases p.fo J f with h | h
    · exact k.jf h
    · rw [hoJ] at h; cases h
theorem Hold.draw {h' : Heap} (k : Hold W env J lr rows Z s ρ α rem) (hk : ∀ b o, b ≠ J → s.heap.get? b = some o → h'.get? b = some o) (hi : ItSt h' J lr rows rem') : Hold W env J lr rows Z { s with heap := h' } ρ α rem' ∧ HStep W env J Z s ρ α Z { s with heap := h' } ρ α := by
  obtain ⟨oJ, hoJ, _⟩ := hi.alive
  have I := k.inv
  have hw : ∀ b ∈ [J], W.h₀.get? b = none ∧ ¬ W.X b ∧ ¬ Z b := fun b hb => by rw [List.mem_singleton.mp hb]; exact ⟨k.jb.1, k.jb.2, k.jz⟩
  have p : Step W (.addrs (· ∈ [J])) Z s Z { s with heap := h' } := .writes (tk := s.toks) I (fun b o hb e => hk b o (fun e' => hb (by rw [e']; exact List.mem_singleton_self _)) e) hw
  have kz : ∀ a o, Z a → s.heap.get? a = some o → h'.get? a = some o := fun a o z e => hk a o (fun e' => k.jz (e' ▸ z)) e
  obtain ⟨vs, hl, r⟩ := k.lst
  refine ⟨⟨p.inv, k.loc.step p fun a h => by rw [List.mem_singleton.mp h]; exact ⟨k.jf, k.jz⟩, hi, k.lz, ⟨vs, hl.at fun o e => kz _ o k.lz e, r.mono (fun _ z => z) kz⟩, k.jz, k.jb, k.jf⟩, ⟨p.mono (fun a h => .inl (.inr (List.mem_singleton.mp h))) (fun _ h => h.elim), fun _ h => .inl h, ⟨oJ, hoJ⟩⟩⟩
noncomputable def AtFor (W : Wd) (t : GText) (env : Env) (J : Addr) (k : Resume → Sem Fin) (c : Code) (fs : List Frame) : Prop := ∃ p, ∀ A Φ s, Sg W.M A Φ (t.cFor env J) (W.M.den (t.cFor env J)) [t.frF env p] s → Sg W.M A Φ c (k (.send .none)) fs s
noncomputable def AtWh (W : Wd) (t : GText) (env : Env) (J : Addr) (k : Resume → Sem Fin) (c : Code) (fs : List Frame) : Prop := ∃ p p', ∀ A Φ s, Sg W.M A Φ (t.cWh env) (W.M.den (t.cWh env)) [t.frW env J p', t.frF env p] s → Sg W.M A Φ c (k (.send .none)) fs s
noncomputable def Out (W : Wd) (t : GText) (env : Env) (J lr : Addr) (rows : List AV) (Rdy : Slots → Prop) (Pend : Slots → List AV → Prop) (rowI : AV → List AV) (Z : AddrSet) (s : Shared) (ρ : Slots) (α : Str → Addr) (P rem : List AV) (e : End) (s' : Shared) : Prop := match e with
  | .ret r => r = .ok (.ret .none) ∧ nxtG rowI P rem = none ∧ ∃ Z' ρ' α', HStep W env J Z s ρ α Z' s' ρ' α' ∧ Hold W env J lr rows Z' s' ρ' α' []
  | .susp v g l k c p fs => (End.susp v g l k c p fs).quiet = true ∧ ∃ it P' rem' Z' ρ' α', nxtG rowI P rem = some (it, P', rem') ∧ RepV Z' s'.heap v it ∧ HStep W env J Z s ρ α Z' s' ρ' α' ∧ Hold W env J lr rows Z' s' ρ' α' rem' ∧ ((Rdy ρ' ∧ P' = [] ∧ AtFor W t env J k c fs) ∨ (Pend ρ' P' ∧ AtWh W t env J k c fs))
theorem Out.back {Rdy : Slots → Prop} {Pend : Slots → List AV → Prop} {rowI : AV → List AV} {P₁ rem₁ : List AV} {e : End} (p : HStep W env J Z s ρ α Z₁ s₁ ρ₁ α₁) (hn : nxtG rowI P rem = nxtG rowI P₁ rem₁) (o : Out W t env J lr rows Rdy Pend rowI Z₁ s₁ ρ₁ α₁ P₁ rem₁ e s') : Out W t env J lr rows Rdy Pend rowI Z s ρ α P rem e s' := by
  cases e with
  | ret r => obtain ⟨h1, h2, Z', ρ', α', h3, h4⟩ := o; exact ⟨h1, hn.trans h2, Z', ρ', α', p.trans h3, h4⟩
  | susp v g l k c p' fs => obtain ⟨h0, it, P', rem', Z', ρ', α', h1, h2, h3, h4, h5⟩ := o; exact ⟨h0, it, P', rem', Z', ρ', α', hn.trans h1, h2, p.trans h3, h4, h5⟩
theorem room_over1 {c₁ c₂ : Code} {k : Result → Sem Fin} {l : List Value} {p : Pos} (R : Room A (d + 2)) (h1 : c₁.weight = 1) (h2 : c₁.cUnits = 3) (h3 : c₂.weight = 0) (h4 : c₂.cUnits = 0) : Room (A.over c₂ [.ret k none false l c₁ p []]) d := by
  refine ⟨R.handled, ?_, ?_⟩
  · have := R.depth
    show A.depth + (c₁.weight + 0) + c₂.weight + 2 * d + 10 < recursionLimit
    rw [h1, h3]; (first | lia | omega)
  · have := R.units
    show A.units + (c₁.cUnits + 0) + c₂.cUnits + 30 * d + 100 < cLine
    rw [h2, h4]; (first | lia | omega)
theorem room_over2 {c₁ c₂ c₃ : Code} {k k' : Result → Sem Fin} {l l' : List Value} {p p' : Pos} (R : Room A (d + 2)) (h1 : c₁.weight = 1) (h2 : c₁.cUnits = 3) (h3 : c₂.weight = 0) (h4 : c₂.cUnits = 0) (h5 : c₃.weight = 0) (h6 : c₃.cUnits = 0) : Room (A.over c₃ [.ret k none false l c₂ p [], .ret k' none false l' c₁ p' []]) d := by
  refine ⟨R.handled, ?_, ?_⟩
  · have := R.depth
    show A.depth + (c₂.weight + (c₁.weight + 0)) + c₃.weight + 2 * d + 10 < recursionLimit
    rw [h1, h3, h5]; (first | lia | omega)
  · have := R.units
    show A.units + (c₂.cUnits + (c₁.cUnits + 0)) + c₃.cUnits + 30 * d + 100 < cLine
    rw [h2, h4, h6]; (first | lia | omega)
section
variable {T : AV → Slots → Option Slots} {ct : Slots → Option Bool} {f1 : Slots → Option AV} {FM : Slots → Option (AFlow × Slots)} {cw : Slots → Option Bool} {FP : Slots → Option (AFlow × Slots)} {f2 : Slots → Option AV} {Rdy : Slots → Prop} {Pend : Slots → List AV → Prop} {rowI : AV → List AV} {okR : AV → Prop} {Φ : End → Shared → Prop} {p p' : Pos} {it : AV}
theorem room_for (R : Room A (d + 2)) : Room (A.over (t.cFor env J) [t.frF env p]) d := room_over1 R rfl rfl rfl rfl
theorem room_wh (R : Room A (d + 2)) : Room (A.over (t.cWh env) [t.frW env J p', t.frF env p]) d := room_over2 R rfl rfl rfl rfl rfl rfl
theorem sg_wh1 (D : GDen W d sc t T ct f1 FM cw FP f2) (G : GAbs T ct f1 FM cw FP f2 Rdy Pend rowI okR) (hE : EnvOk env sc) (R : Room A (d + 2)) (k : Hold W env J lr rows Z s ρ α rem) (hP : Pend ρ (it :: P)) (hΦ : ∀ e s', Out W t env J lr rows Rdy Pend rowI Z s ρ α (it :: P) rem e s' → Φ e s') :
    Sg W.M A Φ (t.cWh env) (W.M.den (t.cWh env)) [t.frW env J p', t.frF env p] s := by
  obtain ⟨h1, ρ', h2, h3, h4⟩ := G.more ρ it P hP
  have R' : Room (A.over (t.cWh env) [t.frW env J p', t.frF env p]) d := room_wh R
  refine sg_whileLoop (D.wtest _ env Z s ρ α true R' hE k.inv k.loc h1 _ _ fun s₁ Z₁ p₁ => ?_)
  rw [if_pos rfl]
  obtain ⟨k₁, q₁⟩ := k.step (FStep.pure k.loc p₁)
  refine sg_execs_app (sg_wrap (D.pop _ env Z₁ s₁ ρ α .next ρ' R' hE k₁.inv k₁.loc h2 _ _ fun f s₂ Z₂ α₂ p₂ r₂ => ?_))
  cases f <;> try exact r₂.elim
  obtain ⟨k₂, q₂⟩ := k₁.step p₂
  refine sg_execs_cons (sg_Yield rfl rfl (D.y2 _ env Z₂ s₂ ρ' α₂ it R' hE k₂.inv k₂.loc h3 _ _ fun v s₃ Z₃ p₃ r₃ l kk pp hk => ?_) (by rw [hE.scope]; exact D.co) (by unfold interactive; rw [hE.scope, hE.fn]; rfl))
  obtain ⟨k₃, q₃⟩ := k₂.step (FStep.pure k₂.loc p₃)
  refine hΦ _ _ ⟨rfl, it, P, rem, Z₃, ρ', α₂, rfl, r₃, (q₁.trans q₂).trans q₃, k₃, .inr ⟨h4, p, p', fun A' Φ' s'' hs => hk A' Φ' s'' ?_⟩⟩
  exact sg_again rfl hs
theorem sg_for1 (D : GDen W d sc t T ct f1 FM cw FP f2) (G : GAbs T ct f1 FM cw FP f2 Rdy Pend rowI okR) (hE : EnvOk env sc) (R : Room A (d + 2)) (k : Hold W env J lr rows Z s ρ α rem) (hr : Rdy ρ) (hok : ∀ row ∈ rem, okR row) (hΦ : ∀ e s', Out W t env J lr rows Rdy Pend rowI Z s ρ α [] rem e s' → Φ e s') :
    Sg W.M A Φ (t.cFor env J) (W.M.den (t.cFor env J)) [t.frF env p] s := by
  have R' : Room (A.over (t.cFor env J) [t.frF env p]) d := room_for R
  have fin : ∀ h' : Heap, rem = [] → (∀ b o, b ≠ J → s.heap.get? b = some o → h'.get? b = some o) → ItSt h' J lr rows [] → Sg W.M A Φ (t.cFor env J) (.pure (.again (.block [] env))) [t.frF env p] { s with heap := h' } := fun h' he hk hi => by
    subst he
    obtain ⟨k₁, q₁⟩ := k.draw hk hi
    exact sg_again rfl (sg_block (sg_leaf (.ok .next) (sg_end (.ok (.ret .none)) (hΦ _ _ ⟨rfl, rfl, Z, ρ, α, q₁, k₁⟩))))
  obtain ⟨vs, hl, rl⟩ := k.lst
  have hit := k.it
  rcases hit with ⟨i, hi, hrem⟩ | ⟨hrem, hsp⟩
  · rcases Nat.lt_or_ge i rows.length with hlt | hge
    · have hrow : rem = rows[i] :: rows.drop (i + 1) := by rw [hrem]; exact List.drop_eq_getElem_cons hlt
      obtain ⟨v, hv, rv⟩ := rl.get (List.getElem?_eq_getElem hlt)
      generalize rows[i] = row at *
      obtain ⟨it, P, ρ₁, e1, e2, e3⟩ := G.row ρ row hr (hok row (by rw [hrow]; exact List.mem_cons_self))
      refine sg_forLoop (wpAny_pyNext_list_item hi hl (by simpa using hv) fun h' hi' hs' => ?_)
      obtain ⟨k₁, q₁⟩ := k.draw (rem' := rows.drop (i + 1)) (fun b o hne e => (hs'.2 b hne).trans e) (.inl ⟨i + 1, hi', rfl⟩)
      obtain ⟨oJ, hoJ, hcJ⟩ := k₁.it.alive
      refine letGo_cls (W := W) (.tup _ _ _) hoJ hcJ (by decide) ?_
      have rv' : RepV Z h' v row := rv.mono (fun _ z => z) fun a o z e => (hs'.2 a (fun e' => k.jz (e' ▸ z))).trans e
      refine D.tgt _ env Z _ ρ α v row ρ₁ R' hE k₁.inv k₁.loc rv' e2 _ _ fun s₂ Z₂ α₂ p₂ => ?_
      obtain ⟨k₂, q₂⟩ := k₁.step p₂
      have hn : nxtG rowI [] rem = some (it, P, rows.drop (i + 1)) := by rw [hrow]; show (match rowI row with | it :: P => some (it, P, _) | [] => none) = _; rw [e1]
      rcases e3 with ⟨t1, t2, t3, t4⟩ | ⟨t1, ρ₂, t2, t3⟩
      · subst t3
        refine sg_execs_cons (sg_If (D.test _ env Z₂ s₂ ρ₁ α₂ true R' hE k₂.inv k₂.loc t1 _ _ fun s₃ Z₃ p₃ => ?_))
        rw [if_pos rfl]
        obtain ⟨k₃, q₃⟩ := k₂.step (FStep.pure k₂.loc p₃)
        refine sg_execs_cons (sg_Yield rfl rfl (D.y1 _ env Z₃ s₃ ρ₁ α₂ it R' hE k₃.inv k₃.loc t2 _ _ fun v s₄ Z₄ p₄ r₄ l kk pp hk => ?_) (by rw [hE.scope]; exact D.co) (by unfold interactive; rw [hE.scope, hE.fn]; rfl))
        obtain ⟨k₄, q₄⟩ := k₃.step (FStep.pure k₃.loc p₄)
        refine hΦ _ _ ⟨rfl, it, [], rows.drop (i + 1), Z₄, ρ₁, α₂, hn, r₄, ((q₁.trans q₂).trans q₃).trans q₄, k₄, .inl ⟨t4, rfl, p, fun A' Φ' s'' hs => hk A' Φ' s'' ?_⟩⟩
        exact sg_execs_cons (sg_wrap (wpAny_Continue (sg_again rfl hs)))
      · refine sg_execs_cons (sg_If (D.test _ env Z₂ s₂ ρ₁ α₂ false R' hE k₂.inv k₂.loc t1 _ _ fun s₃ Z₃ p₃ => ?_))
        rw [if_neg Bool.false_ne_true]
        obtain ⟨k₃, q₃⟩ := k₂.step (FStep.pure k₂.loc p₃)
        show Sg _ A Φ _ ((execs (t.mid ++ [.While t.wtest t.wbody [] t.r3]) env).wrap _ _ _ _) _ _
        refine sg_execs_app (sg_wrap (D.mid _ env Z₃ s₃ ρ₁ α₂ .next ρ₂ R' hE k₃.inv k₃.loc t2 _ _ fun f s₄ Z₄ α₄ p₄ r₄ => ?_))
        cases f <;> try exact r₄.elim
        obtain ⟨k₄, q₄⟩ := k₃.step p₄
        refine sg_execs_cons (sg_While fun p' => ?_)
        exact sg_wh1 D G hE R k₄ t3 fun e s' o => hΦ e s' (o.back (((q₁.trans q₂).trans q₃).trans q₄) (hn.trans rfl))
    · have hrem' : rem = [] := by rw [hrem]; exact List.drop_eq_nil_of_le hge
      refine sg_forLoop (next_end R'.handled hi hl (by rw [List.getElem?_toArray, List.getElem?_eq_none]; rw [rl.length]; exact hge) fun h' hx hsp => ?_)
      exact fin h' hrem' hx (.inr ⟨rfl, hsp⟩)
  · refine sg_forLoop (next_spent R'.handled hsp fun h' hk => ?_)
    obtain ⟨o, j, ho, r⟩ := hsp
    exact fin h' hrem (fun b o _ e => hk b o e) (.inr ⟨rfl, o, j, hk _ _ ho, r⟩)
theorem sg_wh2 (D : GDen W d sc t T ct f1 FM cw FP f2) (G : GAbs T ct f1 FM cw FP f2 Rdy Pend rowI okR) (hE : EnvOk env sc) (R : Room A (d + 2)) (k : Hold W env J lr rows Z s ρ α rem) (hP : Pend ρ P) (hok : ∀ row ∈ rem, okR row) (hΦ : ∀ e s', Out W t env J lr rows Rdy Pend rowI Z s ρ α P rem e s' → Φ e s') :
    Sg W.M A Φ (t.cWh env) (W.M.den (t.cWh env)) [t.frW env J p', t.frF env p] s := by
  cases P with
  | cons it P => exact sg_wh1 D G hE R k hP hΦ
  | nil =>
    obtain ⟨h1, h2⟩ := G.stop ρ hP
    refine sg_whileLoop (D.wtest _ env Z s ρ α false (room_wh R) hE k.inv k.loc h1 _ _ fun s₁ Z₁ p₁ => ?_)
    rw [if_neg Bool.false_ne_true]
    obtain ⟨k₁, q₁⟩ := k.step (FStep.pure k.loc p₁)
    show Sg _ A Φ _ (leafOf (.ok .next)) _ _
    refine sg_leaf (.ok .next) ?_
    show Sg _ A Φ _ (.pure (.again (t.cFor env J))) _ _
    exact sg_again rfl (sg_for1 D G hE R k₁ h2 hok fun e s' o => hΦ e s' (o.back q₁ rfl))
end
end
end Mine
end
section
open Sem (wp)
set_option linter.unusedVariables false
namespace Mine
section
variable {W : Wd} {Z Z' Z₁ Z₂ : AddrSet} {s s' s₁ s₂ : Shared} {env : Env} {sc : Scope} {ρ ρ' ρ₁ ρ₂ : Slots} {α α' α₁ α₂ : Str → Addr} {A : Around} {d : Nat} {J lr ga : Addr} {gi : Nat} {rows rem rem' P : List AV} {t : GText} {Rdy : Slots → Prop} {Pend : Slots → List AV → Prop} {rowI : AV → List AV} {okR : AV → Prop}
theorem Inv.setGen {g : Nat} {x : GenState} (I : Inv W Z s) (hb : x.bare = true) : Inv W Z (s.setGen g x) :=
  ⟨I.ok, I.base, I.xs, I.zin, I.os, fun y hy => by
    rcases Array.mem_or_eq_of_mem_setIfInBounds hy with h | h
    · exact I.bare y h
    · rw [h]; exact hb, I.zx, I.z0, I.tk⟩
theorem setGen_other {g i : Nat} {x y : GenState} (h : i ≠ g) (e : s.gens[i]? = some y) : (s.setGen g x).gens[i]? = some y := by
  show (s.gens.setIfInBounds g x)[i]? = some y
  rw [Array.getElem?_setIfInBounds_ne (Ne.symm h)]; exact e
noncomputable def Live (W : Wd) (d : Nat) (t : GText) (env : Env) (J lr : Addr) (rows : List AV) (Rdy : Slots → Prop) (Pend : Slots → List AV → Prop) (rowI : AV → List AV) (okR : AV → Prop) (gs : GenState) (ρ : Slots) (P : List AV) : Prop :=
  gs.bare = true ∧ ∀ A Φ s Z α rem, Room A (d + 2) → Hold W env J lr rows Z s ρ α rem → (∀ row ∈ rem, okR row) → (∀ e s', Out W t env J lr rows Rdy Pend rowI Z s ρ α P rem e s' → Φ e s') → Goes1 W.M A Φ gs s
structure GenSt (W : Wd) (d : Nat) (t : GText) (env : Env) (J lr : Addr) (rows : List AV) (Rdy : Slots → Prop) (Pend : Slots → List AV → Prop) (rowI : AV → List AV) (okR : AV → Prop) (ga : Addr) (gi : Nat) (Z : AddrSet) (s : Shared) (ρ : Slots) (α : Str → Addr) (P rem : List AV) : Prop where
  hold : Hold W env J lr rows Z s ρ α rem
  gen : s.heap.IsGen ga gi
  gz : ¬ FOwn env ρ α ga ∧ ga ≠ J
  ok : ∀ row ∈ rem, okR row
  live : ∃ gs, s.gens[gi]? = some gs ∧ Live W d t env J lr rows Rdy Pend rowI okR gs ρ P
section
variable {T : AV → Slots → Option Slots} {ct : Slots → Option Bool} {f1 : Slots → Option AV} {FM : Slots → Option (AFlow × Slots)} {cw : Slots → Option Bool} {FP : Slots → Option (AFlow × Slots)} {f2 : Slots → Option AV}
theorem live_susp (D : GDen W d sc t T ct f1 FM cw FP f2) (G : GAbs T ct f1 FM cw FP f2 Rdy Pend rowI okR) (hE : EnvOk env sc) {k : Resume → Sem Fin} {l : List Value} {c : Code} {p : Pos} {fs : List Frame} {cl : Bool} (hcl : cl = false)
    (h : (Rdy ρ ∧ P = [] ∧ AtFor W t env J k c fs) ∨ (Pend ρ P ∧ AtWh W t env J k c fs)) : Live W d t env J lr rows Rdy Pend rowI okR (.suspended k l c p fs cl) ρ P := by
  refine ⟨by rw [hcl]; rfl, fun A Φ s Z α rem R k' hok hΦ => ?_⟩
  rcases h with ⟨hr, rfl, p, ha⟩ | ⟨hp, p, p', ha⟩
  · exact ha A Φ s (sg_for1 D G hE R k' hr hok hΦ)
  · exact ha A Φ s (sg_wh2 D G hE R k' hp hok hΦ)
end
theorem Hold.setGen {g : Nat} {x : GenState} (k : Hold W env J lr rows Z s ρ α rem) (hb : x.bare = true) : Hold W env J lr rows Z (s.setGen g x) ρ α rem := ⟨k.inv.setGen hb, k.loc, k.it, k.lz, k.lst, k.jz, k.jb, k.jf⟩
structure GStep (W : Wd) (env : Env) (J : Addr) (gi : Nat) (Z : AddrSet) (s : Shared) (ρ : Slots) (α : Str → Addr) (Z' : AddrSet) (s' : Shared) (ρ' : Slots) (α' : Str → Addr) : Prop where
  step : Step W ⟨fun a => FOwn env ρ α a ∨ a = J, fun i => i = gi⟩ Z s Z' s'
  fo : ∀ a, FOwn env ρ' α' a → FOwn env ρ α a ∨ s.heap.get? a = none
theorem GenSt.after {x : GenState} (k : GenSt W d t env J lr rows Rdy Pend rowI okR ga gi Z s ρ α P rem) (q : HStep W env J Z (s.setGen gi .running) ρ α Z' s' ρ' α') (k' : Hold W env J lr rows Z' s' ρ' α' rem') (hb : x.bare = true) : GStep W env J gi Z s ρ α Z' (s'.setGen gi x) ρ' α' := by
  refine ⟨⟨k'.inv.setGen hb, fun b o hb e => q.step.keep b o hb e, q.step.zsub, q.step.znew, fun i y hi e => ?_⟩, q.fo⟩
  exact setGen_other hi (q.step.gens i y id (setGen_other hi e))
theorem GenSt.lift {Pd : List AV} {v : Value} {it : AV} {g : Bool} {l : List Value} {kk : Resume → Sem Fin} {c : Code} {p : Pos} {fs : List Frame}
    (k : GenSt W d t env J lr rows Rdy Pend rowI okR ga gi Z s ρ α P rem) (hlive : Live W d t env J lr rows Rdy Pend rowI okR (End.susp v g l kk c p fs).genState ρ' Pd) (hb : (End.susp v g l kk c p fs).quiet = true) (q : HStep W env J Z (s.setGen gi .running) ρ α Z' s' ρ' α') (k' : Hold W env J lr rows Z' s' ρ' α' rem') (hok : ∀ row ∈ rem', okR row) :
    GenSt W d t env J lr rows Rdy Pend rowI okR ga gi Z' (s'.setGen gi (End.susp v g l kk c p fs).genState) ρ' α' Pd rem' := by
  obtain ⟨gs, hgs, _⟩ := k.live
  obtain ⟨og, nm, qn, hog, r⟩ := k.gen
  have hog' : s'.heap.get? ga = some og := q.step.keep ga og (fun h => h.elim k.gz.1 k.gz.2) hog
  refine ⟨k'.setGen (PySem.End.bare_of_quiet hb), ⟨og, nm, qn, hog', r⟩, ⟨fun f => ?_, k.gz.2⟩, hok, ⟨_, ?_, hlive⟩⟩
  · rcases q.fo ga f with h | h
    · exact k.gz.1 h
    · have h : s.heap.get? ga = none := h; rw [hog] at h; cases h
  · have hlt : gi < s.gens.size := (Array.getElem?_eq_some_iff.mp hgs).1
    have hg1 : (s.setGen gi .running).gens[gi]? = some .running := setGen_self hgs
    have hg2 := q.step.gens gi _ id hg1
    exact setGen_self hg2
theorem nxtG_ok {it : AV} {P' : List AV} (h : nxtG rowI P rem = some (it, P', rem')) (hok : ∀ row ∈ rem, okR row) : ∀ row ∈ rem', okR row := by
  cases P with
  | cons a P => cases h; exact hok
  | nil =>
    cases rem with
    | nil => cases h
    | cons row rem =>
      have h : (match rowI row with | it :: P => some (it, P, rem) | [] => none) = some (it, P', rem') := h
      split at h
      · cases h; exact fun r hr => hok r (List.mem_cons_of_mem _ hr)
      · cases h
section
variable {T : AV → Slots → Option Slots} {ct : Slots → Option Bool} {f1 : Slots → Option AV} {FM : Slots → Option (AFlow × Slots)} {cw : Slots → Option Bool} {FP : Slots → Option (AFlow × Slots)} {f2 : Slots → Option AV}
theorem gen_pyNext (D : GDen W d sc t T ct f1 FM cw FP f2) (G : GAbs T ct f1 FM cw FP f2 Rdy Pend rowI okR) (hE : EnvOk env sc) (R : Room A.in1 (d + 2)) (k : GenSt W d t env J lr rows Rdy Pend rowI okR ga gi Z s ρ α P rem) {Q : Option Value → Shared → Prop} {E' : Value → Shared → Prop}
    (hY : ∀ it P' rem' v s' Z' ρ' α', nxtG rowI P rem = some (it, P', rem') → RepV Z' s'.heap v it → GStep W env J gi Z s ρ α Z' s' ρ' α' → GenSt W d t env J lr rows Rdy Pend rowI okR ga gi Z' s' ρ' α' P' rem' → Q (some v) s')
    (hN : ∀ s' Z' ρ' α', nxtG rowI P rem = none → GStep W env J gi Z s ρ α Z' s' ρ' α' → Q none s') : wpAny W.M A (pyNext (.ref ga)) Q E' s := by
  obtain ⟨gs, hgs, hlive⟩ := k.live
  have I := k.hold.inv
  refine pyNext_gen1 (Φ := Out W t env J lr rows Rdy Pend rowI Z (s.setGen gi .running) ρ α P rem) R.handled I.nolimit (by have := R.depth; show A.depth < recursionLimit; have : A.in1.depth = A.depth := rfl; (first | lia | omega)) k.gen hgs (hlive.2 _ _ _ Z α rem R (k.hold.setGen rfl) k.ok fun _ _ o => o) (fun e s₁ o => ?_) (fun v gg l kk c p fs s₁ o => ?_) fun r s₁ o => ?_
  · cases e with
    | ret r => rfl
    | susp v g l kk c p fs => exact o.1
  · obtain ⟨h0, it, P', rem', Z', ρ', α', h1, h2, h3, h4, h5⟩ := o
    have hl := live_susp (lr := lr) (rows := rows) (l := l) (p := p) (cl := (gg || fs.any Frame.guarded)) D G hE (by
      have : (!(gg || fs.any Frame.guarded)) = true := h0
      simpa using this) h5
    exact hY it P' rem' v _ Z' ρ' α' h1 h2 (k.after h3 h4 (PySem.End.bare_of_quiet h0)) (k.lift (it := it) hl h0 h3 h4 (nxtG_ok h1 k.ok))
  · obtain ⟨h0, h1, Z', ρ', α', h3, h4⟩ := o
    refine ⟨h0, fun h' hk => hN _ Z' ρ' α' h1 ?_⟩
    obtain ⟨st, fo⟩ := k.after (x := .finished) h3 h4 rfl
    have p2 : Step W .none Z' (s₁.setGen gi .finished) Z' { s₁.setGen gi .finished with heap := h' } := .grow st.inv (tk := s₁.toks) hk
    exact ⟨st.trans p2 (fun _ h => h.elim) (fun _ h => h.elim), fo⟩
end
theorem GenSt.other {O : Own} (k : GenSt W d t env J lr rows Rdy Pend rowI okR ga gi Z s ρ α P rem) (p : Step W O Z s Z' s') (ha : ∀ a, O.a a → ¬ FOwn env ρ α a ∧ ¬ Z a ∧ a ≠ J ∧ a ≠ ga) (hg : ¬ O.g gi) : GenSt W d t env J lr rows Rdy Pend rowI okR ga gi Z' s' ρ α P rem := by
  obtain ⟨oJ, hoJ, _⟩ := k.hold.it.alive
  have kJ : ∀ o, s.heap.get? J = some o → s'.heap.get? J = some o := fun o e => p.keep J o (fun h => (ha J h).2.2.1 rfl) e
  have kz : ∀ a o, Z a → s.heap.get? a = some o → s'.heap.get? a = some o := fun a o z e => p.keep a o (fun h => (ha a h).2.1 z) e
  obtain ⟨gs, hgs, hl⟩ := k.live
  obtain ⟨og, nm, qn, hog, r⟩ := k.gen
  refine ⟨⟨p.inv, k.hold.loc.step p fun a h => ⟨(ha a h).1, (ha a h).2.1⟩, k.hold.it.at kJ, p.zsub _ k.hold.lz, ?_, fun z => ?_, k.hold.jb, k.hold.jf⟩, ⟨og, nm, qn, p.keep ga og (fun h => (ha ga h).2.2.2 rfl) hog, r⟩, k.gz, k.ok, ⟨gs, p.gens gi gs hg hgs, hl⟩⟩
  · obtain ⟨vs, hl, r⟩ := k.hold.lst
    exact ⟨vs, hl.at fun o e => kz _ o k.hold.lz e, r.mono p.zsub kz⟩
  · rcases p.znew J z with h | h | h
    · exact k.hold.jz h
    · exact (ha J h).2.2.1 rfl
    · rw [hoJ] at h; cases h
end
end Mine
end
section
open Sem (wp)
set_option linter.unusedVariables false
namespace Mine
theorem extend_loop {prog : Program} {w : World} {A : Around} {R : Result → Shared → Prop} {S I : Addr} {res : Value} (V : Nat → Array Value → Shared → Prop)
    (hstep : ∀ n acc s, V n acc s → wpAny (model prog w) A.in1 (pyNext (.ref I)) (fun r s' => match r with
      | none => R (.ok (.ret res)) s'
      | some v => ∃ c, s'.heap.get? S = some { cls := .type "list", data := .seq acc c } ∧ acc.size ≤ 1000000 ∧ ∃ m, m < n ∧ V m (acc.push v) { s' with heap := s'.heap.update S (Obj.mapSeq (·.push v)) }) (fun e s' => R (.error e) s') s) :
    ∀ (n : Nat) (acc : Array Value) (s : Shared), V n acc s → codeAny (model prog w) A (.builtin "list.extend.loop" ⟨[.ref S, .ref I, res], []⟩) R s := by
  intro n
  induction n using Nat.strongRecOn with
  | ind n ih =>
    intro acc s hV
    refine codeAny_builtin F.entry_extend_loop ?_
    rw [Around.under_plainId F.plain_extend_loop _]
    show wpAny _ A.in1 (pyNext (.ref I) >>= _) _ _ s
    refine wpAny_bind (wpAny_mono (hstep n acc s hV) (fun r s' h => ?_) fun _ _ h => h)
    cases r with
    | none => exact wpAny_pure h
    | some v =>
      obtain ⟨c, hS, hz, m, hm, hV'⟩ := h
      show wpAny _ A.in1 (updateSeq S (·.push v) >>= _) _ _ _
      refine wpAny_bind ?_
      exact wpAny_updateSeq hS rfl (wpAny_pure ⟨plainId_quiet F.plain_extend_loop _, ih m hm _ _ hV'⟩) (by unfold sizeLine; (first | lia | omega)) (by show (acc.push v).size ≤ sizeLine + 1; rw [Array.size_push]; unfold sizeLine; (first | lia | omega))
end Mine
end
section
open Sem (wp)
set_option linter.unusedVariables false
namespace Mine
section
variable {W : Wd} {Z Z' Z₁ Z₂ : AddrSet} {s s' s₁ s₂ : Shared} {env genv : Env} {sc : Scope} {ρ ρ' ρ₁ ρ₂ ρg ρg' : Slots} {α α' α₁ α₂ αg αg' : Str → Addr} {A : Around} {d dg : Nat} {J lr ga : Addr} {gi : Nat} {rows rem rem' P P' : List AV} {t : GText} {Rdy : Slots → Prop} {Pend : Slots → List AV → Prop} {rowI : AV → List AV} {okR : AV → Prop}
structure Stage0 (s₁ : Shared) (W : Wd) (env : Env) (Z : AddrSet) (s : Shared) (ρ : Slots) (α : Str → Addr) : Prop where
  inv : Inv W Z s
  loc : Loc W Z s.heap env ρ α
  keep : ∀ b o, s₁.heap.get? b = some o → s.heap.get? b = some o
  own : ∀ a, FOwn env ρ α a → s₁.heap.get? a = none
  os : s.os = s₁.os
theorem Stage0.back (t : Stage0 s₁ W env Z s ρ α) {a : Addr} (h : s.heap.get? a = none) : s₁.heap.get? a = none := by
  cases e : s₁.heap.get? a with
  | none => rfl
  | some o => rw [t.keep a o e] at h; cases h
theorem Stage0.step (t : Stage0 s₁ W env Z s ρ α) (p : FStep W env Z s ρ α Z' s' ρ' α') : Stage0 s₁ W env Z' s' ρ' α' :=
  ⟨p.step.inv, p.loc, fun b o e => p.step.keep b o (fun f => by rw [t.own b f] at e; cases e) (t.keep b o e), fun a f => (p.fo a f).elim (t.own a) t.back, (p.step.inv.os.trans t.inv.os.symm).trans t.os⟩
theorem law_start0 {fa : Addr} {o : Obj} {fd : FuncData} {body : List Stmt} {a : Addr} {vals : List Value} {ns : List Int} {R : Result → Shared → Prop} (ok : W.Ok) (hh : W.h₀ = s₁.heap) (hos : W.os = s₁.os) (hX : ∀ a, ¬ W.X a) (hZ : ∀ a, ¬ W.Z₀ a) (hg : s₁.gens = #[])
    (hroom : A.depth < recursionLimit) (ho : s₁.heap.get? fa = some o) (hd : o.data = .func fd) (hlim : s₁.heap.NoLimit) (hcd : s₁.heap.CodeRec fd.code fd.qualname) (hbody : fd.body = .stmts body) (hbind : bindArgs fd ⟨[Value.ref a], []⟩ = pure [(("script" : Str), Value.ref a)]) (hclo : fd.closure = [])
    (hsc : fd.scope.names.lookup ("script" : Str) = some .local) (hnf : ∀ x, fd.scope.names.lookup x ≠ some .free) (hgl : fd.globals = mainGlobals) (hbl : fd.builtins = builtinsNs) (hk : fd.scope.kind = .function) (hco : fd.scope.isCoroutine = false) (hgen : fd.scope.isGenerator = false)
    (hl : IsLst s₁.heap a vals.toArray) (hi : IntsAre vals ns)
    (h : ∀ env Z s α, EnvOk env fd.scope → Stage0 s₁ W env Z s (script0 ns) α → wpAny W.M (A.deeper env) (execs body env) (fun f s' => R (.ok (.ret (match f with | .ret v => v | _ => .none))) s') (fun _ _ => False) s) :
    codeAny W.M A (.call (.ref fa) ⟨[.ref a], []⟩) R s₁ := by
  refine codeAny_call_function hroom ho hd hco hgen hbody hcd ?_
  rw [hbind, hclo]
  refine wpAny_pure (newEnv1 hk hsc fun env he s' htk x => ?_)
  subst he
  refine ⟨hlim.keeps x.toInCall.keep, codeAny_func ?_⟩
  obtain ⟨oa, ha, hr⟩ := hl
  have I : Inv W (· = a) { s₁ with toks := s₁.toks + 1 } := ⟨ok, fun b o e _ => hh ▸ e, fun b x => (hX b x).elim, fun b z => ⟨oa, by rw [show b = a from z]; exact ha⟩, hos.symm, .of_eq hg, fun b z x => hX b x, fun b h => (hZ b h).elim, Nat.le_add_left _ _⟩
  have x' : InCallC { s₁ with toks := s₁.toks + 1 } (callEnvC fd s₁.heap.objs.size fa).locals (bindL (callEnvC fd s₁.heap.objs.size fa).kindOf [("script", .ref a)] fun _ => none) (callEnvC fd s₁.heap.objs.size fa).cells (bindC (callEnvC fd s₁.heap.objs.size fa).kindOf [("script", .ref a)] fun _ => none) s' :=
    ⟨⟨let ⟨h, tk, e⟩ := x.toInCall.same; ⟨h, tk, e⟩, x.toInCall.ns, x.toInCall.keep, x.toInCall.fresh⟩, x.cell, x.apart, x.above⟩
  obtain ⟨p₁, L₁, fo₁⟩ := enter_loc (s := { s₁ with toks := s₁.toks + 1 }) (ρ := script0 ns) (α := fun _ => 0) I (fun y hy => by cases List.mem_singleton.mp hy; exact .inl hsc) (fun y sv hy => by
    unfold script0 at hy
    split at hy
    · rename_i e; cases hy; subst e
      exact ⟨.ref a, _, by simp, rfl, .lst rfl ⟨oa, ha, hr⟩ (reps_ints hi)⟩
    · cases hy) htk x'
  exact wpAny_mono (h _ _ _ _ (enter_env hgl hbl hnf hk) ⟨p₁.inv, L₁, fun b o e => p₁.keep b o id e, fo₁, p₁.inv.os.trans hos⟩) (fun _ _ x => x) fun _ _ x => x.elim
structure Duo (s₁ : Shared) (W : Wd) (dg : Nat) (t : GText) (genv : Env) (J lr : Addr) (rows : List AV) (Rdy : Slots → Prop) (Pend : Slots → List AV → Prop) (rowI : AV → List AV) (okR : AV → Prop) (ga : Addr) (gi : Nat) (env : Env) (Z : AddrSet) (s : Shared) (ρ : Slots) (α : Str → Addr) (ρg : Slots) (αg : Str → Addr) (P rem : List AV) : Prop where
  st : Stage0 s₁ W env Z s ρ α
  gen : GenSt W dg t genv J lr rows Rdy Pend rowI okR ga gi Z s ρg αg P rem
  ap : ∀ a, FOwn env ρ α a → ¬ FOwn genv ρg αg a ∧ a ≠ J ∧ a ≠ ga
  new : ∀ a, FOwn genv ρg αg a ∨ a = J → s₁.heap.get? a = none
theorem call_genfn {f : Addr} {fd : FuncData} {body : List Stmt} {names : List Str} {vals : List Value} {args : List AV} (hroom : A.depth < recursionLimit) (I : Inv W Z s) (hk : ∃ o, W.K.lookup f = some o ∧ o.data = .func fd) (hbody : fd.body = .stmts body) (hcode : codeIn W.K fd.code fd.qualname = true) (hgl : fd.globals = mainGlobals) (hbl : fd.builtins = builtinsNs) (hclo : fd.closure = [])
    (hnf : ∀ x, fd.scope.names.lookup x ≠ some .free) (hkf : fd.scope.kind = .function) (hco : fd.scope.isCoroutine = false) (hgen : fd.scope.isGenerator = true) (hns : fd.scope.names.lookup frz ≠ some .cell) (hbind : bindArgs fd ⟨vals, []⟩ = pure (names.zip vals)) (hl : ∀ x ∈ names, fd.scope.names.lookup x = some .local ∨ fd.scope.names.lookup x = some .cell) (r : RepVs Z s.heap vals args)
    {Q : Value → Shared → Prop} {E' : Value → Shared → Prop}
    (h : ∀ genv s' Z' (ga : Addr), EnvOk genv fd.scope → Step W .none Z s Z' s' → Loc W Z' s'.heap genv (bindA names args) (fun _ => 0) → s'.heap.IsGen ga s.gens.size → s'.gens[s.gens.size]? = some (.fresh (.func body genv)) → (∀ a, FOwn genv (bindA names args) (fun _ => 0) a → s.heap.get? a = none ∧ a ≠ ga) → s.heap.get? ga = none → Q (.ref ga) s') :
    wpAny W.M A (call (.ref f) vals) Q E' s := by
  obtain ⟨o, hk, hd⟩ := hk
  have hz : ∀ x ∈ names.zip vals, fd.scope.names.lookup x.1 = some .local ∨ fd.scope.names.lookup x.1 = some .cell := fun x hx => hl _ (List.of_mem_zip (show (x.1, x.2) ∈ _ from hx)).1
  refine wpAny_call (codeAny_call_generator hroom (I.kin _ _ hk) hd hco hgen hbody (codeRec_of I.kin hcode) ?_)
  rw [hbind, hclo]
  refine wpAny_pure (wpAny_with_toks (Nat.le_refl _) (wpAny_newFunctionEnv_cells hkf (fun x hx => (hz x hx).imp id fun h => ⟨h, cells_acc _ _ _ (.inr h)⟩) fun env he s' x => fun (htk : s.toks ≤ s'.toks) => ?_))
  subst he
  obtain ⟨p₁, L₁, fo₁⟩ := enter_loc (f := f) (fd := fd) (ρ := bindA names args) (α := fun _ => 0) I hz (fun y sv hy => by
    obtain ⟨b, hb1, e⟩ := Option.map_eq_some_iff.mp hy
    obtain ⟨v, hv, rv⟩ := (zip_look r names y).1 b hb1
    exact ⟨v, b, hv, e.symm, rv⟩) htk x
  have hE := enter_env (f := f) (L := s.heap.objs.size) hgl hbl hnf hkf
  have hsame := x.toInCall.same
  have hgens : s'.gens = s.gens := by obtain ⟨h', tk', e⟩ := hsame; rw [e]
  refine ⟨I.nolimit.keeps x.toInCall.keep, ?_⟩
  have hkeep : ∀ b o, s'.heap.get? b = some o → (s'.heap.push { cls := .type "generator", data := .fields #[.int s'.gens.size 0, .str fd.name s'.toks, .str fd.qualname (s'.toks + 1)] }).get? b = some o := fun b o e => Heap.get?_push_of_some _ e
  have I₁ := p₁.inv
  have p₂ : Step W .none (withSelf Z (callEnvC fd s.heap.objs.size f)) s' (withSelf Z (callEnvC fd s.heap.objs.size f)) { s' with gens := s'.gens.push (.fresh (.func body (callEnvC fd s.heap.objs.size f))), toks := s'.toks + 1 + 1, heap := s'.heap.push { cls := .type "generator", data := .fields #[.int s'.gens.size 0, .str fd.name s'.toks, .str fd.qualname (s'.toks + 1)] } } := by
    refine ⟨⟨I₁.ok, fun b o e x => hkeep _ _ (I₁.base b o e x), fun b x => let ⟨o, e⟩ := I₁.xs b x; ⟨o, hkeep _ _ e⟩, fun a z => let ⟨o, e⟩ := I₁.zin a z; ⟨o, hkeep _ _ e⟩, I₁.os, I₁.bare.push rfl, I₁.zx, I₁.z0, by have := I₁.tk; show 1 ≤ s'.toks + 1 + 1; (first | lia | omega)⟩, fun b o _ e => hkeep b o e, fun _ z => z, fun _ z => .inl z, fun i y _ e => ?_⟩
    show (s'.gens.push _)[i]? = some y
    rw [Array.getElem?_push]
    have : i ≠ s'.gens.size := fun e' => by rw [e'] at e; simp at e
    rw [if_neg this]; exact e
  refine h _ _ _ s'.heap.objs.size hE (p₁.tr p₂) (L₁.step0 p₂) ⟨_, _, _, Heap.get?_push_size _ rfl, rfl, by rw [hgens], rfl⟩ (by rw [← hgens]; show (s'.gens.push _)[s'.gens.size]? = _; simp; rfl) (fun a f' => ⟨fo₁ a f', fun e => ?_⟩) ?_
  · obtain ⟨oo, ee⟩ := L₁.alive f'
    exact Nat.lt_irrefl _ (e ▸ Heap.lt_size ee)
  · exact (p₁.none_back (push_none _)).resolve_left id
end
end Mine
end
section
open Sem (wp)
set_option linter.unusedVariables false
namespace Mine
section
variable {W : Wd} {Z Z' Z₁ Z₂ Z₃ Z₅ : AddrSet} {s s' s₁ s₂ s₃ s₄ s₅ : Shared} {env genv cenv : Env} {sc : Scope} {ρ ρ' ρ₁ ρ₂ ρc ρg ρg' : Slots} {α α' α₁ α₂ αc αg αg' : Str → Addr} {A : Around} {d dg : Nat} {J lr ga D : Addr} {gi : Nat} {rows rem rem' P P' : List AV} {t : GText} {Rdy : Slots → Prop} {Pend : Slots → List AV → Prop} {rowI : AV → List AV} {okR : AV → Prop}
structure CA (W : Wd) (A : Around) (env cenv : Env) (s : Shared) (ρ : Slots) (α : Str → Addr) (fp wr : List Addr) (St : Nat → Heap → Prop) (PP : Nat → Value → Prop) (n : Nat) (I D : Addr) (Z₂ : AddrSet) : Prop where
  Wk : Walks W.prog W.w A I fp wr n PP St
  fresh : ∀ b, b = D ∨ b = cenv.locals ∨ b ∈ wr → s.heap.get? b = none
  hf : ∀ b ∈ fp, b ∈ wr ∨ Z₂ b
  ob : ∀ i h, St i h → ∀ b ∈ wr, ∃ o, h.get? b = some o
  CD : cenv.locals ≠ D
  wd : ∀ b ∈ wr, b ≠ D ∧ b ≠ cenv.locals
  L : ∀ a, FOwn env ρ α a → ∃ o, s.heap.get? a = some o
  s1 : ∀ b, s.heap.get? b = none → s₁.heap.get? b = none
  hb : ∀ b, s.heap.get? b = none → W.h₀.get? b = none ∧ ¬ W.X b
structure CG (s₁ : Shared) (W : Wd) (dg : Nat) (t : GText) (genv : Env) (J lr : Addr) (rows : List AV) (Rdy : Slots → Prop) (Pend : Slots → List AV → Prop) (rowI : AV → List AV) (okR : AV → Prop) (ga : Addr) (gi : Nat) (env : Env) (ρ : Slots) (α : Str → Addr) (cenv : Env) (wr : List Addr) (St : Nat → Heap → Prop) (D : Addr) (Z₂ : AddrSet) (s' : Shared) (i : Nat) (vs : List Value) (l₁ : List AV) (Z' : AddrSet) (ρc : Slots) (αc : Str → Addr) (ρg : Slots) (αg : Str → Addr) (P rem : List AV) : Prop where
  duo : Duo s₁ W dg t genv J lr rows Rdy Pend rowI okR ga gi env Z' s' ρ α ρg αg P rem
  L : Loc W Z' s'.heap cenv ρc αc
  st : St i s'.heap
  hD : s'.heap.PlainList D vs.toArray
  rs : RepVs Z' s'.heap vs l₁
  fo : ∀ b, FOwn cenv ρc αc b → b = cenv.locals ∨ FOwn env ρ α b
  Dz : ¬ Z' D
  w : ∀ b ∈ wr, ¬ Z' b
  g : ∀ b, b = D ∨ b = cenv.locals ∨ b ∈ wr → ¬ FOwn genv ρg αg b ∧ b ≠ J ∧ b ≠ ga
  zz : ∀ b, Z₂ b → Z' b
section
variable {fp wr : List Addr} {St : Nat → Heap → Prop} {PP : Nat → Value → Prop} {n i j : Nat} {I : Addr} {vs : List Value} {l₁ : List AV}
end
section
variable {T : AV → Slots → Option Slots} {ct : Slots → Option Bool} {f1 : Slots → Option AV} {FM : Slots → Option (AFlow × Slots)} {cw : Slots → Option Bool} {FP : Slots → Option (AFlow × Slots)} {f2 : Slots → Option AV} {scg : Scope}
end
end
end Mine
end
section
open PySem PySem.W PyProof.Rows PySem.Calls
set_option linter.unusedVariables false
namespace Mine
section
variable {W : Wd} {Z Z' Z₁ Z₂ : AddrSet} {s s' s₁ s₂ : Shared} {env genv : Env} {sc : Scope} {ρ ρ' ρ₁ ρ₂ ρg ρg' : Slots} {α α' α₁ α₂ αg αg' : Str → Addr} {A : Around} {d dg : Nat}
theorem Loc.retype {h : Heap} {x : Str} {v : Value} {av : AV} (L : Loc W Z h env ρ α) (hx : ρ x = some (.val (.raw v))) (r : RepV Z h v av) : Loc W Z h env (ρ.set x (.val av)) α := by
  have ow : ∀ y l, (ρ.set x (.val av)) y = some (.own l) → ρ y = some (.own l) := fun y l e => by
    unfold Slots.set at e
    split at e
    · cases e
    · exact e
  have fo : ∀ a, FOwn env (ρ.set x (.val av)) α a → FOwn env ρ α a := fun a f => f.imp id (·.imp id fun ⟨y, l, e, h⟩ => ⟨y, l, ow y l e, h⟩)
  refine ⟨?_, fun a f => L.nz a (fo a f), fun a f => L.nb a (fo a f), fun y l b e => L.fix y l b (ow y l e), fun y z l l' e e' => L.inj y z l l' (ow y l e) (ow z l' e'), L.cell, L.cinj, L.slf⟩
  obtain ⟨m, hm, hs⟩ := L.ns
  refine ⟨m, hm, fun y sv e => ?_⟩
  unfold Slots.set at e
  split at e
  · rename_i hy
    subst hy
    cases e
    obtain ⟨v', at', r'⟩ := hs y _ hx
    have : v' = v := by
      have r'' : RepV Z h v' (.raw v) := r'
      cases r''; rfl
    subst this
    exact ⟨v', at', r⟩
  · exact hs y sv e
structure Raw (s₁ : Shared) (W : Wd) (env : Env) (x dx C : Addr) (fs : List (Str × AV)) (Z : AddrSet) (s : Shared) (ρ : Slots) (α : Str → Addr) : Prop where
  st : Stage0 s₁ W env Z s ρ α
  hx : s.heap.get? x = some (instObj C dx)
  hd : ∃ es n, s.heap.get? dx = some (dictOf es n) ∧ RepEs Z s.heap es fs
  xz : ¬ Z x ∧ ¬ Z dx
  xf : ¬ FOwn env ρ α x ∧ ¬ FOwn env ρ α dx
  xb : W.h₀.get? dx = none ∧ ¬ W.X dx ∧ ¬ W.X x
  xn : s₁.heap.get? dx = none
  ne : x ≠ dx
theorem Raw.law {x dx C : Addr} {fs : List (Str × AV)} (k : Raw s₁ W env x dx C fs Z s ρ α) (p : FStep W env Z s ρ α Z' s' ρ' α') : Raw s₁ W env x dx C fs Z' s' ρ' α' := by
  obtain ⟨es, n, hd, re⟩ := k.hd
  have kz : ∀ a o, Z a → s.heap.get? a = some o → s'.heap.get? a = some o := fun a o z e => p.step.keep a o (fun f => k.st.loc.nz a f z) e
  refine ⟨k.st.step p, p.step.keep _ _ k.xf.1 k.hx, ⟨es, n, p.step.keep _ _ k.xf.2 hd, re.mono p.step.zsub kz⟩, ⟨p.step.nz k.xz.1 k.xf.1 k.hx, p.step.nz k.xz.2 k.xf.2 hd⟩, ⟨fun f => ?_, fun f => ?_⟩, k.xb, k.xn, k.ne⟩
  · rcases p.fo x f with h | h
    · exact k.xf.1 h
    · rw [k.hx] at h; cases h
  · rcases p.fo dx f with h | h
    · exact k.xf.2 h
    · rw [hd] at h; cases h
theorem exec_new {sx cx : Str} {px np cpos spos : Pos} {es : List Expr} {C fI : Addr} {fd : FuncData} {names : List Str} {l : List InitSt} {bd : List AV → Option (List AV)} {gs : Slots → Option (List AV)} {args full : List AV} {fs : List (Str × AV)} (R : Room A (d + 1)) (hE : EnvOk env sc)
    (hglob : W.Glob cx (.ref C)) (hkn : sc.names.lookup cx = some .globalImplicit) (hcx : (cx == ("__debug__" : Str)) = false) (hko : KeepOk W (.ref C)) (ha : DenPs W (d + 1) sc es gs) (hns : ∀ env pos, (backTo pos (starEach es env)).any (·.1) = false) (hargs : gs ρ = some args)
    (k : ClsK W C fI) (kf : FnK W fI fd (l.map InitSt.stmt))
    (hb : ∀ (Z : AddrSet) (h : Heap) (x : Value) (vals : List Value) (args full : List AV), RepVs Z h vals args → bd args = some full → ∃ fvals, (∀ s : Shared, W.K.In s.heap → BindsTo s fd ⟨x :: vals, []⟩ (("self", x) :: names.zip fvals)) ∧ RepVs Z h fvals full)
    (hl : ∀ x ∈ ("self" : Str) :: names, fd.scope.names.lookup x = some .local) (hnn : ("self" : Str) ∉ names) (hst : ∀ st ∈ l, st.par ∈ names ∧ (st.par == ("__debug__" : Str)) = false ∧ takerIn W.K C st.attr = some none) (hlen : l.length ≤ 900)
    (hfull : bd args = some full) (hfs : initA (fun p => (names.zip full).reverse.lookup p) l [] = some fs) (hk : Kd sc sx) (hsw : ∀ env, swapsWith (.Call (.Name cx np) es [] cpos) (some (.Name sx px)) spos.line env = pure false)
    (t : Stage0 s₁ W env Z s ρ α) {Q : Flow → Shared → Prop} {E' : Value → Shared → Prop}
    (q : ∀ s' Z' α' x dx, Raw s₁ W env x dx C fs Z' s' (ρ.set sx (.val (.raw (.ref x)))) α' → Q .next s') :
    wpAny W.M A (exec (.Assign [.Name sx px] (.Call (.Name cx np) es [] cpos) spos) env) Q E' s := by
  refine wpAny_Assign_Name ?_ (hsw env)
  show wpAny _ _ (do callWith cpos (← eval (.Name cx np) env) [] (backTo cpos (starEach es env)) (backToKw cpos (keywordEach [] env))) _ _ _
  refine wpAny_bind (load_glob hE t.inv hglob hkn hcx (callWith_den hko ha hns R hE t.inv t.loc hargs fun vs s₂ Z₂ p₂ r₂ => ?_))
  have t2 := t.step (FStep.pure t.loc p₂)
  refine ctor_raw k kf hb hl hnn hst hlen R p₂.inv r₂ hfull hfs fun s₃ x dx es n p₃ h1 h2 h3 h4 h5 h6 => ?_
  have t3 := t2.step (FStep.pure t2.loc p₃)
  have nf : ∀ a, s₂.heap.get? a = none → ¬ FOwn env ρ α a := fun a h f => by obtain ⟨o, e⟩ := t2.loc.alive f; rw [h] at e; cases e
  have raw : Raw s₁ W env x dx C fs Z₂ s₃ ρ α := ⟨t3, h4, ⟨es, n, h5, h6⟩, ⟨p₂.inv.fresh_z h1, p₂.inv.fresh_z h2⟩, ⟨nf x h1, nf dx h2⟩, ⟨p₂.inv.fresh_b h2, p₂.inv.fresh_x h2, p₂.inv.fresh_x h1⟩, t2.back h2, h3⟩
  exact t3.loc.storeV t3.inv hE hk (.raw _) fun s' α' p => q _ _ _ _ _ (raw.law p)
theorem exec_attr {sx attr : Str} {p1 p2 pos : Pos} {e : Expr} {f : Slots → Option AV} {a : AV} {C fI x dx : Addr} {fs : List (Str × AV)} (R : Room A d) (hE : EnvOk env sc) (h : DenP W d sc e f) (ha : f ρ = some a) (k : ClsK W C fI) (ht : takerIn W.K C attr = some none) (hno : fs.lookup attr = none) (hz : fs.length ≤ 900)
    (h1 : (sx == ("__debug__" : Str)) = false) (hn : (sx == ("__classdict__" : Str)) = false) (t : Raw s₁ W env x dx C fs Z s ρ α) (hs : ρ sx = some (.val (.raw (.ref x)))) (hsw : ∀ env, swapsWith e (some (.Attribute (.Name sx p1) attr p2)) pos.line env = pure false) {Q : Flow → Shared → Prop} {E' : Value → Shared → Prop}
    (q : ∀ s' Z' , Stage0 s₁ W env Z' s' (ρ.set sx (.val (.inst C (fs ++ [(attr, a)])))) α → Q .next s') :
    wpAny W.M A (exec (.Assign [.Attribute (.Name sx p1) attr p2] e pos) env) Q E' s := by
  refine plainObj_wpAny_Assign_Attribute (h A env Z s ρ α a R hE t.st.inv t.st.loc ha _ _ fun v s₂ Z₂ p₂ r₂ => ?_) (hsw env)
  have t2 := t.law (FStep.pure t.st.loc p₂)
  refine wpAny_Name (t2.st.loc.load hE hs (fun v' r' => ?_) hn) h1
  have : v' = .ref x := by
    have r'' : RepV Z₂ s₂.heap v' (.raw (.ref x)) := r'
    cases r''; rfl
  subst this
  obtain ⟨es, n, hd, re⟩ := t2.hd
  refine set_raw k t2.st.inv.kin t2.hx hd ht (re.no hno) (re.lacks hno) (by rw [re.length]; exact hz) fun h' n' hd' hoth => ?_
  have keep : ∀ b o, ¬ (b ∈ [dx]) → s₂.heap.get? b = some o → h'.get? b = some o := fun b o hb e => (hoth b (fun e' => hb (by rw [e']; exact List.mem_singleton_self _))).trans e
  have p₃ : Step W (.addrs (· ∈ [dx])) Z₂ s₂ Z₂ { s₂ with heap := h', toks := s₂.toks + 2 } := .writes t2.st.inv keep fun b hb => by rw [List.mem_singleton.mp hb]; exact ⟨t2.xb.1, t2.xb.2.1, t2.xz.2⟩
  have L3 : Loc W Z₂ h' env ρ α := t2.st.loc.step p₃ fun a ha => by rw [List.mem_singleton.mp ha]; exact ⟨t2.xf.2, t2.xz.2⟩
  have kz : ∀ a o, Z₂ a → s₂.heap.get? a = some o → h'.get? a = some o := fun a o z e => keep a o (fun hm => t2.xz.2 (List.mem_singleton.mp hm ▸ z)) e
  have hx' : h'.get? x = some (instObj C dx) := (hoth x t2.ne).trans t2.hx
  have I := p₃.inv
  have I' : Inv W (fun b => Z₂ b ∨ b = dx ∨ b = x) { s₂ with heap := h', toks := s₂.toks + 2 } := ⟨I.ok, I.base, I.xs, fun b z => by
      rcases z with z | rfl | rfl
      · exact I.zin b z
      · exact ⟨_, hd'⟩
      · exact ⟨_, hx'⟩, I.os, I.bare, fun b z => by
      rcases z with z | rfl | rfl
      · exact I.zx b z
      · exact t2.xb.2.1
      · exact t2.xb.2.2, fun b z => .inl (I.z0 b z), I.tk⟩
  have L4 : Loc W (fun b => Z₂ b ∨ b = dx ∨ b = x) h' env ρ α := L3.more (W₂ := W) rfl rfl (fun _ z => .inl z) fun b f z => by
    rcases z with z | rfl | rfl
    · exact L3.nz b f z
    · exact t2.xf.2 f
    · exact t2.xf.1 f
  have rep : RepV (fun b => Z₂ b ∨ b = dx ∨ b = x) h' (.ref x) (.inst C (fs ++ [(attr, a)])) :=
    .inst (.inr (.inr rfl)) (.inr (.inl rfl)) hx' hd' (RepEs.snoc (re.mono (fun _ z => .inl z) kz) (r₂.mono (fun _ z => .inl z) kz))
  refine q _ _ ⟨I', L4.retype hs rep, fun b o e => keep b o (fun hm => by rw [List.mem_singleton.mp hm, t2.xn] at e; cases e) (t2.st.keep b o e), fun b f => t2.st.own b ?_, t2.st.os⟩
  refine f.imp id (·.imp id fun ⟨y, l, e, h⟩ => ⟨y, l, ?_, h⟩)
  unfold Slots.set at e
  split at e
  · cases e
  · exact e
end
end Mine
end
section
open PySem PySem.W PyProof.Rows PySem.Calls
set_option linter.unusedVariables false
namespace Mine
theorem list_of_gen {prog : Program} {w : World} {A : Around} {Q : Value → Shared → Prop} {E' : Value → Shared → Prop} {I : Addr} {gi : Nat} {s : Shared} (hg : s.heap.IsGen I gi)
    (h : ∀ (h' : Heap) (c : Nat), h'.get? s.heap.objs.size = some { cls := .type "list", data := .seq #[] c } → (∀ b o, s.heap.get? b = some o → h'.get? b = some o) → codeAny (model prog w) A.in1 (.builtin "list.extend.loop" ⟨[.ref s.heap.objs.size, .ref I, .none], []⟩) (wants (fun r s₂ => r = .none ∧ Q (.ref s.heap.objs.size) s₂) E') { s with heap := h' }) :
    wpAny (model prog w) A (call (.type "list") [.ref I]) Q E' s := by
  obtain ⟨oI, nm, qn, hoI, hcI, rI⟩ := id hg
  have hne : I ≠ s.heap.objs.size := fun e => Nat.lt_irrefl _ (e ▸ Heap.lt_size hoI)
  refine callType_codes (Q₁ := fun obj s₁ => obj = .ref s.heap.objs.size ∧ s₁ = { s with heap := s.heap.push { cls := .type "list", data := .seq #[] } }) F.called_list (F.typeCall_list_1 _) F.entry_list_init
    (code_list_new _ ⟨rfl, rfl⟩) fun obj s₁ h₁ => ?_
  obtain ⟨rfl, rfl⟩ := h₁
  have hS : (s.heap.push { cls := .type "list", data := .seq #[] }).get? s.heap.objs.size = some { cls := .type "list", data := .seq #[] } := Heap.get?_push_size _ rfl
  refine ⟨⟨_, hS, rfl⟩, F.args_list_init_2 _ _, ?_⟩
  show wpAny _ A.in1.in1 (do let old ← Builtin.List.listItems (.ref s.heap.objs.size); Builtin.List.listUpdate (.ref s.heap.objs.size) (fun _ => #[]); letGo old.toList.reverse; Builtin.List.listExtendWith (.ref s.heap.objs.size) (.ref I) .none) _ _ _
  refine wpAny_bind ?_
  unfold Builtin.List.listItems
  refine wpAny_bind (wpAny_seqItems hS rfl (wpAny_pure ?_))
  show wpAny _ A.in1.in1 (updateSeq s.heap.objs.size (fun _ => #[]) >>= fun _ => letGo (#[] : Array Value).toList.reverse >>= fun _ => Builtin.List.listExtendWith (.ref s.heap.objs.size) (.ref I) .none) _ _ _
  refine wpAny_bind (wpAny_updateSeq hS rfl ?_)
  obtain ⟨n₂, hS₂⟩ := upd_plain hS (fun _ => (#[] : Array Value))
  generalize hH : (s.heap.push { cls := .type "list", data := .seq #[] }).update s.heap.objs.size (Obj.mapSeq (fun _ => (#[] : Array Value))) = H at hS₂ ⊢
  have oth : ∀ b o, s.heap.get? b = some o → H.get? b = some o :=
    fun b o e => by rw [← hH]; exact (Heap.get?_update_other _ _ (fun e' : s.heap.objs.size = b => Nat.lt_irrefl _ (e' ▸ Heap.lt_size e))).trans (Heap.get?_push_of_some _ e)
  refine wpAny_bind (wpAny_letGo ?_)
  have hS0 : s.heap.get? s.heap.objs.size = none := push_none _
  generalize s.heap.objs.size = S at *
  have hg₂ : ({ s with heap := H } : Shared).heap.IsGen I gi := ⟨oI, nm, qn, oth _ _ hoI, hcI, rI⟩
  unfold Builtin.List.listExtendWith
  refine wpAny_bind (wpAny_typeOf hg₂.typeIs ?_)
  have h1 : Builtin.List.listSameRef (.ref S) (.ref I) = false := by simp [Builtin.List.listSameRef, Ne.symm hne]
  have h2 : (Value.type "generator" == Value.type "list") = false := by decide
  have h3 : (Value.type "generator" == Value.type "tuple") = false := by decide
  simp only [h1, h2, h3, Bool.or_false, Bool.false_eq_true, if_false]
  refine wpAny_bind (wpAny_pyIter_gen hg₂ ?_)
  refine wpAny_bind (wpAny_holding ?_)
  unfold Builtin.List.listLengthHint
  refine wpAny_bind (wpAny_specialOf hg₂.typeIs F.gen_no_len ?_)
  show wpAny _ A.in1.in1 (specialOf (Value.ref I) (Str.ofString "__length_hint__") >>= _) _ _ _
  refine wpAny_bind (wpAny_specialOf hg₂.typeIs F.gen_no_hint ?_)
  refine wpAny_pure ?_
  show wpAny _ A.in1.in1 (rule "list.extend.makes-room" >>= fun _ => Builtin.List.listTouch (.ref S) >>= fun _ =>
    again (.builtin "list.extend.loop" ⟨[.ref S, .ref I, .none], []⟩)) _ _ _
  refine wpAny_bind (wpAny_rule ?_)
  refine wpAny_bind ?_
  show wpAny _ A.in1.in1 (updateSeq S (·.push .none) >>= fun _ => updateSeq S (·.pop)) _ _ _
  obtain ⟨n₃, hS₃⟩ := upd_plain hS₂ (·.push Value.none)
  refine wpAny_bind (wpAny_updateSeq hS₂ rfl ?_ (by decide) (by decide))
  refine wpAny_updateSeq hS₃ rfl ?_ (by decide) (by decide)
  obtain ⟨n₄, hS₄⟩ := upd_plain hS₃ (·.pop)
  refine wpAny_pure ⟨plainId_quiet F.plain_extend_loop _, h _ n₄ hS₄ fun b o e => ?_⟩
  have hb : S ≠ b := fun e' => by rw [← e', hS0] at e; cases e
  rw [Heap.get?_update_other _ _ hb, Heap.get?_update_other _ _ hb]
  exact oth b o e
section
variable {W : Wd} {Z Z' Z₁ Z₂ : AddrSet} {s s' s₁ s₂ : Shared} {env genv : Env} {sc : Scope} {ρ ρ' ρ₁ ρ₂ ρg ρg' : Slots} {α α' α₁ α₂ αg αg' : Str → Addr} {A : Around} {d dg : Nat} {J lr ga : Addr} {gi : Nat} {rows rem rem' P P' : List AV} {t : GText} {Rdy : Slots → Prop} {Pend : Slots → List AV → Prop} {rowI : AV → List AV} {okR : AV → Prop}
variable {T : AV → Slots → Option Slots} {ct : Slots → Option Bool} {f1 : Slots → Option AV} {FM : Slots → Option (AFlow × Slots)} {cw : Slots → Option Bool} {FP : Slots → Option (AFlow × Slots)} {f2 : Slots → Option AV}
noncomputable abbrev itObj (lr : Addr) : Obj := { cls := .type "list_iterator", data := .fields #[.ref lr, .int 0 0] }
theorem hold_new {gs : GenState} {vs : List Value} (I : Inv W Z s) (L : Loc W Z s.heap env ρ α) (hb : gs.bare = true) (z : Z lr) (hl : s.heap.IsList lr vs.toArray) (r : RepVs Z s.heap vs rows) :
    Hold W env s.heap.objs.size lr rows Z { s.setGen gi gs with heap := s.heap.push (itObj lr) } ρ α rows := by
  have hn : s.heap.get? s.heap.objs.size = none := push_none _
  have p : Step W .none Z s Z { s with heap := s.heap.push (itObj lr) } := .grow I (push_keep _ _) (tk := s.toks)
  have I2 : Inv W Z { s.setGen gi gs with heap := s.heap.push (itObj lr) } := (Inv.setGen (g := gi) (x := gs) p.inv hb)
  have L2 : Loc W Z (s.heap.push (itObj lr)) env ρ α := L.step0 p
  refine ⟨I2, L2, .inl ⟨0, ⟨_, Heap.get?_push_size _ rfl, rfl, rfl⟩, rfl⟩, z, ⟨vs, hl.at fun o e => push_keep _ _ _ _ e, r.mono (fun _ z => z) fun a o _ e => push_keep _ _ _ _ e⟩, I.fresh_z hn, ⟨I.fresh_b hn, I.fresh_x hn⟩, fun f => ?_⟩
  obtain ⟨o, e⟩ := L.alive f
  rw [hn] at e; cases e
theorem gen_first (D : GDen W d sc t T ct f1 FM cw FP f2) (G : GAbs T ct f1 FM cw FP f2 Rdy Pend rowI okR) (hE : EnvOk env sc) (R : Room A.in1 (d + 2)) (I : Inv W Z s) (L : Loc W Z s.heap env ρ α) (hg : s.heap.IsGen ga gi) (hgz : ¬ FOwn env ρ α ga) (hgs : s.gens[gi]? = some (.fresh (.func t.body env)))
    (hr : Rdy ρ) {x : Str} {xp : Pos} (hit : t.iter = .Name x xp) (hx : ρ x = some (.val (.lst rows))) (h1 : (x == ("__debug__" : Str)) = false) (hn : (x == ("__classdict__" : Str)) = false) (hok : ∀ row ∈ rows, okR row) {Q : Option Value → Shared → Prop} {E' : Value → Shared → Prop}
    (hY : ∀ lr it P' rem' v s' Z' ρ' α', nxtG rowI [] rows = some (it, P', rem') → RepV Z' s'.heap v it → GStep W env s.heap.objs.size gi Z s ρ α Z' s' ρ' α' → GenSt W d t env s.heap.objs.size lr rows Rdy Pend rowI okR ga gi Z' s' ρ' α' P' rem' → Q (some v) s')
    (hN : ∀ s' Z' ρ' α', nxtG rowI [] rows = none → GStep W env s.heap.objs.size gi Z s ρ α Z' s' ρ' α' → Q none s') : wpAny W.M A (pyNext (.ref ga)) Q E' s := by
  have hJ : s.heap.get? s.heap.objs.size = none := push_none _
  obtain ⟨og, nm, qn, hog, rg⟩ := id hg
  have hgJ : ga ≠ s.heap.objs.size := fun e => by rw [e, hJ] at hog; cases hog
  have gst : ∀ {lr : Addr} {s' : Shared} {Z' : AddrSet} {ρ' : Slots} {α' : Str → Addr} {rem' : List AV} {x : GenState}, HStep W env s.heap.objs.size Z { s.setGen gi .running with heap := s.heap.push (itObj lr) } ρ α Z' s' ρ' α' → Hold W env s.heap.objs.size lr rows Z' s' ρ' α' rem' → x.bare = true → GStep W env s.heap.objs.size gi Z s ρ α Z' (s'.setGen gi x) ρ' α' := fun {lr s' Z' ρ' α' rem' x} q k' hb => by
    have back : ∀ a, ({ s.setGen gi .running with heap := s.heap.push (itObj lr) } : Shared).heap.get? a = none → s.heap.get? a = none := fun a h => by
      cases e : s.heap.get? a with
      | none => rfl
      | some o => rw [show ({ s.setGen gi .running with heap := s.heap.push (itObj lr) } : Shared).heap.get? a = some o from push_keep _ _ _ _ e] at h; cases h
    refine ⟨⟨k'.inv.setGen hb, fun b o hb e => q.step.keep b o hb (push_keep _ _ _ _ e), q.step.zsub, fun a z => (q.step.znew a z).imp id (·.imp id (back a)), fun i y hi e => ?_⟩, fun a f => (q.fo a f).imp id (back a)⟩
    exact setGen_other hi (q.step.gens i y id (setGen_other hi e))
  refine pyNext_gen1 (Φ := fun e s' => ∃ lr, Out W t env s.heap.objs.size lr rows Rdy Pend rowI Z { s.setGen gi .running with heap := s.heap.push (itObj lr) } ρ α [] rows e s') R.handled I.nolimit (by have := R.depth; show A.depth < recursionLimit; have : A.in1.depth = A.depth := rfl; (first | lia | omega)) hg hgs ?_ (fun e s₁ ⟨lr, o⟩ => ?_) (fun v gg l kk c p fs s₁ ⟨lr, o⟩ => ?_) fun r s₁ ⟨lr, o⟩ => ?_
  · show Sg W.M A.in1 _ (.func t.body env) (W.M.den (.func t.body env)) [] (s.setGen gi .running)
    refine sg_func (sg_execs_cons (sg_For ?_ (fun v => by rw [hit]; rfl)))
    rw [hit]
    refine wpAny_Name (Loc.load (s := s.setGen gi .running) L hE hx (fun v r => ?_) hn) h1
    obtain ⟨lr, vs, rfl, z, hl, rs⟩ := RepV.lst' (show RepV Z s.heap v (.lst rows) from r)
    refine wpAny_pyIter_list (s := s.setGen gi .running) hl fun p => ?_
    exact sg_for1 D G hE R (hold_new I L rfl z hl rs) hr hok fun e s' o => ⟨lr, o⟩
  · cases e with
    | ret r => rfl
    | susp v g l kk c p fs => exact o.1
  · obtain ⟨h0, it, P', rem', Z', ρ', α', h1, h2, h3, h4, h5⟩ := o
    have hl := live_susp (lr := lr) (rows := rows) (l := l) (p := p) (cl := (gg || fs.any Frame.guarded)) D G hE (by
      have : (!(gg || fs.any Frame.guarded)) = true := h0
      simpa using this) h5
    have hg' := gst h3 h4 (PySem.End.bare_of_quiet h0)
    refine hY lr it P' rem' v _ Z' ρ' α' h1 h2 hg' ⟨h4.setGen (PySem.End.bare_of_quiet h0), ⟨og, nm, qn, h3.step.keep ga og (fun h => h.elim hgz fun e => hgJ e) (push_keep _ _ _ _ hog), rg⟩, ⟨fun f => ?_, hgJ⟩, nxtG_ok h1 hok, ⟨_, ?_, hl⟩⟩
    · rcases hg'.fo ga f with h | h
      · exact hgz h
      · rw [hog] at h; cases h
    · have hg1 : (s.setGen gi .running).gens[gi]? = some .running := setGen_self hgs
      exact setGen_self (h3.step.gens gi _ id hg1)
  · obtain ⟨h0, h1, Z', ρ', α', h3, h4⟩ := o
    refine ⟨h0, fun h' hk => hN _ Z' ρ' α' h1 ?_⟩
    obtain ⟨st, fo⟩ := gst (x := .finished) h3 h4 rfl
    have p2 : Step W .none Z' (s₁.setGen gi .finished) Z' { s₁.setGen gi .finished with heap := h' } := .grow st.inv (tk := s₁.toks) hk
    exact ⟨st.trans p2 (fun _ h => h.elim) (fun _ h => h.elim), fo⟩
end
end Mine
end
section
open PySem PySem.W PyProof.Rows PySem.Calls
set_option linter.unusedVariables false
namespace Mine
section
variable {W : Wd} {Z Z' Z₁ Z₂ Z₃ : AddrSet} {s s' s₁ s₂ s₃ : Shared} {env genv : Env} {sc : Scope} {ρ ρ' ρ₁ ρ₂ ρg ρg' : Slots} {α α' α₁ α₂ αg αg' : Str → Addr} {A : Around} {d dg : Nat} {J lr ga S : Addr} {gi : Nat} {rows rem rem' P P' : List AV} {t : GText} {Rdy : Slots → Prop} {Pend : Slots → List AV → Prop} {rowI : AV → List AV} {okR : AV → Prop}
variable {T : AV → Slots → Option Slots} {ct : Slots → Option Bool} {f1 : Slots → Option AV} {FM : Slots → Option (AFlow × Slots)} {cw : Slots → Option Bool} {FP : Slots → Option (AFlow × Slots)} {f2 : Slots → Option AV}
theorem nxt_all (hr : ∀ row ∈ rem, ∃ it P, rowI row = it :: P) : (∀ it P' rem', nxtG rowI P rem = some (it, P', rem') → P ++ rem.flatMap rowI = it :: (P' ++ rem'.flatMap rowI)) ∧ (nxtG rowI P rem = none → P ++ rem.flatMap rowI = []) := by
  cases P with
  | cons a P => exact ⟨fun it P' rem' h => (by cases h; rfl), fun h => (by cases h)⟩
  | nil =>
    cases rem with
    | nil => exact ⟨fun _ _ _ h => (by cases h), fun _ => rfl⟩
    | cons row rem =>
      obtain ⟨it₀, P₀, e⟩ := hr row List.mem_cons_self
      have h0 : nxtG rowI [] (row :: rem) = some (it₀, P₀, rem) := by show (match rowI row with | it :: P => some (it, P, rem) | [] => none) = _; rw [e]
      refine ⟨fun it P' rem' h => ?_, fun h => by rw [h0] at h; cases h⟩
      rw [h0] at h; cases h
      rw [List.flatMap_cons, e]; rfl
structure TabL (W : Wd) (Z₀ : AddrSet) (o : Shared) (ga S : Addr) (Z : AddrSet) (s : Shared) (vs : List Value) (l : List AV) : Prop where
  step : Step W .none Z₀ o Z s
  lst : s.heap.PlainList S vs.toArray
  rep : RepVs Z s.heap vs l
  sz : ¬ Z S
  so : o.heap.get? S = none
  sg : S ≠ ga
theorem TabL.push {Z₀ : AddrSet} {o : Shared} {vs : List Value} {l : List AV} {v : Value} {it : AV} {c : Nat} (I₀ : Inv W Z₀ o) (k : TabL W Z₀ o ga S Z s vs l) (hc : s.heap.get? S = some { cls := .type "list", data := .seq vs.toArray c }) (r : RepV Z s.heap v it) :
    TabL W Z₀ o ga S Z { s with heap := s.heap.update S (Obj.mapSeq (·.push v)) } (vs ++ [v]) (l ++ [it]) ∧ Step W (.addrs (· ∈ [S])) Z s Z { s with heap := s.heap.update S (Obj.mapSeq (·.push v)) } := by
  have p : Step W (.addrs (· ∈ [S])) Z s Z { s with heap := s.heap.update S (Obj.mapSeq (·.push v)) } := .writes (tk := s.toks) k.step.inv (fun b o hb e => (Heap.SameBut.update ..).extBut b o (by simpa using hb) e) fun b hb => by rw [List.mem_singleton.mp hb]; exact ⟨I₀.fresh_b k.so, I₀.fresh_x k.so, k.sz⟩
  have up := upd_plain hc (·.push v)
  refine ⟨⟨k.step.trans p (fun a h => .inr (List.mem_singleton.mp h ▸ k.so)) (fun _ h => h.elim), by simpa using up, ?_, k.sz, k.so, k.sg⟩, p⟩
  exact p.reps (fun a z h => k.sz (List.mem_singleton.mp h ▸ z)) (k.rep.snoc r)
theorem TabL.woken {Z₀ : AddrSet} {o : Shared} {vs : List Value} {l : List AV} (k : TabL W Z₀ o ga S Z s vs l) (q : GStep W genv J gi Z s ρg αg Z' s' ρg' αg') (hf : ∀ a, FOwn genv ρg αg a ∨ a = J → o.heap.get? a = none ∨ s.heap.get? a = none) (nf : ∀ a, Z a → ¬ (FOwn genv ρg αg a ∨ a = J)) (sf : ¬ (FOwn genv ρg αg S ∨ S = J)) (hg : o.gens[gi]? = none) :
    TabL W Z₀ o ga S Z' s' vs l := by
  obtain ⟨c, hc⟩ := k.lst
  refine ⟨k.step.trans q.step (fun a h => ?_) (fun i h => .inr (h ▸ hg)), ⟨c, q.step.keep _ _ sf hc⟩, q.step.reps (fun a z h => nf a z h) k.rep, q.step.nz k.sz sf hc, k.so, k.sg⟩
  rcases hf a h with h' | h'
  · exact .inr h'
  · refine .inr ?_
    cases e : o.heap.get? a with
    | none => rfl
    | some x => rw [k.step.keep a x (fun h => h) e] at h'; cases h'
theorem gives_table {mth : Str} {oe re : Expr} {np apos mpos cpos ip : Pos} {f g : Slots → Option AV} {C m : Addr} {fl : List (Str × AV)} {fd : FuncData} {n1 n2 : Str}
    (Dn : GDen W dg fd.scope t T ct f1 FM cw FP f2) (G : GAbs T ct f1 FM cw FP f2 Rdy Pend rowI okR) (hne : ∀ row, okR row → ∃ it P, rowI row = it :: P)
    (R : Room A d) (hroom : A.depth < recursionLimit) (Rg : Room A (dg + 6)) (hE : EnvOk env sc) (hglob : W.Glob "list" (.type "list")) (hkn : sc.names.lookup ("list" : Str) = some .globalImplicit)
    (ho : DenP W d sc oe f) (hov : f ρ = some (.inst C fl)) (hlk : fl.lookup mth = none) (hre : DenP W d sc re g) (hrv : g ρ = some (.lst rows))
    (hse : ∀ env, starEach [re] env = [(false, eval re env)]) (hse2 : ∀ env, starEach [.Call (.Attribute oe mth apos) [re] [] mpos] env = [(false, eval (.Call (.Attribute oe mth apos) [re] [] mpos) env)])
    (hg : plainGet W.K C mth = true) (hfi : findIn W.K (.ref C) mth = some (some (.ref m))) (hfn : isFn W.K (.ref m) = true) (hko : KeepOk W (.ref m))
    (pl : Env → Value → Sem Bool) (he : ∀ env, eval (.Call (.Attribute oe mth apos) [re] [] mpos) env = (do
      let ov ← eval oe env
      standAt apos.atName
      let (f, first) ← holding [ov] (getMethod ov mth (pl env ov))
      callWith mpos f first (backTo mpos (starEach [re] env)) []))
    (hkf : ∃ o, W.K.lookup m = some o ∧ o.data = .func fd) (hbody : fd.body = .stmts t.body) (hcode : codeIn W.K fd.code fd.qualname = true) (hgl : fd.globals = mainGlobals) (hbl : fd.builtins = builtinsNs) (hclo : fd.closure = [])
    (hnf : ∀ x, fd.scope.names.lookup x ≠ some .free) (hkd : fd.scope.kind = .function) (hco : fd.scope.isCoroutine = false) (hgen : fd.scope.isGenerator = true) (hns : fd.scope.names.lookup frz ≠ some .cell) (hbind : ∀ a b, bindArgs fd ⟨[a, b], []⟩ = pure ([n1, n2].zip [a, b])) (hl : ∀ x ∈ [n1, n2], fd.scope.names.lookup x = some .local ∨ fd.scope.names.lookup x = some .cell)
    (hit : t.iter = .Name n2 ip) (hd1 : (n2 == ("__debug__" : Str)) = false) (hd2 : (n2 == ("__classdict__" : Str)) = false)
    (I : Inv W Z s) (L : Loc W Z s.heap env ρ α) (hr : Rdy (bindA [n1, n2] [.inst C fl, .lst rows])) (hok : ∀ row ∈ rows, okR row) (hz : (rows.flatMap rowI).length ≤ 1000000) :
    Gives W A Z s (eval (.Call (.Name "list" np) [.Call (.Attribute oe mth apos) [re] [] mpos] [] cpos) env) (.lst (rows.flatMap rowI)) := by
  intro Q E' q
  have hstar : ∀ (e : Expr), (∀ env, starEach [e] env = [(false, eval e env)]) → ∀ env pos, (backTo pos (starEach [e] env)).any (·.1) = false := fun e h env pos => by rw [h]; rfl
  show wpAny _ _ (do callWith cpos (← eval (.Name "list" np) env) [] (backTo cpos (starEach [_] env)) (backToKw cpos (keywordEach [] env))) _ _ _
  refine wpAny_bind (load_glob hE I hglob hkn (by decide) ?_)
  refine callWith_of (P := W.K.In) (by rw [hstar _ hse2]; rfl) (keep_type "list") (evalArgs_ns (hstar _ hse2 _ _) (wpAny_items_cons ?_ (hse2 env)))
  rw [he env]
  refine wpAny_bind (ho A env Z s ρ α _ R hE I L hov _ _ fun v s₂ Z₂ p₂ r₂ => ?_)
  have r' := r₂
  cases r' with | inst z1 z2 o1 o2 rs =>
  rename_i x' dx ess n
  refine wpAny_bind (wpAny_standAt (wpAny_bind (wpAny_holding (method_fn p₂.inv.kin (od := some (dictOf ess n)) ⟨o1, rfl, rfl, o2⟩ (plainGet_of hg).1 (plainGet_of hg).2 hfi (beq_iff_eq.mp hfn) (by
    show (lookIn mth (dictOf ess n)).map _ = _
    rw [lookIn_dict, rs.no hlk]; rfl) ?_))))
  refine callWith_den (first := [.ref x']) (l := [.lst rows]) (fs := fun ρ => g ρ >>= fun a => some [a]) hko (denPs_cons hre denPs_nil hse) (hstar _ hse) R hE p₂.inv (L.step0 p₂) (by
      show (g ρ >>= fun a => some [a]) = _
      rw [hrv]; rfl) fun vs s₃ Z₃ p₃ r₃ => ?_
  obtain ⟨v₆, rfl, rv₆⟩ := r₃.one
  have I₃ := p₃.inv
  refine call_genfn (names := [n1, n2]) (args := [.inst C fl, .lst rows]) hroom I₃ hkf hbody hcode hgl hbl hclo hnf hkd hco hgen hns (hbind _ _) hl (.cons (p₃.rep0 r₂) (.cons rv₆ .nil)) fun genv s₄ Z₄ ga hEg p₄ Lg hga hgs hfo hgan => ?_
  refine wpAny_items_nil ⟨p₄.inv.kin, ?_⟩
  show wpAny W.M A (call (.type "list") [.ref ga]) Q E' s₄
  refine list_of_gen hga fun h' c hc hold => ?_
  have hS4 : s₄.heap.get? s₄.heap.objs.size = none := push_none _
  have hS3 : s₃.heap.get? s₄.heap.objs.size = none := by
    cases e : s₃.heap.get? s₄.heap.objs.size with
    | none => rfl
    | some o => rw [p₄.keep _ o (fun h => h) e] at hS4; cases hS4
  have p₅ : Step W .none Z₄ s₄ Z₄ { s₄ with heap := h' } := .grow p₄.inv hold (tk := s₄.toks)
  have hSg : s₄.heap.objs.size ≠ ga := fun e => by obtain ⟨o, _, _, h', _⟩ := id hga; rw [← e, hS4] at h'; cases h'
  have hgi : s₃.gens[s₃.gens.size]? = none := by simp
  generalize hSe : s₄.heap.objs.size = S at *
  generalize hgie : s₃.gens.size = gi at *
  have hx : (bindA [n1, n2] [.inst C fl, .lst rows]) n2 = some (.val (.lst rows)) := by
    show Option.map _ (List.lookup n2 [(n2, AV.lst rows), (n1, AV.inst C fl)]) = _
    rw [List.lookup, beq_self_eq_true]; rfl
  generalize hρg : bindA [n1, n2] [.inst C fl, .lst rows] = ρg₀ at *
  obtain ⟨og, nm, qn, hog, rg⟩ := id hga
  have tl₀ : TabL W Z₃ s₃ ga S Z₄ { s₄ with heap := h' } [] [] := ⟨p₄.tr p₅, ⟨c, hc⟩, .nil, p₄.inv.fresh_z hS4, hS3, hSg⟩
  have fin : ∀ (st : Shared) (Z' : AddrSet) (vs : List Value), TabL W Z₃ s₃ ga S Z' st vs (rows.flatMap rowI) → Q (.ref S) st := fun st Z' vs k => by
    obtain ⟨cc, hcc⟩ := k.lst
    have I' := k.step.inv
    have p₆ : Step W .none Z₃ s₃ (fun b => Z' b ∨ b = S) st := ⟨⟨I'.ok, I'.base, I'.xs, fun b z => z.elim (I'.zin b) fun e => ⟨_, e ▸ hcc⟩, I'.os, I'.bare, fun b z => z.elim (I'.zx b) fun e => e ▸ I₃.fresh_x hS3, fun b z => .inl (I'.z0 b z), I'.tk⟩, k.step.keep, fun b z => .inl (k.step.zsub b z), fun b z => z.elim (k.step.znew b) fun e => .inr (.inr (e ▸ hS3)), k.step.gens⟩
    exact q _ _ _ ((p₂.tr p₃).tr p₆) (.lst (.inr rfl) ⟨_, hcc, rfl, rfl, cc, rfl⟩ (k.rep.mono (fun _ z => .inl z) fun _ _ _ e => e))
  refine extend_loop (V := fun n acc st => ∃ vs l Z', acc = vs.toArray ∧ TabL W Z₃ s₃ ga S Z' st vs l ∧
      ((l = [] ∧ n = (rows.flatMap rowI).length ∧ Loc W Z' st.heap genv ρg₀ (fun _ => 0) ∧ st.heap.IsGen ga gi ∧ st.gens[gi]? = some (.fresh (.func t.body genv)) ∧ ¬ FOwn genv ρg₀ (fun _ => 0) S ∧ ∀ a, FOwn genv ρg₀ (fun _ => 0) a → s₃.heap.get? a = none) ∨
        ∃ J lr ρg αg P rem, GenSt W dg t genv J lr rows Rdy Pend rowI okR ga gi Z' st ρg αg P rem ∧ (∀ a, FOwn genv ρg αg a ∨ a = J → s₃.heap.get? a = none) ∧ ¬ (FOwn genv ρg αg S ∨ S = J) ∧ l ++ (P ++ rem.flatMap rowI) = rows.flatMap rowI ∧ n = (P ++ rem.flatMap rowI).length)) ?_ (rows.flatMap rowI).length #[] _ ⟨[], [], Z₄, rfl, tl₀, .inl ⟨rfl, rfl, Lg.step0 p₅, ⟨og, nm, qn, hold _ _ hog, rg⟩, hgs, fun f => ?_, fun a f => (hfo a f).1⟩⟩
  · rintro n acc st ⟨vs, l, Z', rfl, k, hcase⟩
    have Rn : Room A.in1.in1.in1 (dg + 2) := ⟨Rg.handled, by have := Rg.depth; show A.depth + 2 * (dg + 2) + 10 < recursionLimit; (first | lia | omega), by have := Rg.units; show A.units + 1 + 1 + 1 + 30 * (dg + 2) + 100 < cLine; (first | lia | omega)⟩
    have hvs : vs.length = l.length := k.rep.length
    rcases hcase with ⟨rfl, hn, Lg', hga', hgs', hSf, hnew⟩ | ⟨J, lr, ρg, αg, P, rem, gst, hnew, hSf, hall, hn⟩
    · have hJ : st.heap.get? st.heap.objs.size = none := push_none _
      obtain ⟨cS, hcS⟩ := k.lst
      have hSJ : S ≠ st.heap.objs.size := fun e => by rw [e, hJ] at hcS; cases hcS
      have sf : ¬ (FOwn genv ρg₀ (fun _ => 0) S ∨ S = st.heap.objs.size) := fun h => h.elim hSf hSJ
      have hJ3 : s₃.heap.get? st.heap.objs.size = none := by
        cases e : s₃.heap.get? st.heap.objs.size with
        | none => rfl
        | some o => rw [k.step.keep _ o (fun h => h) e] at hJ; cases hJ
      have hf : ∀ a, FOwn genv ρg₀ (fun _ => 0) a ∨ a = st.heap.objs.size → s₃.heap.get? a = none := fun a h => h.elim (hnew a) fun e => e ▸ hJ3
      have nf : ∀ a, Z' a → ¬ (FOwn genv ρg₀ (fun _ => 0) a ∨ a = st.heap.objs.size) := fun a z h => h.elim (fun f => Lg'.nz a f z) fun e => k.step.inv.fresh_z hJ (e ▸ z)
      have next := nxt_all (P := []) (rowI := rowI) (rem := rows) fun row hr => hne row (hok row hr)
      refine gen_first Dn G hEg Rn k.step.inv Lg' hga' (fun f => by obtain ⟨o, _, _, ho, _⟩ := id hga'; exact (hfo ga f).2 rfl) hgs' hr hit hx hd1 hd2 hok (fun lr it P' rem' v s₅ Z₅ ρ₅ α₅ hnx rv gs g' => ?_) fun s₅ Z₅ ρ₅ α₅ hnx gs => ?_
      · have k5 := k.woken gs (fun a h => .inl (hf a h)) nf sf hgi
        obtain ⟨c5, hc5⟩ := k5.lst
        obtain ⟨k6, p6⟩ := k5.push I₃ hc5 rv
        have e0 := next.1 it P' rem' hnx
        have e1 : rows.flatMap rowI = it :: (P' ++ rem'.flatMap rowI) := e0
        have hlv : vs.length = 0 := hvs
        have fo5 : ∀ a, FOwn genv ρ₅ α₅ a ∨ a = st.heap.objs.size → s₃.heap.get? a = none := fun a h => by
          rcases h with h | h
          · rcases gs.fo a h with h | h
            · exact hnew a h
            · cases e : s₃.heap.get? a with
              | none => rfl
              | some o => rw [k.step.keep a o (fun h => h) e] at h; cases h
          · exact h ▸ hJ3
        have sf5 : ¬ (FOwn genv ρ₅ α₅ S ∨ S = st.heap.objs.size) := fun h => by
          rcases h with h | h
          · rcases gs.fo S h with h | h
            · exact hSf h
            · rw [hcS] at h; cases h
          · exact hSJ h
        refine ⟨c5, hc5, by rw [List.size_toArray]; (first | lia | omega), (P' ++ rem'.flatMap rowI).length, by rw [hn, e1]; simp, vs ++ [v], [] ++ [it], Z₅, by simp, k6, .inr ⟨_, lr, ρ₅, α₅, P', rem', ?_, fo5, sf5, by rw [e1]; rfl, rfl⟩⟩
        exact g'.other p6 (fun a ha => by rw [List.mem_singleton.mp ha]; exact ⟨fun f => sf5 (.inl f), k5.sz, hSJ, k5.sg⟩) id
      · have k5 := k.woken gs (fun a h => .inl (hf a h)) nf sf hgi
        have e0 : rows.flatMap rowI = [] := next.2 hnx
        refine ⟨rfl, fin _ Z₅ vs ?_⟩
        rw [e0]; exact k5
    · obtain ⟨cS, hcS⟩ := k.lst
      have nf : ∀ a, Z' a → ¬ (FOwn genv ρg αg a ∨ a = J) := fun a z h => h.elim (fun f => gst.hold.loc.nz a f z) fun e => gst.hold.jz (e ▸ z)
      have next := nxt_all (P := P) (rowI := rowI) (rem := rem) fun row hr => hne row (gst.ok row hr)
      refine gen_pyNext Dn G hEg Rn gst (fun it P' rem' v s₅ Z₅ ρ₅ α₅ hnx rv gs g' => ?_) fun s₅ Z₅ ρ₅ α₅ hnx gs => ?_
      · have k5 := k.woken gs (fun a h => .inl (hnew a h)) nf hSf hgi
        obtain ⟨c5, hc5⟩ := k5.lst
        obtain ⟨k6, p6⟩ := k5.push I₃ hc5 rv
        have e1 := next.1 it P' rem' hnx
        have hlen : l.length + (P ++ rem.flatMap rowI).length = (rows.flatMap rowI).length := by rw [← List.length_append, hall]
        have fo5 : ∀ a, FOwn genv ρ₅ α₅ a ∨ a = J → s₃.heap.get? a = none := fun a h => by
          rcases h with h | h
          · rcases gs.fo a h with h | h
            · exact hnew a (.inl h)
            · cases e : s₃.heap.get? a with
              | none => rfl
              | some o => rw [k.step.keep a o (fun h => h) e] at h; cases h
          · exact hnew a (.inr h)
        have sf5 : ¬ (FOwn genv ρ₅ α₅ S ∨ S = J) := fun h => by
          rcases h with h | h
          · rcases gs.fo S h with h | h
            · exact hSf (.inl h)
            · rw [hcS] at h; cases h
          · exact hSf (.inr h)
        refine ⟨c5, hc5, by rw [List.size_toArray]; (first | lia | omega), (P' ++ rem'.flatMap rowI).length, by rw [hn, e1]; simp, vs ++ [v], l ++ [it], Z₅, by simp, k6, .inr ⟨J, lr, ρ₅, α₅, P', rem', ?_, fo5, sf5, by rw [← hall, e1, List.append_assoc]; rfl, rfl⟩⟩
        exact g'.other p6 (fun a ha => by rw [List.mem_singleton.mp ha]; exact ⟨fun f => sf5 (.inl f), k5.sz, fun e => sf5 (.inr e), k5.sg⟩) id
      · have k5 := k.woken gs (fun a h => .inl (hnew a h)) nf hSf hgi
        have e0 := next.2 hnx
        refine ⟨rfl, fin _ Z₅ vs ?_⟩
        rw [e0, List.append_nil] at hall
        rw [← hall]; exact k5
  · obtain ⟨o, e⟩ := Lg.alive f
    rw [hS4] at e; cases e
end
end Mine
end
section
set_option maxRecDepth 100000
namespace Mine
noncomputable def W03 (w : World) (h₀ : Heap) (mg mb : Str → Option Value) (os : OsState) (X Z₀ : AddrSet) : Wd := ⟨P03, w, kk w.params, h₀, mg, mb, os, X, Z₀⟩
noncomputable def bdLaw : List Stmt := bodyOf (stAt P03 10)
noncomputable def scLaw : Scope := scopeOf (stAt P03 10)
noncomputable def bdPre : List Stmt := bdLaw.take 5
noncomputable def bdPost : List Stmt := bdLaw.drop 8
noncomputable def bdConv : List Stmt := bodyOf (inBody (stAt P03 7) 13)
noncomputable def scConv : Scope := scopeOf (inBody (stAt P03 7) 13)
noncomputable def bdLink : List Stmt := bodyOf (stAt P03 9)
noncomputable def scLink : Scope := scopeOf (stAt P03 9)
noncomputable def tx03a : Expr := match bdLaw.getD 6 (.Pass ⟨0, 0, 0, 0⟩) with
  | .Assign _ e _ => e
  | _ => .Constant .none 0 ⟨0, 0, 0, 0⟩
noncomputable def bdSplit : List Stmt := bodyOf (inBody (stAt P03 7) 8)
noncomputable def scSplit : Scope := scopeOf (inBody (stAt P03 7) 8)
noncomputable def bdGen : List Stmt := bodyOf (inBody (stAt P03 7) 9)
noncomputable def scGen : Scope := scopeOf (inBody (stAt P03 7) 9)
noncomputable def bdInit : List Stmt := bodyOf (inBody (stAt P03 7) 5)
noncomputable def scInit : Scope := scopeOf (inBody (stAt P03 7) 5)
noncomputable def tx03 : GText := match bdGen with
  | [.For (.Tuple elts tk tpos) iter (.If test [.Expr (.Yield (some y1) q1) q2, .Continue q3] _ q4 :: s1 :: s2 :: s3 :: s4 :: [.While wtest (p1 :: p2 :: [.Expr (.Yield (some y2) r1) r2]) _ r3]) _ fpos] =>
    { elts := elts, tk := tk, tpos := tpos, iter := iter, test := test, y1 := y1, q1 := q1, q2 := q2, q3 := q3, q4 := q4, mid := [s1, s2, s3, s4], wtest := wtest, pop := [p1, p2], y2 := y2, r1 := r1, r2 := r2, r3 := r3, fpos := fpos }
  | _ => { elts := [], tk := 0, tpos := ⟨0, 0, 0, 0⟩, iter := .Constant .none 0 ⟨0, 0, 0, 0⟩, test := .Constant .none 0 ⟨0, 0, 0, 0⟩, y1 := .Constant .none 0 ⟨0, 0, 0, 0⟩, q1 := ⟨0, 0, 0, 0⟩, q2 := ⟨0, 0, 0, 0⟩, q3 := ⟨0, 0, 0, 0⟩, q4 := ⟨0, 0, 0, 0⟩, mid := [], wtest := .Constant .none 0 ⟨0, 0, 0, 0⟩, pop := [], y2 := .Constant .none 0 ⟨0, 0, 0, 0⟩, r1 := ⟨0, 0, 0, 0⟩, r2 := ⟨0, 0, 0, 0⟩, r3 := ⟨0, 0, 0, 0⟩, fpos := ⟨0, 0, 0, 0⟩ }
theorem gen_text : bdGen = tx03.body := by kernel_rfl
section
variable {w : World} {h₀ : Heap} {mg mb : Str → Option Value} {os : OsState} {X Z₀ : AddrSet}
theorem gl_len : (W03 w h₀ mg mb os X Z₀).Glob "len" (.builtin "len") := .inr ⟨by kernel_rfl, by kernel_rfl, by decide⟩
theorem gl_max : (W03 w h₀ mg mb os X Z₀).Glob "max" (.builtin "max") := .inr ⟨by kernel_rfl, by kernel_rfl, by decide⟩
theorem gl_range : (W03 w h₀ mg mb os X Z₀).Glob "range" (.type "range") := .inr ⟨by kernel_rfl, by kernel_rfl, by decide⟩
theorem gl_list : (W03 w h₀ mg mb os X Z₀).Glob "list" (.type "list") := .inr ⟨by kernel_rfl, by kernel_rfl, by decide⟩
theorem gl_diff : (W03 w h₀ mg mb os X Z₀).Glob "HtmlDiff" (.ref 113) := .inl (by kernel_rfl)
theorem at_wrap : plainGet (W03 w h₀ mg mb os X Z₀).K 113 "_wrapcolumn" = true := by kernel_rfl
theorem at_dict : hasDictIn (W03 w h₀ mg mb os X Z₀).K 113 = true := by kernel_rfl
theorem at_find : findIn (W03 w h₀ mg mb os X Z₀).K (.ref 113) "_wrapcolumn" = some none := by kernel_rfl
theorem me_get : plainGet (W03 w h₀ mg mb os X Z₀).K 113 "_split_line" = true := by kernel_rfl
theorem me_find : findIn (W03 w h₀ mg mb os X Z₀).K (.ref 113) "_split_line" = some (some (.ref 67)) := by kernel_rfl
theorem me_fn : isFn (W03 w h₀ mg mb os X Z₀).K (.ref 67) = true := by kernel_rfl
theorem me_keep : KeepOk (W03 w h₀ mg mb os X Z₀) (.ref 67) := keep_K (by kernel_rfl)
theorem mg_get : plainGet (W03 w h₀ mg mb os X Z₀).K 113 "_line_wrapper" = true := by kernel_rfl
theorem mg_find : findIn (W03 w h₀ mg mb os X Z₀).K (.ref 113) "_line_wrapper" = some (some (.ref 74)) := by kernel_rfl
theorem mg_fn : isFn (W03 w h₀ mg mb os X Z₀).K (.ref 74) = true := by kernel_rfl
theorem mg_keep : KeepOk (W03 w h₀ mg mb os X Z₀) (.ref 74) := keep_K (by kernel_rfl)
theorem ke_diff : KeepOk (W03 w h₀ mg mb os X Z₀) (.ref 113) := keep_K (by kernel_rfl)
theorem has_split : (fdAt (W03 w h₀ mg mb os X Z₀).K 67).isSome = true := by kernel_rfl
theorem has_gen : (fdAt (W03 w h₀ mg mb os X Z₀).K 74).isSome = true := by kernel_rfl
theorem has_init : (fdAt (W03 w h₀ mg mb os X Z₀).K 44).isSome = true := by kernel_rfl
theorem fn_split : FnK (W03 w h₀ mg mb os X Z₀) 67 (fdK (W03 w h₀ mg mb os X Z₀).K 67 has_split) bdSplit := fnk_of has_split (by kernel_rfl) (by kernel_rfl) (by kernel_rfl) (by kernel_rfl) (by kernel_rfl) (by kernel_rfl) (by kernel_rfl) (by kernel_rfl) (by kernel_rfl)
theorem fn_init : FnK (W03 w h₀ mg mb os X Z₀) 44 (fdK (W03 w h₀ mg mb os X Z₀).K 44 has_init) bdInit := fnk_of has_init (by kernel_rfl) (by kernel_rfl) (by kernel_rfl) (by kernel_rfl) (by kernel_rfl) (by kernel_rfl) (by kernel_rfl) (by kernel_rfl) (by kernel_rfl)
theorem sc_split : (fdK (W03 w h₀ mg mb os X Z₀).K 67 has_split).scope = scSplit := by kernel_rfl
theorem sc_gen : (fdK (W03 w h₀ mg mb os X Z₀).K 74 has_gen).scope = scGen := by kernel_rfl
theorem sc_init : (fdK (W03 w h₀ mg mb os X Z₀).K 44 has_init).scope = scInit := by kernel_rfl
theorem gl_abs : (W03 w h₀ mg mb os X Z₀).Glob "abs" (.builtin "abs") := .inr ⟨by kernel_rfl, by kernel_rfl, by decide⟩
theorem gl_str : (W03 w h₀ mg mb os X Z₀).Glob "str" (.type "str") := .inr ⟨by kernel_rfl, by kernel_rfl, by decide⟩
theorem gl_enum : (W03 w h₀ mg mb os X Z₀).Glob "enumerate" (.type "enumerate") := .inr ⟨by kernel_rfl, by kernel_rfl, by decide⟩
theorem gl_link : (W03 w h₀ mg mb os X Z₀).Glob "_law_link" (.ref 124) := .inl (by kernel_rfl)
theorem ke_link : KeepOk (W03 w h₀ mg mb os X Z₀) (.ref 124) := keep_K (by kernel_rfl)
theorem at_pref : plainGet (W03 w h₀ mg mb os X Z₀).K 113 "_prefix" = true := by kernel_rfl
theorem at_findp : findIn (W03 w h₀ mg mb os X Z₀).K (.ref 113) "_prefix" = some none := by kernel_rfl
theorem mc_get : plainGet (W03 w h₀ mg mb os X Z₀).K 113 "_convert_flags" = true := by kernel_rfl
theorem mc_find : findIn (W03 w h₀ mg mb os X Z₀).K (.ref 113) "_convert_flags" = some (some (.ref 102)) := by kernel_rfl
theorem mc_fn : isFn (W03 w h₀ mg mb os X Z₀).K (.ref 102) = true := by kernel_rfl
theorem mc_keep : KeepOk (W03 w h₀ mg mb os X Z₀) (.ref 102) := keep_K (by kernel_rfl)
theorem has_conv : (fdAt (W03 w h₀ mg mb os X Z₀).K 102).isSome = true := by kernel_rfl
theorem has_link : (fdAt (W03 w h₀ mg mb os X Z₀).K 124).isSome = true := by kernel_rfl
theorem fn_conv : FnK (W03 w h₀ mg mb os X Z₀) 102 (fdK (W03 w h₀ mg mb os X Z₀).K 102 has_conv) bdConv := fnk_of has_conv (by kernel_rfl) (by kernel_rfl) (by kernel_rfl) (by kernel_rfl) (by kernel_rfl) (by kernel_rfl) (by kernel_rfl) (by kernel_rfl) (by kernel_rfl)
theorem fn_link : FnK (W03 w h₀ mg mb os X Z₀) 124 (fdK (W03 w h₀ mg mb os X Z₀).K 124 has_link) bdLink := fnk_of has_link (by kernel_rfl) (by kernel_rfl) (by kernel_rfl) (by kernel_rfl) (by kernel_rfl) (by kernel_rfl) (by kernel_rfl) (by kernel_rfl) (by kernel_rfl)
theorem sc_conv : (fdK (W03 w h₀ mg mb os X Z₀).K 102 has_conv).scope = scConv := by kernel_rfl
theorem sc_link : (fdK (W03 w h₀ mg mb os X Z₀).K 124 has_link).scope = scLink := by kernel_rfl
theorem tk_pref : takerIn (W03 w h₀ mg mb os X Z₀).K 113 "_prefix" = some none := by kernel_rfl
theorem cls_diff : ClsK (W03 w h₀ mg mb os X Z₀) 113 44 := ⟨by kernel_rfl, by kernel_rfl, by kernel_rfl, by kernel_rfl, by kernel_rfl, by kernel_rfl, by kernel_rfl⟩
end
end Mine
end
section
set_option linter.unusedVariables false
set_option maxRecDepth 100000
set_option maxHeartbeats 4000000
namespace Mine
section
variable {w : World} {h₀ : Heap} {mg mb : Str → Option Value} {os : OsState} {X Z₀ : AddrSet} {d : Nat}
noncomputable def fSplit_k1 (GS : AV → List AV → List AV → Option (AV × List AV)) : Slots → Option (AFlow × Slots) := fun ρ => ((some (.ret .none, ρ)) >>= thenA (fun ρ => some (.next, ρ)))
noncomputable def fSplit_k2 (GS : AV → List AV → List AV → Option (AV × List AV)) : Slots → Option (AFlow × Slots) := fun ρ => ((some (.ret .none, ρ)) >>= thenA (fun ρ => some (.next, ρ)))
noncomputable def fSplit_k3 (GS : AV → List AV → List AV → Option (AV × List AV)) : Slots → Option (AFlow × Slots) := fun ρ => (((getV ρ "i") >>= fun a => (some (.int 1)) >>= fun b => augA .Add a b >>= fun c => some (.next, Slots.set ρ "i" (.val c))) >>= thenA (fun ρ => some (.next, ρ)))
noncomputable def fSplit_k4 (GS : AV → List AV → List AV → Option (AV × List AV)) : Slots → Option (AFlow × Slots) := fun ρ => (((((getV ρ "text") >>= fun o => (getV ρ "i") >>= fun i => idxA o i)) >>= fun a => some (.next, Slots.set ρ "mark" (.val a))) >>= thenA (fSplit_k3 GS))
noncomputable def fSplit_k5 (GS : AV → List AV → List AV → Option (AV × List AV)) : Slots → Option (AFlow × Slots) := fun ρ => (((some (.str "")) >>= fun a => some (.next, Slots.set ρ "mark" (.val a))) >>= thenA (fun ρ => some (.next, ρ)))
noncomputable def fSplit_k6 (GS : AV → List AV → List AV → Option (AV × List AV)) : Slots → Option (AFlow × Slots) := fun ρ => (((getV ρ "n") >>= fun a => (some (.int 1)) >>= fun b => augA .Add a b >>= fun c => some (.next, Slots.set ρ "n" (.val c))) >>= thenA (fun ρ => some (.next, ρ)))
noncomputable def fSplit_C7 (GS : AV → List AV → List AV → Option (AV × List AV)) : Slots → Option Bool := fun ρ => ((((getV ρ "n") >>= fun a => (getV ρ "max") >>= fun b => cmpA .Lt a b)) >>= fun b => if b = true then (((((getV ρ "i") >>= fun a => (getV ρ "size") >>= fun b => cmpA .Lt a b)) >>= fun b => if b = true then (some true) else some false)) else some false)
noncomputable def fSplit_B8 (GS : AV → List AV → List AV → Option (AV × List AV)) : Slots → Option (AFlow × Slots) := fun ρ => (((((((getV ρ "text") >>= fun o => (getV ρ "i") >>= fun i => idxA o i)) >>= fun a => (some (.str "\x00")) >>= fun b => cmpA .Eq a b)) >>= fun b => if b = true then ((((getV ρ "i") >>= fun a => (some (.int 1)) >>= fun b => augA .Add a b >>= fun c => some (.next, Slots.set ρ "i" (.val c))) >>= thenA (fSplit_k4 GS))) else ((((((((getV ρ "text") >>= fun o => (getV ρ "i") >>= fun i => idxA o i)) >>= fun a => (some (.str "\x01")) >>= fun b => cmpA .Eq a b)) >>= fun b => if b = true then ((((getV ρ "i") >>= fun a => (some (.int 1)) >>= fun b => augA .Add a b >>= fun c => some (.next, Slots.set ρ "i" (.val c))) >>= thenA (fSplit_k5 GS))) else ((((getV ρ "i") >>= fun a => (some (.int 1)) >>= fun b => augA .Add a b >>= fun c => some (.next, Slots.set ρ "i" (.val c))) >>= thenA (fSplit_k6 GS)))) >>= thenA (fun ρ => some (.next, ρ))))) >>= thenA (fun ρ => some (.next, ρ)))
noncomputable def fSplit_k9 (GS : AV → List AV → List AV → Option (AV × List AV)) : Slots → Option (AFlow × Slots) := fun ρ => (((((((some (.str "\x00")) >>= fun a => (getV ρ "mark") >>= fun b => binA .Add a b)) >>= fun a => (getV ρ "line2") >>= fun b => binA .Add a b)) >>= fun a => some (.next, Slots.set ρ "line2" (.val a))) >>= thenA (fun ρ => some (.next, ρ)))
noncomputable def fSplit_k10 (GS : AV → List AV → List AV → Option (AV × List AV)) : Slots → Option (AFlow × Slots) := fun ρ => (((((getV ρ "self") >>= fun self => (getO ρ "data_list") >>= fun l => ((some (.str ">")) >>= fun a => ((getV ρ "line2") >>= fun a => (some []) >>= fun l => some (a :: l)) >>= fun l => some (a :: l)) >>= fun args => lentA 113 "_split_line" GS ρ "data_list" self l args)) >>= noneX) >>= thenA (fun ρ => some (.next, ρ)))
noncomputable def fSplit_k11 (GS : AV → List AV → List AV → Option (AV × List AV)) : Slots → Option (AFlow × Slots) := fun ρ => (((getO ρ "data_list") >>= fun l => ((((getV ρ "line_num") >>= fun a => ((getV ρ "line1") >>= fun a => (some []) >>= fun l => some (a :: l)) >>= fun l => some (a :: l)) >>= fun l => if l.length ≤ 1000000 then some (.tup l) else none)) >>= fun a => if l.items.length ≤ 1000000 then some (.next, Slots.set ρ "data_list" (.own ⟨l.place, l.items ++ [a]⟩)) else none) >>= thenA (fSplit_k10 GS))
noncomputable def fSplit_k12 (GS : AV → List AV → List AV → Option (AV × List AV)) : Slots → Option (AFlow × Slots) := fun ρ => (((truthN ρ "mark") >>= fun b => if b = true then ((((((getV ρ "line1") >>= fun a => (some (.str "\x01")) >>= fun b => binA .Add a b)) >>= fun a => some (.next, Slots.set ρ "line1" (.val a))) >>= thenA (fSplit_k9 GS))) else (some (.next, ρ))) >>= thenA (fSplit_k11 GS))
noncomputable def fSplit_k13 (GS : AV → List AV → List AV → Option (AV × List AV)) : Slots → Option (AFlow × Slots) := fun ρ => (((((getV ρ "text") >>= fun o => ((getV ρ "i") >>= fun a => (asInt a).map some) >>= fun i => (some none) >>= fun j => cutA o i j)) >>= fun a => some (.next, Slots.set ρ "line2" (.val a))) >>= thenA (fSplit_k12 GS))
noncomputable def fSplit_k14 (GS : AV → List AV → List AV → Option (AV × List AV)) : Slots → Option (AFlow × Slots) := fun ρ => (((((getV ρ "text") >>= fun o => (some none) >>= fun i => ((getV ρ "i") >>= fun a => (asInt a).map some) >>= fun j => cutA o i j)) >>= fun a => some (.next, Slots.set ρ "line1" (.val a))) >>= thenA (fSplit_k13 GS))
noncomputable def fSplit_k15 (GS : AV → List AV → List AV → Option (AV × List AV)) : Slots → Option (AFlow × Slots) := fun ρ => ((whileA (fSplit_C7 GS) (fSplit_B8 GS) 100000 ρ) >>= thenA (fSplit_k14 GS))
noncomputable def fSplit_k16 (GS : AV → List AV → List AV → Option (AV × List AV)) : Slots → Option (AFlow × Slots) := fun ρ => (((some (.str "")) >>= fun a => some (.next, Slots.set ρ "mark" (.val a))) >>= thenA (fSplit_k15 GS))
noncomputable def fSplit_k17 (GS : AV → List AV → List AV → Option (AV × List AV)) : Slots → Option (AFlow × Slots) := fun ρ => (((some (.int 0)) >>= fun a => some (.next, Slots.set ρ "n" (.val a))) >>= thenA (fSplit_k16 GS))
noncomputable def fSplit_k18 (GS : AV → List AV → List AV → Option (AV × List AV)) : Slots → Option (AFlow × Slots) := fun ρ => (((some (.int 0)) >>= fun a => some (.next, Slots.set ρ "i" (.val a))) >>= thenA (fSplit_k17 GS))
noncomputable def fSplit_k19 (GS : AV → List AV → List AV → Option (AV × List AV)) : Slots → Option (AFlow × Slots) := fun ρ => (((((((getV ρ "size") >>= fun a => (getV ρ "max") >>= fun b => cmpA .LtE a b)) >>= fun b => if b = true then some true else (((((((getV ρ "size") >>= fun a => (((((getV ρ "text") >>= fun a => strArg a >>= fun x => ((some (.str "\x00")) >>= fun a => (some []) >>= fun l => some (a :: l)) >>= fun l => countF (.str x :: l))) >>= fun a => (some (.int 3)) >>= fun b => binA .Mult a b)) >>= fun b => binA .Sub a b)) >>= fun a => (getV ρ "max") >>= fun b => cmpA .LtE a b)) >>= fun b => if b = true then some true else (some false))))) >>= fun b => if b = true then ((((getO ρ "data_list") >>= fun l => ((((getV ρ "line_num") >>= fun a => ((getV ρ "text") >>= fun a => (some []) >>= fun l => some (a :: l)) >>= fun l => some (a :: l)) >>= fun l => if l.length ≤ 1000000 then some (.tup l) else none)) >>= fun a => if l.items.length ≤ 1000000 then some (.next, Slots.set ρ "data_list" (.own ⟨l.place, l.items ++ [a]⟩)) else none) >>= thenA (fSplit_k2 GS))) else (some (.next, ρ))) >>= thenA (fSplit_k18 GS))
noncomputable def fSplit_k20 (GS : AV → List AV → List AV → Option (AV × List AV)) : Slots → Option (AFlow × Slots) := fun ρ => (((((getV ρ "self") >>= attrA 113 "_wrapcolumn")) >>= fun a => some (.next, Slots.set ρ "max" (.val a))) >>= thenA (fSplit_k19 GS))
noncomputable def fSplit_k21 (GS : AV → List AV → List AV → Option (AV × List AV)) : Slots → Option (AFlow × Slots) := fun ρ => ((((((getV ρ "text") >>= fun a => (some []) >>= fun l => some (a :: l)) >>= lenF)) >>= fun a => some (.next, Slots.set ρ "size" (.val a))) >>= thenA (fSplit_k20 GS))
noncomputable def fSplit (GS : AV → List AV → List AV → Option (AV × List AV)) : Slots → Option (AFlow × Slots) := fun ρ => (((((truthN ρ "line_num").map (!·))) >>= fun b => if b = true then ((((getO ρ "data_list") >>= fun l => ((((getV ρ "line_num") >>= fun a => ((getV ρ "text") >>= fun a => (some []) >>= fun l => some (a :: l)) >>= fun l => some (a :: l)) >>= fun l => if l.length ≤ 1000000 then some (.tup l) else none)) >>= fun a => if l.items.length ≤ 1000000 then some (.next, Slots.set ρ "data_list" (.own ⟨l.place, l.items ++ [a]⟩)) else none) >>= thenA (fSplit_k1 GS))) else (some (.next, ρ))) >>= thenA (fSplit_k21 GS))
theorem fSplit_den {GS : AV → List AV → List AV → Option (AV × List AV)} (hS : LSpec (W03 w h₀ mg mb os X Z₀) d (.ref 67) GS) : DenSs (W03 w h₀ mg mb os X Z₀) d scSplit bdSplit (fSplit GS) :=
  (dens_cons (den_if (denT_not (denT_name (by kernel_rfl) (by kernel_rfl))) (dens_cons (den_append (den_tuple (denPs_cons (den_name "line_num" _ (by kernel_rfl) (by kernel_rfl)) (denPs_cons (den_name "text" _ (by kernel_rfl) (by kernel_rfl)) denPs_nil (fun _ => rfl)) (fun _ => rfl))) (by kernel_rfl) (by kernel_rfl) (fun _ => rfl) rfl) (dens_cons den_return0 dens_nil)) dens_nil) (dens_cons (den_assign (den_call gl_len (by kernel_rfl) (by kernel_rfl) (keep_builtin _) (denPs_cons (den_name "text" _ (by kernel_rfl) (by kernel_rfl)) denPs_nil (fun _ => rfl)) (fun _ _ => rfl) spec_len) (.inl (by kernel_rfl)) (fun _ => rfl)) (dens_cons (den_assign (den_attr at_wrap at_dict at_find (by kernel_rfl) (by kernel_rfl)) (.inl (by kernel_rfl)) (fun _ => rfl)) (dens_cons (den_if (denT_bool (denTs_or (denT_cmp (den_name "size" _ (by kernel_rfl) (by kernel_rfl)) (den_name "max" _ (by kernel_rfl) (by kernel_rfl)) rfl) (denTs_or (denT_cmp (den_bin (den_name "size" _ (by kernel_rfl) (by kernel_rfl)) (den_bin (den_meth_str (den_name "text" _ (by kernel_rfl) (by kernel_rfl)) (fun _ => rfl) (fun _ => rfl) rfl F.slot_str_count F.type_str_count (denPs_cons (den_str _ _ _) denPs_nil (fun _ => rfl)) (fun _ _ => rfl) spec_count) (den_int _ _ _))) (den_name "max" _ (by kernel_rfl) (by kernel_rfl)) rfl) denTs_or0))) (dens_cons (den_append (den_tuple (denPs_cons (den_name "line_num" _ (by kernel_rfl) (by kernel_rfl)) (denPs_cons (den_name "text" _ (by kernel_rfl) (by kernel_rfl)) denPs_nil (fun _ => rfl)) (fun _ => rfl))) (by kernel_rfl) (by kernel_rfl) (fun _ => rfl) rfl) (dens_cons den_return0 dens_nil)) dens_nil) (dens_cons (den_assign (den_int _ _ _) (.inl (by kernel_rfl)) (fun _ => rfl)) (dens_cons (den_assign (den_int _ _ _) (.inl (by kernel_rfl)) (fun _ => rfl)) (dens_cons (den_assign (den_str _ _ _) (.inl (by kernel_rfl)) (fun _ => rfl)) (dens_cons (den_while 100000 (denT_bool (denTs_and (denT_cmp (den_name "n" _ (by kernel_rfl) (by kernel_rfl)) (den_name "max" _ (by kernel_rfl) (by kernel_rfl)) rfl) (denTs_and (denT_cmp (den_name "i" _ (by kernel_rfl) (by kernel_rfl)) (den_name "size" _ (by kernel_rfl) (by kernel_rfl)) rfl) denTs_and0))) (dens_cons (den_if (denT_cmp (den_idx (den_name "text" _ (by kernel_rfl) (by kernel_rfl)) (den_name "i" _ (by kernel_rfl) (by kernel_rfl)) (fun _ _ => rfl)) (den_str _ _ _) rfl) (dens_cons (den_aug (den_int _ _ _) (.inl (by kernel_rfl)) (by kernel_rfl)) (dens_cons (den_assign (den_idx (den_name "text" _ (by kernel_rfl) (by kernel_rfl)) (den_name "i" _ (by kernel_rfl) (by kernel_rfl)) (fun _ _ => rfl)) (.inl (by kernel_rfl)) (fun _ => rfl)) (dens_cons (den_aug (den_int _ _ _) (.inl (by kernel_rfl)) (by kernel_rfl)) dens_nil))) (dens_cons (den_if (denT_cmp (den_idx (den_name "text" _ (by kernel_rfl) (by kernel_rfl)) (den_name "i" _ (by kernel_rfl) (by kernel_rfl)) (fun _ _ => rfl)) (den_str _ _ _) rfl) (dens_cons (den_aug (den_int _ _ _) (.inl (by kernel_rfl)) (by kernel_rfl)) (dens_cons (den_assign (den_str _ _ _) (.inl (by kernel_rfl)) (fun _ => rfl)) dens_nil)) (dens_cons (den_aug (den_int _ _ _) (.inl (by kernel_rfl)) (by kernel_rfl)) (dens_cons (den_aug (den_int _ _ _) (.inl (by kernel_rfl)) (by kernel_rfl)) dens_nil))) dens_nil)) dens_nil)) (dens_cons (den_assign (den_cut (den_name "text" _ (by kernel_rfl) (by kernel_rfl)) part_none (part_some (den_name "i" _ (by kernel_rfl) (by kernel_rfl)))) (.inl (by kernel_rfl)) (fun _ => rfl)) (dens_cons (den_assign (den_cut (den_name "text" _ (by kernel_rfl) (by kernel_rfl)) (part_some (den_name "i" _ (by kernel_rfl) (by kernel_rfl))) part_none) (.inl (by kernel_rfl)) (fun _ => rfl)) (dens_cons (den_if (denT_name (by kernel_rfl) (by kernel_rfl)) (dens_cons (den_assign (den_bin (den_name "line1" _ (by kernel_rfl) (by kernel_rfl)) (den_str _ _ _)) (.inl (by kernel_rfl)) (fun _ => rfl)) (dens_cons (den_assign (den_bin (den_bin (den_str _ _ _) (den_name "mark" _ (by kernel_rfl) (by kernel_rfl))) (den_name "line2" _ (by kernel_rfl) (by kernel_rfl))) (.inl (by kernel_rfl)) (fun _ => rfl)) dens_nil)) dens_nil) (dens_cons (den_append (den_tuple (denPs_cons (den_name "line_num" _ (by kernel_rfl) (by kernel_rfl)) (denPs_cons (den_name "line1" _ (by kernel_rfl) (by kernel_rfl)) denPs_nil (fun _ => rfl)) (fun _ => rfl))) (by kernel_rfl) (by kernel_rfl) (fun _ => rfl) rfl) (dens_cons (den_exprXx (denx_lentx (by kernel_rfl) (by kernel_rfl) (by kernel_rfl) (by kernel_rfl) me_get me_find me_fn me_keep (denPs_cons (den_str _ _ _) (denPs_cons (den_name "line2" _ (by kernel_rfl) (by kernel_rfl)) denPs_nil (fun _ => rfl)) (fun _ => rfl)) (fun _ => rfl) (fun _ _ => rfl) (fun _ _ => _) (fun _ => rfl) hS) (fun _ => rfl)) dens_nil)))))))))))))
noncomputable def gT  : AV → Slots → Option Slots := (fun a ρ => seqA a >>= fun l => if l.length = 3 then (headTg (fun a ρ => some (Slots.set ρ "fromdata" (.val a))) (headTg (fun a ρ => some (Slots.set ρ "todata" (.val a))) (headTg (fun a ρ => some (Slots.set ρ "flag" (.val a))) (fun _ ρ => some ρ)))) l ρ else none)
theorem gT_den  : DenTg (W03 w h₀ mg mb os X Z₀) d scGen tx03.tgt gT :=
  (tg_tuple (tgs_cons (tg_name (.inl (by kernel_rfl))) (tgs_cons (tg_name (.inl (by kernel_rfl))) (tgs_cons (tg_name (.inl (by kernel_rfl))) tgs_nil (fun _ => rfl)) (fun _ => rfl)) (fun _ => rfl)) (fun _ => rfl) (fun _ => rfl))
noncomputable def gTest  : Slots → Option Bool := fun ρ => ((getV ρ "flag") >>= fun a => (some .none) >>= fun b => cmpA .Is a b)
theorem gTest_den  : DenT (W03 w h₀ mg mb os X Z₀) d scGen tx03.test gTest :=
  (denT_cmp (den_name "flag" _ (by kernel_rfl) (by kernel_rfl)) (den_none _ _) rfl)
noncomputable def gY1  : Slots → Option AV := fun ρ => (((getV ρ "fromdata") >>= fun a => ((getV ρ "todata") >>= fun a => ((getV ρ "flag") >>= fun a => (some []) >>= fun l => some (a :: l)) >>= fun l => some (a :: l)) >>= fun l => some (a :: l)) >>= fun l => if l.length ≤ 1000000 then some (.tup l) else none)
theorem gY1_den  : DenP (W03 w h₀ mg mb os X Z₀) d scGen tx03.y1 gY1 :=
  (den_tuple (denPs_cons (den_name "fromdata" _ (by kernel_rfl) (by kernel_rfl)) (denPs_cons (den_name "todata" _ (by kernel_rfl) (by kernel_rfl)) (denPs_cons (den_name "flag" _ (by kernel_rfl) (by kernel_rfl)) denPs_nil (fun _ => rfl)) (fun _ => rfl)) (fun _ => rfl)))
noncomputable def gMid_k1 (GS : AV → List AV → List AV → Option (AV × List AV)) : Slots → Option (AFlow × Slots) := fun ρ => (((((getV ρ "self") >>= fun self => (getO ρ "tolist") >>= fun l => ((getV ρ "toline") >>= fun a => ((getV ρ "totext") >>= fun a => (some []) >>= fun l => some (a :: l)) >>= fun l => some (a :: l)) >>= fun args => lentA 113 "_split_line" GS ρ "tolist" self l args)) >>= noneX) >>= thenA (fun ρ => some (.next, ρ)))
noncomputable def gMid_k2 (GS : AV → List AV → List AV → Option (AV × List AV)) : Slots → Option (AFlow × Slots) := fun ρ => (((((getV ρ "self") >>= fun self => (getO ρ "fromlist") >>= fun l => ((getV ρ "fromline") >>= fun a => ((getV ρ "fromtext") >>= fun a => (some []) >>= fun l => some (a :: l)) >>= fun l => some (a :: l)) >>= fun args => lentA 113 "_split_line" GS ρ "fromlist" self l args)) >>= noneX) >>= thenA (gMid_k1 GS))
noncomputable def gMid_k3 (GS : AV → List AV → List AV → Option (AV × List AV)) : Slots → Option (AFlow × Slots) := fun ρ => ((((((some []) >>= fun l => if l.length ≤ 1000000 then some l else none)) >>= fun a => ((((some []) >>= fun l => if l.length ≤ 1000000 then some l else none)) >>= fun a => (some []) >>= fun l => some (SV.own ⟨none, a⟩ :: l)) >>= fun l => some (SV.own ⟨none, a⟩ :: l)) >>= fun l => if l.length = 2 ∧ l.length ≤ 1000000 then some (.next, setMany ρ ["tolist", "fromlist"] l.reverse) else none) >>= thenA (gMid_k2 GS))
noncomputable def gMid (GS : AV → List AV → List AV → Option (AV × List AV)) : Slots → Option (AFlow × Slots) := fun ρ => ((((((((getV ρ "fromdata") >>= fun a => ((getV ρ "todata") >>= fun a => (some []) >>= fun l => some (a :: l)) >>= fun l => some (a :: l)) >>= fun l => if l.length ≤ 1000000 then some (.tup l) else none)) >>= fun a => some (a, ρ))) >>= fun r => (fun a ρ => seqA a >>= fun l => if l.length = 2 then (headTg (fun a ρ => seqA a >>= fun l => if l.length = 2 then (headTg (fun a ρ => some (Slots.set ρ "fromline" (.val a))) (headTg (fun a ρ => some (Slots.set ρ "fromtext" (.val a))) (fun _ ρ => some ρ))) l ρ else none) (headTg (fun a ρ => seqA a >>= fun l => if l.length = 2 then (headTg (fun a ρ => some (Slots.set ρ "toline" (.val a))) (headTg (fun a ρ => some (Slots.set ρ "totext" (.val a))) (fun _ ρ => some ρ))) l ρ else none) (fun _ ρ => some ρ))) l ρ else none) r.1 r.2 >>= fun ρ₂ => some (.next, ρ₂)) >>= thenA (gMid_k3 GS))
theorem gMid_den {GS : AV → List AV → List AV → Option (AV × List AV)} (hS : LSpec (W03 w h₀ mg mb os X Z₀) d (.ref 67) GS) : DenSs (W03 w h₀ mg mb os X Z₀) d scGen tx03.mid (gMid GS) :=
  (dens_cons (den_assignT (denx_of (den_tuple (denPs_cons (den_name "fromdata" _ (by kernel_rfl) (by kernel_rfl)) (denPs_cons (den_name "todata" _ (by kernel_rfl) (by kernel_rfl)) denPs_nil (fun _ => rfl)) (fun _ => rfl)))) (tg_tuple (tgs_cons (tg_tuple (tgs_cons (tg_name (.inl (by kernel_rfl))) (tgs_cons (tg_name (.inl (by kernel_rfl))) tgs_nil (fun _ => rfl)) (fun _ => rfl)) (fun _ => rfl) (fun _ => rfl)) (tgs_cons (tg_tuple (tgs_cons (tg_name (.inl (by kernel_rfl))) (tgs_cons (tg_name (.inl (by kernel_rfl))) tgs_nil (fun _ => rfl)) (fun _ => rfl)) (fun _ => rfl) (fun _ => rfl)) tgs_nil (fun _ => rfl)) (fun _ => rfl)) (fun _ => rfl) (fun _ => rfl)) (fun env he => by cases env; cases he; rfl) (fun env he => by cases env; cases he; rfl) (fun _ => rfl)) (dens_cons (den_assign_swap (names := ["fromlist", "tolist"]) (es_own (deno_list denPs_nil) (es_own (deno_list denPs_nil) es_nil (fun _ => rfl)) (fun _ => rfl)) (fun x hx => kinds_in (l := ["fromlist", "tolist"]) (by kernel_rfl) x hx) (fun env he => by cases env; cases he; rfl) (fun env he => by cases env; cases he; kernel_rfl)) (dens_cons (den_exprXx (denx_lentx (by kernel_rfl) (by kernel_rfl) (by kernel_rfl) (by kernel_rfl) me_get me_find me_fn me_keep (denPs_cons (den_name "fromline" _ (by kernel_rfl) (by kernel_rfl)) (denPs_cons (den_name "fromtext" _ (by kernel_rfl) (by kernel_rfl)) denPs_nil (fun _ => rfl)) (fun _ => rfl)) (fun _ => rfl) (fun _ _ => rfl) (fun _ _ => _) (fun _ => rfl) hS) (fun _ => rfl)) (dens_cons (den_exprXx (denx_lentx (by kernel_rfl) (by kernel_rfl) (by kernel_rfl) (by kernel_rfl) me_get me_find me_fn me_keep (denPs_cons (den_name "toline" _ (by kernel_rfl) (by kernel_rfl)) (denPs_cons (den_name "totext" _ (by kernel_rfl) (by kernel_rfl)) denPs_nil (fun _ => rfl)) (fun _ => rfl)) (fun _ => rfl) (fun _ _ => rfl) (fun _ _ => _) (fun _ => rfl) hS) (fun _ => rfl)) dens_nil))))
noncomputable def gWt  : Slots → Option Bool := fun ρ => ((truthN ρ "fromlist") >>= fun b => if b = true then some true else (((truthN ρ "tolist") >>= fun b => if b = true then some true else (some false))))
theorem gWt_den  : DenT (W03 w h₀ mg mb os X Z₀) d scGen tx03.wtest gWt :=
  (denT_bool (denTs_or (denT_name (by kernel_rfl) (by kernel_rfl)) (denTs_or (denT_name (by kernel_rfl) (by kernel_rfl)) denTs_or0)))
noncomputable def gPop_k1  : Slots → Option (AFlow × Slots) := fun ρ => (((truthN ρ "tolist") >>= fun b => if b = true then ((((((getO ρ "tolist") >>= fun l => pop0A ρ "tolist" l)) >>= fun r => some (.next, Slots.set r.2 "todata" (.val r.1))) >>= thenA (fun ρ => some (.next, ρ)))) else (((((((some (.str "")) >>= fun a => ((some (.str " ")) >>= fun a => (some []) >>= fun l => some (a :: l)) >>= fun l => some (a :: l)) >>= fun l => if l.length ≤ 1000000 then some (.tup l) else none)) >>= fun a => some (.next, Slots.set ρ "todata" (.val a))) >>= thenA (fun ρ => some (.next, ρ))))) >>= thenA (fun ρ => some (.next, ρ)))
noncomputable def gPop  : Slots → Option (AFlow × Slots) := fun ρ => (((truthN ρ "fromlist") >>= fun b => if b = true then ((((((getO ρ "fromlist") >>= fun l => pop0A ρ "fromlist" l)) >>= fun r => some (.next, Slots.set r.2 "fromdata" (.val r.1))) >>= thenA (fun ρ => some (.next, ρ)))) else (((((((some (.str "")) >>= fun a => ((some (.str " ")) >>= fun a => (some []) >>= fun l => some (a :: l)) >>= fun l => some (a :: l)) >>= fun l => if l.length ≤ 1000000 then some (.tup l) else none)) >>= fun a => some (.next, Slots.set ρ "fromdata" (.val a))) >>= thenA (fun ρ => some (.next, ρ))))) >>= thenA gPop_k1)
theorem gPop_den  : DenSs (W03 w h₀ mg mb os X Z₀) d scGen tx03.pop gPop :=
  (dens_cons (den_if (denT_name (by kernel_rfl) (by kernel_rfl)) (dens_cons (den_assignX (denx_pop0x (by kernel_rfl) (by kernel_rfl) rfl) (.inl (by kernel_rfl)) (fun _ => rfl)) dens_nil) (dens_cons (den_assign (den_tuple (denPs_cons (den_str _ _ _) (denPs_cons (den_str _ _ _) denPs_nil (fun _ => rfl)) (fun _ => rfl))) (.inl (by kernel_rfl)) (fun _ => rfl)) dens_nil)) (dens_cons (den_if (denT_name (by kernel_rfl) (by kernel_rfl)) (dens_cons (den_assignX (denx_pop0x (by kernel_rfl) (by kernel_rfl) rfl) (.inl (by kernel_rfl)) (fun _ => rfl)) dens_nil) (dens_cons (den_assign (den_tuple (denPs_cons (den_str _ _ _) (denPs_cons (den_str _ _ _) denPs_nil (fun _ => rfl)) (fun _ => rfl))) (.inl (by kernel_rfl)) (fun _ => rfl)) dens_nil)) dens_nil))
noncomputable def gY2  : Slots → Option AV := fun ρ => (((getV ρ "fromdata") >>= fun a => ((getV ρ "todata") >>= fun a => ((getV ρ "flag") >>= fun a => (some []) >>= fun l => some (a :: l)) >>= fun l => some (a :: l)) >>= fun l => some (a :: l)) >>= fun l => if l.length ≤ 1000000 then some (.tup l) else none)
theorem gY2_den  : DenP (W03 w h₀ mg mb os X Z₀) d scGen tx03.y2 gY2 :=
  (den_tuple (denPs_cons (den_name "fromdata" _ (by kernel_rfl) (by kernel_rfl)) (denPs_cons (den_name "todata" _ (by kernel_rfl) (by kernel_rfl)) (denPs_cons (den_name "flag" _ (by kernel_rfl) (by kernel_rfl)) denPs_nil (fun _ => rfl)) (fun _ => rfl)) (fun _ => rfl)))
noncomputable def fConv_k1  : Slots → Option (AFlow × Slots) := fun ρ => ((((((((getV ρ "toprefix") >>= fun a => ((getV ρ "num_chg") >>= fun a => (some []) >>= fun l => some (a :: l)) >>= fun l => some (a :: l)) >>= fun l => if l.length ≤ 1000000 then some (.tup l) else none)) >>= pct2 nextT)) >>= fun a => (getO ρ "next_href") >>= fun l => (getV ρ "last" : Option AV) >>= fun i => i.int? >>= fun k => putL l.items k a >>= fun l' => some (.next, Slots.set ρ "next_href" (.own ⟨l.place, l'⟩))) >>= thenA (fun ρ => some (.next, ρ)))
noncomputable def fConv_k2  : Slots → Option (AFlow × Slots) := fun ρ => (((getV ρ "num_chg") >>= fun a => (some (.int 1)) >>= fun b => augA .Add a b >>= fun c => some (.next, Slots.set ρ "num_chg" (.val c))) >>= thenA fConv_k1)
noncomputable def fConv_k3  : Slots → Option (AFlow × Slots) := fun ρ => ((((((((getV ρ "toprefix") >>= fun a => ((getV ρ "num_chg") >>= fun a => (some []) >>= fun l => some (a :: l)) >>= fun l => some (a :: l)) >>= fun l => if l.length ≤ 1000000 then some (.tup l) else none)) >>= pct2 idT)) >>= fun a => (getO ρ "next_id") >>= fun l => (getV ρ "i" : Option AV) >>= fun i => i.int? >>= fun k => putL l.items k a >>= fun l' => some (.next, Slots.set ρ "next_id" (.own ⟨l.place, l'⟩))) >>= thenA fConv_k2)
noncomputable def fConv_k4  : Slots → Option (AFlow × Slots) := fun ρ => (((((((((some (.int 0)) >>= fun a => ((((getV ρ "i") >>= fun a => (getV ρ "numlines") >>= fun b => binA .Sub a b)) >>= fun a => (some []) >>= fun l => some (a :: l)) >>= fun l => some (a :: l)) >>= fun l => if l.length ≤ 1000000 then some (.lst l) else none)) >>= fun a => (some []) >>= fun l => some (a :: l)) >>= maxL)) >>= fun a => some (.next, Slots.set ρ "i" (.val a))) >>= thenA fConv_k3)
noncomputable def fConv_k5  : Slots → Option (AFlow × Slots) := fun ρ => (((getV ρ "i") >>= fun a => some (.next, Slots.set ρ "last" (.val a))) >>= thenA fConv_k4)
noncomputable def fConv_T6  : AV → Slots → Option Slots := (fun a ρ => seqA a >>= fun l => if l.length = 2 then (headTg (fun a ρ => some (Slots.set ρ "i" (.val a))) (headTg (fun a ρ => some (Slots.set ρ "flag" (.val a))) (fun _ ρ => some ρ))) l ρ else none)
noncomputable def fConv_B7  : Slots → Option (AFlow × Slots) := fun ρ => (((truthN ρ "flag") >>= fun b => if b = true then ((((((truthN ρ "in_change").map (!·))) >>= fun b => if b = true then ((((some (.bool true)) >>= fun a => some (.next, Slots.set ρ "in_change" (.val a))) >>= thenA fConv_k5)) else (some (.next, ρ))) >>= thenA (fun ρ => some (.next, ρ)))) else ((((some (.bool false)) >>= fun a => some (.next, Slots.set ρ "in_change" (.val a))) >>= thenA (fun ρ => some (.next, ρ))))) >>= thenA (fun ρ => some (.next, ρ)))
noncomputable def fConv_k8  : Slots → Option (AFlow × Slots) := fun ρ => (((getV ρ "fromlist") >>= fun a => some (.next, Slots.set ρ "tolist" (.val a))) >>= thenA (fun ρ => some (.next, ρ)))
noncomputable def fConv_k9  : Slots → Option (AFlow × Slots) := fun ρ => (((truthN ρ "context") >>= fun b => if b = true then (((((((some (.str "<td></td><td>&nbsp;No Differences Found&nbsp;</td>")) >>= fun a => (some []) >>= fun l => some (a :: l)) >>= fun l => if l.length ≤ 1000000 then some (.lst l) else none)) >>= fun a => some (.next, Slots.set ρ "fromlist" (.val a))) >>= thenA fConv_k8)) else (((((((some (.str "<td></td><td>&nbsp;Empty File&nbsp;</td>")) >>= fun a => (some []) >>= fun l => some (a :: l)) >>= fun l => if l.length ≤ 1000000 then some (.lst l) else none)) >>= fun a => some (.next, Slots.set (Slots.set ρ "fromlist" (.val a)) "tolist" (.val a))) >>= thenA (fun ρ => some (.next, ρ))))) >>= thenA (fun ρ => some (.next, ρ)))
noncomputable def fConv_k10  : Slots → Option (AFlow × Slots) := fun ρ => (((some (.int 0)) >>= fun a => some (.next, Slots.set ρ "last" (.val a))) >>= thenA fConv_k9)
noncomputable def fConv_k11  : Slots → Option (AFlow × Slots) := fun ρ => ((((((some (.str "")) >>= fun a => (some []) >>= fun l => some (a :: l)) >>= fun l => if l.length ≤ 1000000 then some l else none)) >>= fun l => some (.next, Slots.set ρ "next_href" (.own ⟨none, l⟩))) >>= thenA fConv_k10)
noncomputable def fConv_k12  : Slots → Option (AFlow × Slots) := fun ρ => ((((((some (.str "")) >>= fun a => (some []) >>= fun l => some (a :: l)) >>= fun l => if l.length ≤ 1000000 then some l else none)) >>= fun l => some (.next, Slots.set ρ "next_id" (.own ⟨none, l⟩))) >>= thenA fConv_k11)
noncomputable def fConv_z13  : Slots → Option (AFlow × Slots) := fun ρ => ((((((getV ρ "fromlist") >>= fun a => ((getV ρ "tolist") >>= fun a => ((getV ρ "flaglist") >>= fun a => ((getV ρ "next_href") >>= fun a => ((getV ρ "next_id") >>= fun a => (some []) >>= fun l => some (a :: l)) >>= fun l => some (a :: l)) >>= fun l => some (a :: l)) >>= fun l => some (a :: l)) >>= fun l => some (a :: l)) >>= fun l => if l.length ≤ 1000000 then some (.tup l) else none)) >>= fun a => some (.ret a, ρ)) >>= thenA (fun ρ => some (.next, ρ)))
noncomputable def fConv_z14  : Slots → Option (AFlow × Slots) := fun ρ => (fConv_z13 (freeze "next_id" ρ))
noncomputable def fConv_k15  : Slots → Option (AFlow × Slots) := fun ρ => (fConv_z14 (freeze "next_href" ρ))
noncomputable def fConv_k16  : Slots → Option (AFlow × Slots) := fun ρ => (((((getV ρ "toprefix") >>= pct1 topT)) >>= fun a => (getO ρ "next_href") >>= fun l => (getV ρ "last" : Option AV) >>= fun i => i.int? >>= fun k => putL l.items k a >>= fun l' => some (.next, Slots.set ρ "next_href" (.own ⟨l.place, l'⟩))) >>= thenA fConv_k15)
noncomputable def fConv_k17  : Slots → Option (AFlow × Slots) := fun ρ => (((((((((getV ρ "flaglist") >>= fun o => (some (.int 0)) >>= fun i => idxA o i)) >>= truthA)).map (!·))) >>= fun b => if b = true then ((((((getV ρ "toprefix") >>= pct1 firstT)) >>= fun a => (getO ρ "next_href") >>= fun l => (some (.int 0) : Option AV) >>= fun i => i.int? >>= fun k => putL l.items k a >>= fun l' => some (.next, Slots.set ρ "next_href" (.own ⟨l.place, l'⟩))) >>= thenA (fun ρ => some (.next, ρ)))) else (some (.next, ρ))) >>= thenA fConv_k16)
noncomputable def fConv_k18  : Slots → Option (AFlow × Slots) := fun ρ => (((((truthN ρ "flaglist").map (!·))) >>= fun b => if b = true then (((((((some (.bool false)) >>= fun a => (some []) >>= fun l => some (a :: l)) >>= fun l => if l.length ≤ 1000000 then some (.lst l) else none)) >>= fun a => some (.next, Slots.set ρ "flaglist" (.val a))) >>= thenA fConv_k12)) else (some (.next, ρ))) >>= thenA fConv_k17)
noncomputable def fConv_k19  : Slots → Option (AFlow × Slots) := fun ρ => (((((getV ρ "flaglist") >>= fun a => (some []) >>= fun l => some (a :: l)) >>= enumF) >>= fun items => forA fConv_T6 fConv_B7 items ρ) >>= thenA fConv_k18)
noncomputable def fConv_k20  : Slots → Option (AFlow × Slots) := fun ρ => (((some (.int 0)) >>= fun a => some (.next, Slots.set ρ "last" (.val a))) >>= thenA fConv_k19)
noncomputable def fConv_k21  : Slots → Option (AFlow × Slots) := fun ρ => ((((some (.int 0)) >>= fun a => ((some (.bool false)) >>= fun a => (some []) >>= fun l => some (SV.val a :: l)) >>= fun l => some (SV.val a :: l)) >>= fun l => if l.length = 2 ∧ l.length ≤ 1000000 then some (.next, setMany ρ ["num_chg", "in_change"] l) else none) >>= thenA fConv_k20)
noncomputable def fConv_k22  : Slots → Option (AFlow × Slots) := fun ρ => ((((((((some (.str "")) >>= fun a => (some []) >>= fun l => some (a :: l)) >>= fun l => if l.length ≤ 1000000 then some (.lst l) else none)) >>= fun a => ((((getV ρ "flaglist") >>= fun a => (some []) >>= fun l => some (a :: l)) >>= lenF)) >>= fun b => repO a b)) >>= fun l => some (.next, Slots.set ρ "next_href" (.own ⟨none, l⟩))) >>= thenA fConv_k21)
noncomputable def fConv_k23  : Slots → Option (AFlow × Slots) := fun ρ => ((((((((some (.str "")) >>= fun a => (some []) >>= fun l => some (a :: l)) >>= fun l => if l.length ≤ 1000000 then some (.lst l) else none)) >>= fun a => ((((getV ρ "flaglist") >>= fun a => (some []) >>= fun l => some (a :: l)) >>= lenF)) >>= fun b => repO a b)) >>= fun l => some (.next, Slots.set ρ "next_id" (.own ⟨none, l⟩))) >>= thenA fConv_k22)
noncomputable def fConv  : Slots → Option (AFlow × Slots) := fun ρ => (((((((getV ρ "self") >>= attrA 113 "_prefix")) >>= fun o => (some (.int 1)) >>= fun i => idxA o i)) >>= fun a => some (.next, Slots.set ρ "toprefix" (.val a))) >>= thenA fConv_k23)
theorem fConv_den  : DenSs (W03 w h₀ mg mb os X Z₀) d scConv bdConv fConv :=
  (dens_cons (den_assign (den_idx (den_attr at_pref at_dict at_findp (by kernel_rfl) (by kernel_rfl)) (den_int _ _ _) (fun _ _ => rfl)) (.inl (by kernel_rfl)) (fun _ => rfl)) (dens_cons (den_assignO (deno_mult (den_list (denPs_cons (den_str _ _ _) denPs_nil (fun _ => rfl))) (den_call gl_len (by kernel_rfl) (by kernel_rfl) (keep_builtin _) (denPs_cons (den_name "flaglist" _ (by kernel_rfl) (by kernel_rfl)) denPs_nil (fun _ => rfl)) (fun _ _ => rfl) spec_len)) (.inl (by kernel_rfl)) (fun _ => rfl)) (dens_cons (den_assignO (deno_mult (den_list (denPs_cons (den_str _ _ _) denPs_nil (fun _ => rfl))) (den_call gl_len (by kernel_rfl) (by kernel_rfl) (keep_builtin _) (denPs_cons (den_name "flaglist" _ (by kernel_rfl) (by kernel_rfl)) denPs_nil (fun _ => rfl)) (fun _ _ => rfl) spec_len)) (.inl (by kernel_rfl)) (fun _ => rfl)) (dens_cons (den_assign_names (xs := [("num_chg", _), ("in_change", _)]) (es_val (den_int _ _ _) (es_val (den_bool _ _ _) es_nil (fun _ => rfl)) (fun _ => rfl)) (fun x hx => kinds_in (l := ["num_chg", "in_change"]) (by kernel_rfl) x hx) (fun env he => by cases env; cases he; rfl) (fun env he => by cases env; cases he; kernel_rfl)) (dens_cons (den_assign (den_int _ _ _) (.inl (by kernel_rfl)) (fun _ => rfl)) (dens_cons (den_forT (it_enum gl_enum (by kernel_rfl) (denPs_cons (den_name "flaglist" _ (by kernel_rfl) (by kernel_rfl)) denPs_nil (fun _ => rfl)) (fun _ _ => rfl)) (tg_tuple (tgs_cons (tg_name (.inl (by kernel_rfl))) (tgs_cons (tg_name (.inl (by kernel_rfl))) tgs_nil (fun _ => rfl)) (fun _ => rfl)) (fun _ => rfl) (fun _ => rfl)) (dens_cons (den_if (denT_name (by kernel_rfl) (by kernel_rfl)) (dens_cons (den_if (denT_not (denT_name (by kernel_rfl) (by kernel_rfl))) (dens_cons (den_assign (den_bool _ _ _) (.inl (by kernel_rfl)) (fun _ => rfl)) (dens_cons (den_assign (den_name "i" _ (by kernel_rfl) (by kernel_rfl)) (.inl (by kernel_rfl)) (fun _ => rfl)) (dens_cons (den_assign (den_call gl_max (by kernel_rfl) (by kernel_rfl) (keep_builtin _) (denPs_cons (den_list (denPs_cons (den_int _ _ _) (denPs_cons (den_bin (den_name "i" _ (by kernel_rfl) (by kernel_rfl)) (den_name "numlines" _ (by kernel_rfl) (by kernel_rfl))) denPs_nil (fun _ => rfl)) (fun _ => rfl))) denPs_nil (fun _ => rfl)) (fun _ _ => rfl) spec_maxL) (.inl (by kernel_rfl)) (fun _ => rfl)) (dens_cons (den_setsub (den_pct2 (den_tuple (denPs_cons (den_name "toprefix" _ (by kernel_rfl) (by kernel_rfl)) (denPs_cons (den_name "num_chg" _ (by kernel_rfl) (by kernel_rfl)) denPs_nil (fun _ => rfl)) (fun _ => rfl))) (by decide +kernel) meets_id) (den_name "i" _ (by kernel_rfl) (by kernel_rfl)) (by kernel_rfl) (by kernel_rfl) (fun _ => rfl)) (dens_cons (den_aug (den_int _ _ _) (.inl (by kernel_rfl)) (by kernel_rfl)) (dens_cons (den_setsub (den_pct2 (den_tuple (denPs_cons (den_name "toprefix" _ (by kernel_rfl) (by kernel_rfl)) (denPs_cons (den_name "num_chg" _ (by kernel_rfl) (by kernel_rfl)) denPs_nil (fun _ => rfl)) (fun _ => rfl))) (by decide +kernel) meets_next) (den_name "last" _ (by kernel_rfl) (by kernel_rfl)) (by kernel_rfl) (by kernel_rfl) (fun _ => rfl)) dens_nil)))))) dens_nil) dens_nil) (dens_cons (den_assign (den_bool _ _ _) (.inl (by kernel_rfl)) (fun _ => rfl)) dens_nil)) dens_nil) (fun _ _ => rfl)) (dens_cons (den_if (denT_not (denT_name (by kernel_rfl) (by kernel_rfl))) (dens_cons (den_assign (den_list (denPs_cons (den_bool _ _ _) denPs_nil (fun _ => rfl))) (.inl (by kernel_rfl)) (fun _ => rfl)) (dens_cons (den_assignO (deno_list (denPs_cons (den_str _ _ _) denPs_nil (fun _ => rfl))) (.inl (by kernel_rfl)) (fun _ => rfl)) (dens_cons (den_assignO (deno_list (denPs_cons (den_str _ _ _) denPs_nil (fun _ => rfl))) (.inl (by kernel_rfl)) (fun _ => rfl)) (dens_cons (den_assign (den_int _ _ _) (.inl (by kernel_rfl)) (fun _ => rfl)) (dens_cons (den_if (denT_name (by kernel_rfl) (by kernel_rfl)) (dens_cons (den_assign (den_list (denPs_cons (den_str _ _ _) denPs_nil (fun _ => rfl))) (.inl (by kernel_rfl)) (fun _ => rfl)) (dens_cons (den_assign (den_name "fromlist" _ (by kernel_rfl) (by kernel_rfl)) (.inl (by kernel_rfl)) (fun _ => rfl)) dens_nil)) (dens_cons (den_assign2 (den_list (denPs_cons (den_str _ _ _) denPs_nil (fun _ => rfl))) (.inl (by kernel_rfl)) (.inl (by kernel_rfl)) (fun _ => rfl)) dens_nil)) dens_nil))))) dens_nil) (dens_cons (den_if (denT_not (denT_val (den_idx (den_name "flaglist" _ (by kernel_rfl) (by kernel_rfl)) (den_int _ _ _) (fun _ _ => rfl)) (fun _ _ => rfl))) (dens_cons (den_setsub (den_pct1 (den_name "toprefix" _ (by kernel_rfl) (by kernel_rfl)) (by decide +kernel) meets_first) (den_int _ _ _) (by kernel_rfl) (by kernel_rfl) (fun _ => rfl)) dens_nil) dens_nil) (dens_cons (den_setsub (den_pct1 (den_name "toprefix" _ (by kernel_rfl) (by kernel_rfl)) (by decide +kernel) meets_top) (den_name "last" _ (by kernel_rfl) (by kernel_rfl)) (by kernel_rfl) (by kernel_rfl) (fun _ => rfl)) (dens_freeze "next_href" (dens_freeze "next_id" (dens_cons (den_return (den_tuple (denPs_cons (den_name "fromlist" _ (by kernel_rfl) (by kernel_rfl)) (denPs_cons (den_name "tolist" _ (by kernel_rfl) (by kernel_rfl)) (denPs_cons (den_name "flaglist" _ (by kernel_rfl) (by kernel_rfl)) (denPs_cons (den_name "next_href" _ (by kernel_rfl) (by kernel_rfl)) (denPs_cons (den_name "next_id" _ (by kernel_rfl) (by kernel_rfl)) denPs_nil (fun _ => rfl)) (fun _ => rfl)) (fun _ => rfl)) (fun _ => rfl)) (fun _ => rfl)))) dens_nil))))))))))))
noncomputable def fLink  : Slots → Option (AFlow × Slots) := fun ρ => (((((((((((((((some (.str "<a href=\"#difflib_chg_")) >>= fun a => (getV ρ "name") >>= fun b => binA .Add a b)) >>= fun a => (some (.str "_")) >>= fun b => binA .Add a b)) >>= fun a => (getV ρ "goal") >>= fun b => binA .Add a b)) >>= fun a => (some (.str "\">")) >>= fun b => binA .Add a b)) >>= fun a => (getV ρ "word") >>= fun b => binA .Add a b)) >>= fun a => (some (.str "</a>")) >>= fun b => binA .Add a b)) >>= fun a => some (.ret a, ρ)) >>= thenA (fun ρ => some (.next, ρ)))
theorem fLink_den  : DenSs (W03 w h₀ mg mb os X Z₀) d scLink bdLink fLink :=
  (dens_cons (den_return (den_bin (den_bin (den_bin (den_bin (den_bin (den_bin (den_str _ _ _) (den_name "name" _ (by kernel_rfl) (by kernel_rfl))) (den_str _ _ _)) (den_name "goal" _ (by kernel_rfl) (by kernel_rfl))) (den_str _ _ _)) (den_name "word" _ (by kernel_rfl) (by kernel_rfl))) (den_str _ _ _))) dens_nil)
noncomputable def fPre_k1  : Slots → Option (AFlow × Slots) := fun ρ => (((((getV ρ "top") >>= fun a => (((((getV ρ "flag") >>= fun a => (some .none) >>= fun b => cmpA .Is a b)) >>= fun x => if x = true then (some (.int 1)) else ((((((((((getV ρ "left") >>= negA)) >>= fun a => (getV ρ "column") >>= fun b => binA .FloorDiv a b)) >>= negA)) >>= fun a => ((((((((getV ρ "right") >>= negA)) >>= fun a => (getV ρ "column") >>= fun b => binA .FloorDiv a b)) >>= negA)) >>= fun a => ((some (.int 1)) >>= fun a => (some []) >>= fun l => some (a :: l)) >>= fun l => some (a :: l)) >>= fun l => some (a :: l)) >>= max3)))) >>= fun b => binA .Add a b)) >>= fun a => some (.next, Slots.set ρ "top" (.val a))) >>= thenA (fun ρ => some (.next, ρ)))
noncomputable def fPre_k2  : Slots → Option (AFlow × Slots) := fun ρ => (((getV ρ "flag") >>= fun a => some (.next, Slots.set ρ "before" (.val a))) >>= thenA fPre_k1)
noncomputable def fPre_k3  : Slots → Option (AFlow × Slots) := fun ρ => (((((truthN ρ "flag") >>= fun b => if b = true then (((((truthN ρ "before").map (!·))) >>= fun b => if b = true then (some true) else some false)) else some false)) >>= fun b => if b = true then ((((getO ρ "starts") >>= fun l => (getV ρ "top") >>= fun a => if l.items.length ≤ 1000000 then some (.next, Slots.set ρ "starts" (.own ⟨l.place, l.items ++ [a]⟩)) else none) >>= thenA (fun ρ => some (.next, ρ)))) else (some (.next, ρ))) >>= thenA fPre_k2)
noncomputable def fPre_k4  : Slots → Option (AFlow × Slots) := fun ρ => (((getO ρ "rows") >>= fun l => (((((((some (.int 1)) >>= fun a => ((((some (.str "a")) >>= fun a => (getV ρ "left") >>= fun b => binA .Mult a b)) >>= fun a => (some []) >>= fun l => some (a :: l)) >>= fun l => some (a :: l)) >>= fun l => if l.length ≤ 1000000 then some (.tup l) else none)) >>= fun a => (((((some (.int 1)) >>= fun a => ((((some (.str "b")) >>= fun a => (getV ρ "right") >>= fun b => binA .Mult a b)) >>= fun a => (some []) >>= fun l => some (a :: l)) >>= fun l => some (a :: l)) >>= fun l => if l.length ≤ 1000000 then some (.tup l) else none)) >>= fun a => ((getV ρ "flag") >>= fun a => (some []) >>= fun l => some (a :: l)) >>= fun l => some (a :: l)) >>= fun l => some (a :: l)) >>= fun l => if l.length ≤ 1000000 then some (.tup l) else none)) >>= fun a => if l.items.length ≤ 1000000 then some (.next, Slots.set ρ "rows" (.own ⟨l.place, l.items ++ [a]⟩)) else none) >>= thenA fPre_k3)
noncomputable def fPre_T5  : AV → Slots → Option Slots := (fun a ρ => some (Slots.set ρ "x" (.val a)))
noncomputable def fPre_B6  : Slots → Option (AFlow × Slots) := fun ρ => (((((((((some (.bool true)) >>= fun a => ((some (.bool false)) >>= fun a => ((some .none) >>= fun a => (some []) >>= fun l => some (a :: l)) >>= fun l => some (a :: l)) >>= fun l => some (a :: l)) >>= fun l => if l.length ≤ 1000000 then some (.lst l) else none)) >>= fun o => (((getV ρ "x") >>= fun a => (some (.int 3)) >>= fun b => binA .Mod a b)) >>= fun i => idxA o i)) >>= fun a => ((((((getV ρ "x") >>= fun a => (some (.int 3)) >>= fun b => binA .FloorDiv a b)) >>= fun a => (some (.int 12)) >>= fun b => binA .Mod a b)) >>= fun a => ((((((getV ρ "x") >>= fun a => (some (.int 36)) >>= fun b => binA .FloorDiv a b)) >>= fun a => (some (.int 12)) >>= fun b => binA .Mod a b)) >>= fun a => (some []) >>= fun l => some (SV.val a :: l)) >>= fun l => some (SV.val a :: l)) >>= fun l => some (SV.val a :: l)) >>= fun l => if l.length = 3 ∧ l.length ≤ 1000000 then some (.next, setMany ρ ["right", "left", "flag"] l.reverse) else none) >>= thenA fPre_k4)
noncomputable def fPre_k7  : Slots → Option (AFlow × Slots) := fun ρ => (((((((getV ρ "script") >>= fun o => ((some (.int 2)) >>= fun a => (asInt a).map some) >>= fun i => (some none) >>= fun j => cutA o i j)) >>= iterA)) >>= fun items => forA fPre_T5 fPre_B6 items ρ) >>= thenA (fun ρ => some (.next, ρ)))
noncomputable def fPre_k8  : Slots → Option (AFlow × Slots) := fun ρ => ((((((some []) >>= fun l => if l.length ≤ 1000000 then some l else none)) >>= fun a => ((((some []) >>= fun l => if l.length ≤ 1000000 then some l else none)) >>= fun a => ((some (.int 0)) >>= fun a => ((some .none) >>= fun a => (some []) >>= fun l => some (SV.val a :: l)) >>= fun l => some (SV.val a :: l)) >>= fun l => some (SV.own ⟨none, a⟩ :: l)) >>= fun l => some (SV.own ⟨none, a⟩ :: l)) >>= fun l => if l.length = 4 ∧ l.length ≤ 1000000 then some (.next, setMany ρ ["rows", "starts", "top", "before"] l) else none) >>= thenA fPre_k7)
noncomputable def fPre_k9  : Slots → Option (AFlow × Slots) := fun ρ => ((((((getV ρ "around") >>= fun a => (some []) >>= fun l => some (a :: l)) >>= absF)) >>= fun a => some (.next, Slots.set ρ "around" (.val a))) >>= thenA fPre_k8)
noncomputable def fPre_k10  : Slots → Option (AFlow × Slots) := fun ρ => ((((((((getV ρ "way") >>= fun a => (some (.int 5)) >>= fun b => binA .Mod a b)) >>= fun a => (some (.int 1)) >>= fun b => binA .Add a b)) >>= fun a => ((((((((getV ρ "way") >>= fun a => (some (.int 5)) >>= fun b => binA .FloorDiv a b)) >>= fun a => (some (.int 2)) >>= fun b => binA .Mod a b)) >>= fun a => (some (.int 0)) >>= fun b => (cmpA .Eq a b).map AV.bool)) >>= fun a => ((((((some (.str "to")) >>= fun a => ((((((((getV ρ "way") >>= fun a => (some (.int 10)) >>= fun b => binA .FloorDiv a b)) >>= fun a => (some (.int 1000)) >>= fun b => binA .Mod a b)) >>= fun a => (some []) >>= fun l => some (a :: l)) >>= strF)) >>= fun b => binA .Add a b)) >>= fun a => (some (.str "_")) >>= fun b => binA .Add a b)) >>= fun a => (some []) >>= fun l => some (SV.val a :: l)) >>= fun l => some (SV.val a :: l)) >>= fun l => some (SV.val a :: l)) >>= fun l => if l.length = 3 ∧ l.length ≤ 1000000 then some (.next, setMany ρ ["name", "part", "column"] l.reverse) else none) >>= thenA fPre_k9)
noncomputable def fPre  : Slots → Option (AFlow × Slots) := fun ρ => (((((((((getV ρ "script") >>= fun a => ((((some (.int 0)) >>= fun a => ((some (.int 0)) >>= fun a => (some []) >>= fun l => some (a :: l)) >>= fun l => some (a :: l)) >>= fun l => if l.length ≤ 1000000 then some (.lst l) else none)) >>= fun b => binA .Add a b)) >>= fun o => (some none) >>= fun i => ((some (.int 2)) >>= fun a => (asInt a).map some) >>= fun j => cutA o i j)) >>= fun a => some (a, ρ))) >>= fun r => (fun a ρ => seqA a >>= fun l => if l.length = 2 then (headTg (fun a ρ => some (Slots.set ρ "way" (.val a))) (headTg (fun a ρ => some (Slots.set ρ "around" (.val a))) (fun _ ρ => some ρ))) l ρ else none) r.1 r.2 >>= fun ρ₂ => some (.next, ρ₂)) >>= thenA fPre_k10)
theorem fPre_den  : DenSs (W03 w h₀ mg mb os X Z₀) d scLaw bdPre fPre :=
  (dens_cons (den_assignT (denx_of (den_cut (den_bin (den_name "script" _ (by kernel_rfl) (by kernel_rfl)) (den_list (denPs_cons (den_int _ _ _) (denPs_cons (den_int _ _ _) denPs_nil (fun _ => rfl)) (fun _ => rfl)))) part_none (part_some (den_int _ _ _)))) (tg_tuple (tgs_cons (tg_name (.inl (by kernel_rfl))) (tgs_cons (tg_name (.inr ⟨(by kernel_rfl), by decide +kernel⟩)) tgs_nil (fun _ => rfl)) (fun _ => rfl)) (fun _ => rfl) (fun _ => rfl)) (fun env he => by cases env; cases he; rfl) (fun env he => by cases env; cases he; rfl) (fun _ => rfl)) (dens_cons (den_assign_swap (names := ["column", "part", "name"]) (es_val (den_bin (den_bin (den_name "way" _ (by kernel_rfl) (by kernel_rfl)) (den_int _ _ _)) (den_int _ _ _)) (es_val (den_cmp (den_bin (den_bin (den_name "way" _ (by kernel_rfl) (by kernel_rfl)) (den_int _ _ _)) (den_int _ _ _)) (den_int _ _ _) rfl) (es_val (den_bin (den_bin (den_str _ _ _) (den_call gl_str (by kernel_rfl) (by kernel_rfl) (keep_type _) (denPs_cons (den_bin (den_bin (den_name "way" _ (by kernel_rfl) (by kernel_rfl)) (den_int _ _ _)) (den_int _ _ _)) denPs_nil (fun _ => rfl)) (fun _ _ => rfl) spec_str)) (den_str _ _ _)) es_nil (fun _ => rfl)) (fun _ => rfl)) (fun _ => rfl)) (fun x hx => kinds_in (l := ["column", "part", "name"]) (by kernel_rfl) x hx) (fun env he => by cases env; cases he; rfl) (fun env he => by cases env; cases he; kernel_rfl)) (dens_cons (den_assign (den_call gl_abs (by kernel_rfl) (by kernel_rfl) (keep_builtin _) (denPs_cons (den_name "around" _ (by kernel_rfl) (by kernel_rfl)) denPs_nil (fun _ => rfl)) (fun _ _ => rfl) spec_abs) (.inr ⟨(by kernel_rfl), by decide +kernel⟩) (fun _ => rfl)) (dens_cons (den_assign_names (xs := [("rows", _), ("starts", _), ("top", _), ("before", _)]) (es_own (deno_list denPs_nil) (es_own (deno_list denPs_nil) (es_val (den_int _ _ _) (es_val (den_none _ _) es_nil (fun _ => rfl)) (fun _ => rfl)) (fun _ => rfl)) (fun _ => rfl)) (fun x hx => kinds_in (l := ["rows", "starts", "top", "before"]) (by kernel_rfl) x hx) (fun env he => by cases env; cases he; rfl) (fun env he => by cases env; cases he; kernel_rfl)) (dens_cons (den_for (it_val (den_cut (den_name "script" _ (by kernel_rfl) (by kernel_rfl)) (part_some (den_int _ _ _)) part_none) (by constructor)) (tg_name (.inl (by kernel_rfl))) (dens_cons (den_assign_swap (names := ["flag", "left", "right"]) (es_val (den_idx (den_list (denPs_cons (den_bool _ _ _) (denPs_cons (den_bool _ _ _) (denPs_cons (den_none _ _) denPs_nil (fun _ => rfl)) (fun _ => rfl)) (fun _ => rfl))) (den_bin (den_name "x" _ (by kernel_rfl) (by kernel_rfl)) (den_int _ _ _)) (fun _ _ => rfl)) (es_val (den_bin (den_bin (den_name "x" _ (by kernel_rfl) (by kernel_rfl)) (den_int _ _ _)) (den_int _ _ _)) (es_val (den_bin (den_bin (den_name "x" _ (by kernel_rfl) (by kernel_rfl)) (den_int _ _ _)) (den_int _ _ _)) es_nil (fun _ => rfl)) (fun _ => rfl)) (fun _ => rfl)) (fun x hx => kinds_in (l := ["flag", "left", "right"]) (by kernel_rfl) x hx) (fun env he => by cases env; cases he; rfl) (fun env he => by cases env; cases he; kernel_rfl)) (dens_cons (den_append (den_tuple (denPs_cons (den_tuple (denPs_cons (den_int _ _ _) (denPs_cons (den_bin (den_str _ _ _) (den_name "left" _ (by kernel_rfl) (by kernel_rfl))) denPs_nil (fun _ => rfl)) (fun _ => rfl))) (denPs_cons (den_tuple (denPs_cons (den_int _ _ _) (denPs_cons (den_bin (den_str _ _ _) (den_name "right" _ (by kernel_rfl) (by kernel_rfl))) denPs_nil (fun _ => rfl)) (fun _ => rfl))) (denPs_cons (den_name "flag" _ (by kernel_rfl) (by kernel_rfl)) denPs_nil (fun _ => rfl)) (fun _ => rfl)) (fun _ => rfl))) (by kernel_rfl) (by kernel_rfl) (fun _ => rfl) rfl) (dens_cons (den_if (denT_bool (denTs_and (denT_name (by kernel_rfl) (by kernel_rfl)) (denTs_and (denT_not (denT_name (by kernel_rfl) (by kernel_rfl))) denTs_and0))) (dens_cons (den_append (den_name "top" _ (by kernel_rfl) (by kernel_rfl)) (by kernel_rfl) (by kernel_rfl) (fun _ => rfl) rfl) dens_nil) dens_nil) (dens_cons (den_assign (den_name "flag" _ (by kernel_rfl) (by kernel_rfl)) (.inl (by kernel_rfl)) (fun _ => rfl)) (dens_cons (den_assign (den_bin (den_name "top" _ (by kernel_rfl) (by kernel_rfl)) (den_ite (denT_cmp (den_name "flag" _ (by kernel_rfl) (by kernel_rfl)) (den_none _ _) rfl) (den_int _ _ _) (den_call gl_max (by kernel_rfl) (by kernel_rfl) (keep_builtin _) (denPs_cons (den_neg (den_bin (den_neg (den_name "left" _ (by kernel_rfl) (by kernel_rfl))) (den_name "column" _ (by kernel_rfl) (by kernel_rfl)))) (denPs_cons (den_neg (den_bin (den_neg (den_name "right" _ (by kernel_rfl) (by kernel_rfl))) (den_name "column" _ (by kernel_rfl) (by kernel_rfl)))) (denPs_cons (den_int _ _ _) denPs_nil (fun _ => rfl)) (fun _ => rfl)) (fun _ => rfl)) (fun _ _ => rfl) spec_max3))) (.inl (by kernel_rfl)) (fun _ => rfl)) dens_nil))))) (fun _ _ => rfl)) dens_nil)))))
noncomputable def fPref  : Slots → Option AV := fun ρ => (((some (.str "from_")) >>= fun a => ((getV ρ "name") >>= fun a => (some []) >>= fun l => some (a :: l)) >>= fun l => some (a :: l)) >>= fun l => if l.length ≤ 1000000 then some (.lst l) else none)
theorem fPref_den  : DenP (W03 w h₀ mg mb os X Z₀) d scLaw tx03a fPref :=
  (den_list (denPs_cons (den_str _ _ _) (denPs_cons (den_name "name" _ (by kernel_rfl) (by kernel_rfl)) denPs_nil (fun _ => rfl)) (fun _ => rfl)))
noncomputable def fPost_T1 (GK GV : List AV → Option AV) : AV → Slots → Option Slots := (fun a ρ => some (Slots.set ρ "row" (.val a)))
noncomputable def fPost_f2 (GK GV : List AV → Option AV) : Slots → Option AV := fun ρ => ((getV ρ "row") >>= fun o => (some (.int 1)) >>= fun i => idxA o i)
noncomputable def fPost_T3 (GK GV : List AV → Option AV) : AV → Slots → Option Slots := (fun a ρ => some (Slots.set ρ "row" (.val a)))
noncomputable def fPost_f4 (GK GV : List AV → Option AV) : Slots → Option AV := fun ρ => ((getV ρ "row") >>= fun o => (some (.int 0)) >>= fun i => idxA o i)
noncomputable def fPost_T5 (GK GV : List AV → Option AV) : AV → Slots → Option Slots := (fun a ρ => some (Slots.set ρ "row" (.val a)))
noncomputable def fPost_f6 (GK GV : List AV → Option AV) : Slots → Option AV := fun ρ => ((getV ρ "row") >>= fun o => (some (.int 2)) >>= fun i => idxA o i)
noncomputable def fPost_T7 (GK GV : List AV → Option AV) : AV → Slots → Option Slots := (fun a ρ => some (Slots.set ρ "c" (.val a)))
noncomputable def fPost_f8 (GK GV : List AV → Option AV) : Slots → Option AV := fun ρ => getV ρ "c"
noncomputable def fPost_k9 (GK GV : List AV → Option AV) : Slots → Option (AFlow × Slots) := fun ρ => (((((getV ρ "k") >>= fun a => (((((getV ρ "starts") >>= fun a => ((((some (.int 0)) >>= fun a => (some []) >>= fun l => some (a :: l)) >>= fun l => if l.length ≤ 1000000 then some (.lst l) else none)) >>= fun b => binA .Add a b)) >>= fun o => (((((((((getV ρ "starts") >>= fun a => (some []) >>= fun l => some (a :: l)) >>= lenF)) >>= fun a => (some (.int 1)) >>= fun b => binA .Sub a b)) >>= fun a => ((some (.int 0)) >>= fun a => (some []) >>= fun l => some (a :: l)) >>= fun l => some (a :: l)) >>= max3)) >>= fun i => idxA o i)) >>= fun b => cmpA .Eq a b)) >>= fun b => if b = true then ((((getO ρ "links") >>= fun l => ((((getV ρ "name") >>= fun a => ((some (.str "top")) >>= fun a => ((some (.str "t")) >>= fun a => (some []) >>= fun l => some (a :: l)) >>= fun l => some (a :: l)) >>= fun l => some (a :: l)) >>= GK)) >>= fun a => if l.items.length ≤ 1000000 then some (.next, Slots.set ρ "links" (.own ⟨l.place, l.items ++ [a]⟩)) else none) >>= thenA (fun ρ => some (.next, ρ)))) else ((((((getV ρ "k") >>= fun a => (getV ρ "starts") >>= fun b => cmpA .In a b)) >>= fun b => if b = true then ((((getO ρ "links") >>= fun l => ((((getV ρ "name") >>= fun a => (((((((((getV ρ "starts") >>= fun a => a.lst? >>= fun x => ((getV ρ "k") >>= fun a => (some []) >>= fun l => some (a :: l)) >>= fun l => indexF (.lst x :: l))) >>= fun a => (some (.int 1)) >>= fun b => binA .Add a b)) >>= fun a => (some []) >>= fun l => some (a :: l)) >>= strF)) >>= fun a => ((some (.str "n")) >>= fun a => (some []) >>= fun l => some (a :: l)) >>= fun l => some (a :: l)) >>= fun l => some (a :: l)) >>= GK)) >>= fun a => if l.items.length ≤ 1000000 then some (.next, Slots.set ρ "links" (.own ⟨l.place, l.items ++ [a]⟩)) else none) >>= thenA (fun ρ => some (.next, ρ)))) else ((((getO ρ "links") >>= fun l => (((((getV ρ "k") >>= fun a => (some (.int 0)) >>= fun b => cmpA .Eq a b)) >>= fun x => if x = true then ((((getV ρ "name") >>= fun a => ((some (.str "0")) >>= fun a => ((some (.str "f")) >>= fun a => (some []) >>= fun l => some (a :: l)) >>= fun l => some (a :: l)) >>= fun l => some (a :: l)) >>= GK)) else (some (.str "")))) >>= fun a => if l.items.length ≤ 1000000 then some (.next, Slots.set ρ "links" (.own ⟨l.place, l.items ++ [a]⟩)) else none) >>= thenA (fun ρ => some (.next, ρ))))) >>= thenA (fun ρ => some (.next, ρ))))) >>= thenA (fun ρ => some (.next, ρ)))
noncomputable def fPost_z10 (GK GV : List AV → Option AV) : Slots → Option (AFlow × Slots) := fun ρ => (((getO ρ "anchors") >>= fun l => (((((getV ρ "here") >>= fun a => (((some []) >>= fun l => if l.length ≤ 1000000 then some (.lst l) else none)) >>= fun b => cmpA .NotEq a b)) >>= fun x => if x = true then (((((((((some (.str " id=\"difflib_chg_")) >>= fun a => (getV ρ "name") >>= fun b => binA .Add a b)) >>= fun a => (some (.str "_")) >>= fun b => binA .Add a b)) >>= fun a => ((((((getV ρ "here") >>= fun o => (((some (.int 1)) >>= negA)) >>= fun i => idxA o i)) >>= fun a => (some []) >>= fun l => some (a :: l)) >>= strF)) >>= fun b => binA .Add a b)) >>= fun a => (some (.str "\"")) >>= fun b => binA .Add a b)) else (some (.str "")))) >>= fun a => if l.items.length ≤ 1000000 then some (.next, Slots.set ρ "anchors" (.own ⟨l.place, l.items ++ [a]⟩)) else none) >>= thenA (fPost_k9 GK GV))
noncomputable def fPost_k11 (GK GV : List AV → Option AV) : Slots → Option (AFlow × Slots) := fun ρ => ((fPost_z10 GK GV) (freeze "here" ρ))
noncomputable def fPost_T12 (GK GV : List AV → Option AV) : AV → Slots → Option Slots := (fun a ρ => some (Slots.set ρ "k" (.val a)))
noncomputable def fPost_B13 (GK GV : List AV → Option AV) : Slots → Option (AFlow × Slots) := fun ρ => (((((((((getV ρ "starts") >>= fun a => (some []) >>= fun l => some (a :: l)) >>= lenF)) >>= fun a => (some []) >>= fun l => some (a :: l)) >>= rangeA)) >>= fun items => if items.length ≤ 1000000 then compA (fPost_T7 GK GV) (fun ρ => (((((some (.int 0)) >>= fun a => ((((((getV ρ "starts") >>= fun o => (getV ρ "c") >>= fun i => idxA o i)) >>= fun a => (getV ρ "around") >>= fun b => binA .Sub a b)) >>= fun a => (some []) >>= fun l => some (a :: l)) >>= fun l => some (a :: l)) >>= max3)) >>= fun a => (getV ρ "k") >>= fun b => cmpA .Eq a b)) (fPost_f8 GK GV) items (only ["around", "k", "starts"] ρ) >>= fun l => some (.next, Slots.set ρ "here" (.own ⟨none, l⟩)) else none) >>= thenA (fPost_k11 GK GV))
noncomputable def fPost_k14 (GK GV : List AV → Option AV) : Slots → Option (AFlow × Slots) := fun ρ => ((((((some (.bool false)) >>= fun a => (some []) >>= fun l => some (a :: l)) >>= fun l => if l.length ≤ 1000000 then some l else none)) >>= fun l => some (.next, Slots.set ρ "flags" (.own ⟨none, l⟩))) >>= thenA (fun ρ => some (.next, ρ)))
noncomputable def fPost_k15 (GK GV : List AV → Option AV) : Slots → Option (AFlow × Slots) := fun ρ => ((((((((((some (.str "<td></td><td>&nbsp;")) >>= fun a => (getV ρ "words") >>= fun b => binA .Add a b)) >>= fun a => (some (.str "&nbsp;</td>")) >>= fun b => binA .Add a b)) >>= fun a => (some []) >>= fun l => some (a :: l)) >>= fun l => if l.length ≤ 1000000 then some (.lst l) else none)) >>= fun a => some (.next, Slots.set (Slots.set ρ "ones" (.val a)) "others" (.val a))) >>= thenA (fPost_k14 GK GV))
noncomputable def fPost_z16 (GK GV : List AV → Option AV) : Slots → Option (AFlow × Slots) := fun ρ => (((((getV ρ "told") >>= fun a => ((((getV ρ "ones") >>= fun a => ((getV ρ "others") >>= fun a => ((getV ρ "flags") >>= fun a => ((getV ρ "links") >>= fun a => ((getV ρ "anchors") >>= fun a => (some []) >>= fun l => some (a :: l)) >>= fun l => some (a :: l)) >>= fun l => some (a :: l)) >>= fun l => some (a :: l)) >>= fun l => some (a :: l)) >>= fun l => if l.length ≤ 1000000 then some (.tup l) else none)) >>= fun b => (cmpA .Eq a b).map AV.bool)) >>= fun a => some (.ret a, ρ)) >>= thenA (fun ρ => some (.next, ρ)))
noncomputable def fPost_z17 (GK GV : List AV → Option AV) : Slots → Option (AFlow × Slots) := fun ρ => ((fPost_z16 GK GV) (freeze "anchors" ρ))
noncomputable def fPost_z18 (GK GV : List AV → Option AV) : Slots → Option (AFlow × Slots) := fun ρ => ((fPost_z17 GK GV) (freeze "links" ρ))
noncomputable def fPost_k19 (GK GV : List AV → Option AV) : Slots → Option (AFlow × Slots) := fun ρ => ((fPost_z18 GK GV) (freeze "flags" ρ))
noncomputable def fPost_k20 (GK GV : List AV → Option AV) : Slots → Option (AFlow × Slots) := fun ρ => (((((getV ρ "flags") >>= fun a => (((some []) >>= fun l => if l.length ≤ 1000000 then some (.lst l) else none)) >>= fun b => cmpA .Eq a b)) >>= fun b => if b = true then ((((((truthN ρ "part") >>= fun x => if x = true then (some (.str "No Differences Found")) else (some (.str "Empty File")))) >>= fun a => some (.next, Slots.set ρ "words" (.val a))) >>= thenA (fPost_k15 GK GV))) else (some (.next, ρ))) >>= thenA (fPost_k19 GK GV))
noncomputable def fPost_z21 (GK GV : List AV → Option AV) : Slots → Option (AFlow × Slots) := fun ρ => (((((((((getV ρ "top") >>= fun a => ((some (.int 1)) >>= fun a => (some []) >>= fun l => some (a :: l)) >>= fun l => some (a :: l)) >>= max3)) >>= fun a => (some []) >>= fun l => some (a :: l)) >>= rangeA)) >>= fun items => forA (fPost_T12 GK GV) (fPost_B13 GK GV) items ρ) >>= thenA (fPost_k20 GK GV))
noncomputable def fPost_k22 (GK GV : List AV → Option AV) : Slots → Option (AFlow × Slots) := fun ρ => ((fPost_z21 GK GV) (freeze "starts" ρ))
noncomputable def fPost_k23 (GK GV : List AV → Option AV) : Slots → Option (AFlow × Slots) := fun ρ => ((((((some []) >>= fun l => if l.length ≤ 1000000 then some l else none)) >>= fun a => ((((some []) >>= fun l => if l.length ≤ 1000000 then some l else none)) >>= fun a => (some []) >>= fun l => some (SV.own ⟨none, a⟩ :: l)) >>= fun l => some (SV.own ⟨none, a⟩ :: l)) >>= fun l => if l.length = 2 ∧ l.length ≤ 1000000 then some (.next, setMany ρ ["links", "anchors"] l.reverse) else none) >>= thenA (fPost_k22 GK GV))
noncomputable def fPost_k24 (GK GV : List AV → Option AV) : Slots → Option (AFlow × Slots) := fun ρ => (((((((getV ρ "sheet") >>= fun self => ((((getV ρ "ones") >>= fun o => (some none) >>= fun i => (some none) >>= fun j => cutA o i j)) >>= fun a => ((((getV ρ "others") >>= fun o => (some none) >>= fun i => (some none) >>= fun j => cutA o i j)) >>= fun a => ((((getV ρ "flags") >>= fun o => (some none) >>= fun i => (some none) >>= fun j => cutA o i j)) >>= fun a => ((getV ρ "part") >>= fun a => ((getV ρ "around") >>= fun a => (some []) >>= fun l => some (a :: l)) >>= fun l => some (a :: l)) >>= fun l => some (a :: l)) >>= fun l => some (a :: l)) >>= fun l => some (a :: l)) >>= fun args => methA 113 "_convert_flags" GV self args)) >>= fun a => (getV ρ "told") >>= fun b => cmpA .NotEq a b)) >>= fun b => if b = true then ((((some (.bool false)) >>= fun a => some (.ret a, ρ)) >>= thenA (fun ρ => some (.next, ρ)))) else (some (.next, ρ))) >>= thenA (fPost_k23 GK GV))
noncomputable def fPost_z25 (GK GV : List AV → Option AV) : Slots → Option (AFlow × Slots) := fun ρ => (((((getV ρ "sheet") >>= fun self => ((((getV ρ "ones") >>= fun o => (some none) >>= fun i => (some none) >>= fun j => cutA o i j)) >>= fun a => ((((getV ρ "others") >>= fun o => (some none) >>= fun i => (some none) >>= fun j => cutA o i j)) >>= fun a => ((((getV ρ "flags") >>= fun o => (some none) >>= fun i => (some none) >>= fun j => cutA o i j)) >>= fun a => ((getV ρ "part") >>= fun a => ((getV ρ "around") >>= fun a => (some []) >>= fun l => some (a :: l)) >>= fun l => some (a :: l)) >>= fun l => some (a :: l)) >>= fun l => some (a :: l)) >>= fun l => some (a :: l)) >>= fun args => methA 113 "_convert_flags" GV self args)) >>= fun a => some (.next, Slots.set ρ "told" (.val a))) >>= thenA (fPost_k24 GK GV))
noncomputable def fPost_k26 (GK GV : List AV → Option AV) : Slots → Option (AFlow × Slots) := fun ρ => ((fPost_z25 GK GV) (freeze "flags" ρ))
noncomputable def fPost_k27 (GK GV : List AV → Option AV) : Slots → Option (AFlow × Slots) := fun ρ => (((((getV ρ "table") >>= iterA)) >>= fun items => if items.length ≤ 1000000 then compA (fPost_T5 GK GV) (fun _ => some true) (fPost_f6 GK GV) items (only [] ρ) >>= fun l => some (.next, Slots.set ρ "flags" (.own ⟨none, l⟩)) else none) >>= thenA (fPost_k26 GK GV))
noncomputable def fPost (GK GV : List AV → Option AV) : Slots → Option (AFlow × Slots) := fun ρ => ((((((((((getV ρ "table") >>= iterA)) >>= fun items => if items.length ≤ 1000000 then compA (fPost_T3 GK GV) (fun _ => some true) (fPost_f4 GK GV) items (only [] ρ) else none)).map AV.lst)) >>= fun a => ((((((((getV ρ "table") >>= iterA)) >>= fun items => if items.length ≤ 1000000 then compA (fPost_T1 GK GV) (fun _ => some true) (fPost_f2 GK GV) items (only [] ρ) else none)).map AV.lst)) >>= fun a => (some []) >>= fun l => some (SV.val a :: l)) >>= fun l => some (SV.val a :: l)) >>= fun l => if l.length = 2 ∧ l.length ≤ 1000000 then some (.next, setMany ρ ["others", "ones"] l.reverse) else none) >>= thenA (fPost_k27 GK GV))
theorem fPost_den {GK GV : List AV → Option AV} (hK : FSpec (W03 w h₀ mg mb os X Z₀) d (.ref 124) GK) (hV : FSpec (W03 w h₀ mg mb os X Z₀) d (.ref 102) GV) : DenSs (W03 w h₀ mg mb os X Z₀) d scLaw bdPost (fPost GK GV) :=
  (dens_cons (den_assign_swap (names := ["ones", "others"]) (es_val (den_ofO (deno_compx [] (by kernel_rfl) (compScope (by kernel_rfl)) (it_val (den_name "table" _ (by kernel_rfl) (by kernel_rfl)) (by constructor)) (tgc_name (by kernel_rfl)) ifs_nil (den_idx (den_name "row" _ (by kernel_rfl) (by kernel_rfl)) (den_int _ _ _) (fun _ _ => rfl)) (fun _ _ => rfl))) (es_val (den_ofO (deno_compx [] (by kernel_rfl) (compScope (by kernel_rfl)) (it_val (den_name "table" _ (by kernel_rfl) (by kernel_rfl)) (by constructor)) (tgc_name (by kernel_rfl)) ifs_nil (den_idx (den_name "row" _ (by kernel_rfl) (by kernel_rfl)) (den_int _ _ _) (fun _ _ => rfl)) (fun _ _ => rfl))) es_nil (fun _ => rfl)) (fun _ => rfl)) (fun x hx => kinds_in (l := ["ones", "others"]) (by kernel_rfl) x hx) (fun env he => by cases env; cases he; rfl) (fun env he => by cases env; cases he; kernel_rfl)) (dens_cons (den_assign_compx [] (by kernel_rfl) (compScope (by kernel_rfl)) (it_val (den_name "table" _ (by kernel_rfl) (by kernel_rfl)) (by constructor)) (tgc_name (by kernel_rfl)) ifs_nil (den_idx (den_name "row" _ (by kernel_rfl) (by kernel_rfl)) (den_int _ _ _) (fun _ _ => rfl)) (fun _ _ => rfl) (by kernel_rfl) rfl (by kernel_rfl)) (dens_freeze "flags" (dens_cons (den_assign (den_methF (den_name "sheet" _ (by kernel_rfl) (by kernel_rfl)) (denPs_cons (den_cut (den_name "ones" _ (by kernel_rfl) (by kernel_rfl)) part_none part_none) (denPs_cons (den_cut (den_name "others" _ (by kernel_rfl) (by kernel_rfl)) part_none part_none) (denPs_cons (den_cut (den_name "flags" _ (by kernel_rfl) (by kernel_rfl)) part_none part_none) (denPs_cons (den_name "part" _ (by kernel_rfl) (by kernel_rfl)) (denPs_cons (den_name "around" _ (by kernel_rfl) (by kernel_rfl)) denPs_nil (fun _ => rfl)) (fun _ => rfl)) (fun _ => rfl)) (fun _ => rfl)) (fun _ => rfl)) (fun _ _ => rfl) mc_get mc_find mc_fn mc_keep (fun _ _ => _) (fun _ => rfl) hV) (.inl (by kernel_rfl)) (fun _ => rfl)) (dens_cons (den_if (denT_cmp (den_methF (den_name "sheet" _ (by kernel_rfl) (by kernel_rfl)) (denPs_cons (den_cut (den_name "ones" _ (by kernel_rfl) (by kernel_rfl)) part_none part_none) (denPs_cons (den_cut (den_name "others" _ (by kernel_rfl) (by kernel_rfl)) part_none part_none) (denPs_cons (den_cut (den_name "flags" _ (by kernel_rfl) (by kernel_rfl)) part_none part_none) (denPs_cons (den_name "part" _ (by kernel_rfl) (by kernel_rfl)) (denPs_cons (den_name "around" _ (by kernel_rfl) (by kernel_rfl)) denPs_nil (fun _ => rfl)) (fun _ => rfl)) (fun _ => rfl)) (fun _ => rfl)) (fun _ => rfl)) (fun _ _ => rfl) mc_get mc_find mc_fn mc_keep (fun _ _ => _) (fun _ => rfl) hV) (den_name "told" _ (by kernel_rfl) (by kernel_rfl)) rfl) (dens_cons (den_return (den_bool _ _ _)) dens_nil) dens_nil) (dens_cons (den_assign_swap (names := ["anchors", "links"]) (es_own (deno_list denPs_nil) (es_own (deno_list denPs_nil) es_nil (fun _ => rfl)) (fun _ => rfl)) (fun x hx => kinds_in (l := ["anchors", "links"]) (by kernel_rfl) x hx) (fun env he => by cases env; cases he; rfl) (fun env he => by cases env; cases he; kernel_rfl)) (dens_freeze "starts" (dens_cons (den_for (it_range gl_range (by kernel_rfl) (denPs_cons (den_call gl_max (by kernel_rfl) (by kernel_rfl) (keep_builtin _) (denPs_cons (den_name "top" _ (by kernel_rfl) (by kernel_rfl)) (denPs_cons (den_int _ _ _) denPs_nil (fun _ => rfl)) (fun _ => rfl)) (fun _ _ => rfl) spec_max3) denPs_nil (fun _ => rfl)) (fun _ _ => rfl) (by constructor)) (tg_name (.inr ⟨(by kernel_rfl), by decide +kernel⟩)) (dens_cons (den_assign_compx ["around", "k", "starts"] (by kernel_rfl) (compScope (by kernel_rfl)) (it_range gl_range (by kernel_rfl) (denPs_cons (den_call gl_len (by kernel_rfl) (by kernel_rfl) (keep_builtin _) (denPs_cons (den_name "starts" _ (by kernel_rfl) (by kernel_rfl)) denPs_nil (fun _ => rfl)) (fun _ _ => rfl) spec_len) denPs_nil (fun _ => rfl)) (fun _ _ => rfl) (by constructor)) (tgc_name (by kernel_rfl)) (ifs_one (denT_cmp (den_call gl_max (by kernel_rfl) (by kernel_rfl) (keep_builtin _) (denPs_cons (den_int _ _ _) (denPs_cons (den_bin (den_idx (den_name "starts" _ (by kernel_rfl) (by kernel_rfl)) (den_name "c" _ (by kernel_rfl) (by kernel_rfl)) (fun _ _ => rfl)) (den_name "around" _ (by kernel_rfl) (by kernel_rfl))) denPs_nil (fun _ => rfl)) (fun _ => rfl)) (fun _ _ => rfl) spec_max3) (den_name "k" _ (by kernel_rfl) (by kernel_rfl)) rfl)) (den_name "c" _ (by kernel_rfl) (by kernel_rfl)) (fun _ _ => rfl) (by kernel_rfl) rfl (by kernel_rfl)) (dens_freeze "here" (dens_cons (den_append (den_ite (denT_cmp (den_name "here" _ (by kernel_rfl) (by kernel_rfl)) (den_list denPs_nil) rfl) (den_bin (den_bin (den_bin (den_bin (den_str _ _ _) (den_name "name" _ (by kernel_rfl) (by kernel_rfl))) (den_str _ _ _)) (den_call gl_str (by kernel_rfl) (by kernel_rfl) (keep_type _) (denPs_cons (den_idx (den_name "here" _ (by kernel_rfl) (by kernel_rfl)) (den_neg (den_int _ _ _)) (fun _ _ => rfl)) denPs_nil (fun _ => rfl)) (fun _ _ => rfl) spec_str)) (den_str _ _ _)) (den_str _ _ _)) (by kernel_rfl) (by kernel_rfl) (fun _ => rfl) rfl) (dens_cons (den_if (denT_cmp (den_name "k" _ (by kernel_rfl) (by kernel_rfl)) (den_idx (den_bin (den_name "starts" _ (by kernel_rfl) (by kernel_rfl)) (den_list (denPs_cons (den_int _ _ _) denPs_nil (fun _ => rfl)))) (den_call gl_max (by kernel_rfl) (by kernel_rfl) (keep_builtin _) (denPs_cons (den_bin (den_call gl_len (by kernel_rfl) (by kernel_rfl) (keep_builtin _) (denPs_cons (den_name "starts" _ (by kernel_rfl) (by kernel_rfl)) denPs_nil (fun _ => rfl)) (fun _ _ => rfl) spec_len) (den_int _ _ _)) (denPs_cons (den_int _ _ _) denPs_nil (fun _ => rfl)) (fun _ => rfl)) (fun _ _ => rfl) spec_max3) (fun _ _ => rfl)) rfl) (dens_cons (den_append (den_call gl_link (by kernel_rfl) (by kernel_rfl) ke_link (denPs_cons (den_name "name" _ (by kernel_rfl) (by kernel_rfl)) (denPs_cons (den_str _ _ _) (denPs_cons (den_str _ _ _) denPs_nil (fun _ => rfl)) (fun _ => rfl)) (fun _ => rfl)) (fun _ _ => rfl) hK) (by kernel_rfl) (by kernel_rfl) (fun _ => rfl) rfl) dens_nil) (dens_cons (den_if (denT_cmp (den_name "k" _ (by kernel_rfl) (by kernel_rfl)) (den_name "starts" _ (by kernel_rfl) (by kernel_rfl)) rfl) (dens_cons (den_append (den_call gl_link (by kernel_rfl) (by kernel_rfl) ke_link (denPs_cons (den_name "name" _ (by kernel_rfl) (by kernel_rfl)) (denPs_cons (den_call gl_str (by kernel_rfl) (by kernel_rfl) (keep_type _) (denPs_cons (den_bin (den_meth_lst (den_name "starts" _ (by kernel_rfl) (by kernel_rfl)) (fun _ => rfl) (fun _ => rfl) rfl F.slot_list_index F.type_list_index (denPs_cons (den_name "k" _ (by kernel_rfl) (by kernel_rfl)) denPs_nil (fun _ => rfl)) (fun _ _ => rfl) spec_index) (den_int _ _ _)) denPs_nil (fun _ => rfl)) (fun _ _ => rfl) spec_str) (denPs_cons (den_str _ _ _) denPs_nil (fun _ => rfl)) (fun _ => rfl)) (fun _ => rfl)) (fun _ _ => rfl) hK) (by kernel_rfl) (by kernel_rfl) (fun _ => rfl) rfl) dens_nil) (dens_cons (den_append (den_ite (denT_cmp (den_name "k" _ (by kernel_rfl) (by kernel_rfl)) (den_int _ _ _) rfl) (den_call gl_link (by kernel_rfl) (by kernel_rfl) ke_link (denPs_cons (den_name "name" _ (by kernel_rfl) (by kernel_rfl)) (denPs_cons (den_str _ _ _) (denPs_cons (den_str _ _ _) denPs_nil (fun _ => rfl)) (fun _ => rfl)) (fun _ => rfl)) (fun _ _ => rfl) hK) (den_str _ _ _)) (by kernel_rfl) (by kernel_rfl) (fun _ => rfl) rfl) dens_nil)) dens_nil)) dens_nil)))) (fun _ _ => rfl)) (dens_cons (den_if (denT_cmp (den_name "flags" _ (by kernel_rfl) (by kernel_rfl)) (den_list denPs_nil) rfl) (dens_cons (den_assign (den_ite (denT_name (by kernel_rfl) (by kernel_rfl)) (den_str _ _ _) (den_str _ _ _)) (.inl (by kernel_rfl)) (fun _ => rfl)) (dens_cons (den_assign2 (den_list (denPs_cons (den_bin (den_bin (den_str _ _ _) (den_name "words" _ (by kernel_rfl) (by kernel_rfl))) (den_str _ _ _)) denPs_nil (fun _ => rfl))) (.inl (by kernel_rfl)) (.inl (by kernel_rfl)) (fun _ => rfl)) (dens_cons (den_assignO (deno_list (denPs_cons (den_bool _ _ _) denPs_nil (fun _ => rfl))) (.inl (by kernel_rfl)) (fun _ => rfl)) dens_nil))) dens_nil) (dens_freeze "flags" (dens_freeze "links" (dens_freeze "anchors" (dens_cons (den_return (den_cmp (den_name "told" _ (by kernel_rfl) (by kernel_rfl)) (den_tuple (denPs_cons (den_name "ones" _ (by kernel_rfl) (by kernel_rfl)) (denPs_cons (den_name "others" _ (by kernel_rfl) (by kernel_rfl)) (denPs_cons (den_name "flags" _ (by kernel_rfl) (by kernel_rfl)) (denPs_cons (den_name "links" _ (by kernel_rfl) (by kernel_rfl)) (denPs_cons (den_name "anchors" _ (by kernel_rfl) (by kernel_rfl)) denPs_nil (fun _ => rfl)) (fun _ => rfl)) (fun _ => rfl)) (fun _ => rfl)) (fun _ => rfl))) rfl)) dens_nil)))))))))))))
end
end Mine
end
section
set_option linter.unusedVariables false
namespace Mine
noncomputable def sts : List Bool → Nat → Bool → List Nat
  | [], _, _ => []
  | b :: r, i, c => (if (b && !c) = true then [i] else []) ++ sts r (i + 1) b
noncomputable def endB : Bool → List Bool → Bool
  | c, [] => c
  | _, b :: r => endB b r
theorem endB_append : ∀ (F G : List Bool) (c : Bool), endB c (F ++ G) = endB (endB c F) G
  | [], _, _ => rfl
  | b :: F, G, _ => endB_append F G b
theorem sts_append : ∀ (F G : List Bool) (i : Nat) (c : Bool), sts (F ++ G) i c = sts F i c ++ sts G (i + F.length) (endB c F)
  | [], _, _, _ => rfl
  | b :: F, G, i, c => by
    show (if (b && !c) = true then [i] else []) ++ sts (F ++ G) (i + 1) b = ((if (b && !c) = true then [i] else []) ++ sts F (i + 1) b) ++ sts G (i + (F.length + 1)) (endB b F)
    rw [sts_append F G, List.append_assoc, show i + 1 + F.length = i + (F.length + 1) by (first | lia | omega)]
theorem sts_same (b : Bool) : ∀ (n i : Nat), sts (List.replicate n b) i b = []
  | 0, _ => rfl
  | n + 1, i => by
    show (if (b && !b) = true then [i] else []) ++ sts (List.replicate n b) (i + 1) b = []
    rw [sts_same b n]; cases b <;> rfl
theorem sts_rep (n : Nat) (b : Bool) (i : Nat) (c : Bool) : sts (List.replicate (n + 1) b) i c = if (b && !c) = true then [i] else [] := by
  show (if (b && !c) = true then [i] else []) ++ sts (List.replicate n b) (i + 1) b = _
  rw [sts_same, List.append_nil]
theorem endB_same (b : Bool) : ∀ n, endB b (List.replicate n b) = b
  | 0 => rfl
  | n + 1 => endB_same b n
theorem endB_rep (n : Nat) (b c : Bool) : endB c (List.replicate (n + 1) b) = b := endB_same b n
theorem sts_bound : ∀ (F : List Bool) (i : Nat) (c : Bool), ∀ s ∈ sts F i c, i ≤ s ∧ s < i + F.length
  | [], _, _, s, h => by cases h
  | b :: F, i, c, s, h => by
    rcases List.mem_append.mp h with h | h
    · split at h
      · cases List.mem_singleton.mp h; simp
      · cases h
    · have := sts_bound F (i + 1) b s h; simp; (first | lia | omega)
theorem sts_lt : ∀ (F : List Bool) (i : Nat) (c : Bool), (sts F i c).Pairwise (· < ·)
  | [], _, _ => .nil
  | b :: F, i, c => by
    refine List.pairwise_append.mpr ⟨?_, sts_lt F (i + 1) b, fun a ha s hs => ?_⟩
    · split <;> simp
    · split at ha
      · cases List.mem_singleton.mp ha; exact (sts_bound F (i + 1) b s hs).1
      · cases ha
theorem sts_zero (b : Bool) (F : List Bool) : (0 ∈ sts (b :: F) 0 false) ↔ b = true := by
  constructor
  · intro h
    rcases List.mem_append.mp h with h | h
    · cases b
      · cases h
      · rfl
    · have := (sts_bound F 1 b 0 h).1; (first | lia | omega)
  · rintro rfl; exact List.mem_append_left _ (List.mem_singleton_self _)
section
variable {β : Type}
noncomputable def setAll (l : List β) (ps : List (Nat × β)) : List β := ps.foldl (fun l p => l.set p.1 p.2) l
theorem setAll_len : ∀ (ps : List (Nat × β)) (l : List β), (setAll l ps).length = l.length
  | [], _ => rfl
  | p :: ps, l => by show (setAll (l.set p.1 p.2) ps).length = _; rw [setAll_len ps, List.length_set]
noncomputable def lastAt (ps : List (Nat × β)) (k : Nat) (d : β) : β := match (ps.filter fun p => p.1 == k).getLast? with
  | some p => p.2
  | none => d
theorem lastAt_cons (p : Nat × β) (ps : List (Nat × β)) (k : Nat) (d : β) : lastAt (p :: ps) k d = lastAt ps k (if p.1 = k then p.2 else d) := by
  unfold lastAt
  by_cases h : p.1 = k
  · rw [List.filter_cons_of_pos (by simpa using h), if_pos h, List.getLast?_cons]
    cases (ps.filter fun p => p.1 == k).getLast? <;> rfl
  · rw [List.filter_cons_of_neg (by simpa using h), if_neg h]
theorem setAll_get : ∀ (ps : List (Nat × β)) (l : List β) (k : Nat) (d : β), l[k]? = some d → (setAll l ps)[k]? = some (lastAt ps k d)
  | [], l, k, d, h => h
  | p :: ps, l, k, d, h => by
    show (setAll (l.set p.1 p.2) ps)[k]? = _
    have hk : k < l.length := (List.getElem?_eq_some_iff.mp h).1
    rw [lastAt_cons]
    refine setAll_get ps _ k _ ?_
    rw [List.getElem?_set]
    by_cases e : p.1 = k
    · rw [if_pos e, if_pos e, if_pos (e ▸ hk)]
    · rw [if_neg e, if_neg e]; exact h
theorem lastAt_zip (S : List Nat) (q : Nat → Nat) (f : Nat → β) (k : Nat) (d : β) (n : Nat) : lastAt ((S.zipIdx n).map fun p => (q p.1, f p.2)) k d = match ((List.range S.length).filter fun c => q (S.getD c 0) == k).getLast? with | some c => f (c + n) | none => d := by
  have key : ∀ (S : List Nat) (n : Nat), ((S.zipIdx n).map fun p => (q p.1, f p.2)).filter (fun p => p.1 == k) = ((List.range S.length).filter fun c => q (S.getD c 0) == k).map fun c => (k, f (c + n)) := by
    intro S
    induction S with
    | nil => intro n; rfl
    | cons a S ih =>
      intro n
      rw [List.zipIdx_cons, List.map_cons, List.length_cons, List.range_succ_eq_map]
      have e : ((List.range S.length).map Nat.succ).filter (fun c => q ((a :: S).getD c 0) == k) = ((List.range S.length).filter fun c => q (S.getD c 0) == k).map Nat.succ := by
        rw [List.filter_map]; rfl
      have e2 : (((List.range S.length).filter fun c => q (S.getD c 0) == k).map fun c => (k, f (c + (n + 1)))) = (((List.range S.length).filter fun c => q (S.getD c 0) == k).map Nat.succ).map fun c => (k, f (c + n)) := by
        rw [List.map_map]; congr 1; funext c; show _ = (k, f (c + 1 + n)); rw [show c + (n + 1) = c + 1 + n by (first | lia | omega)]
      by_cases h : q a = k
      · rw [List.filter_cons_of_pos (by simpa using h), List.filter_cons_of_pos (by simpa using h), ih, e, List.map_cons, e2, h, Nat.zero_add]
      · rw [List.filter_cons_of_neg (by simpa using h), List.filter_cons_of_neg (by simpa using h), ih, e, e2]
  unfold lastAt
  rw [key, List.getLast?_map]
  cases ((List.range S.length).filter fun c => q (S.getD c 0) == k).getLast? <;> rfl
theorem lastAt_own : ∀ (S : List Nat) (f : Nat → β) (k : Nat) (d : β) (n : Nat), S.Pairwise (· < ·) → lastAt ((S.zipIdx n).map fun p => (p.1, f p.2)) k d = if k ∈ S then f (S.idxOf k + n) else d
  | [], f, k, d, n, _ => by simp [lastAt]
  | a :: S, f, k, d, n, h => by
    rw [List.zipIdx_cons, List.map_cons, lastAt_cons, lastAt_own S f k _ (n + 1) (List.pairwise_cons.mp h).2]
    by_cases e : a = k
    · subst e
      have : a ∉ S := fun hm => Nat.lt_irrefl _ ((List.pairwise_cons.mp h).1 a hm)
      rw [if_neg this, if_pos rfl, if_pos List.mem_cons_self, List.idxOf_cons_self, Nat.zero_add]
    · by_cases hm : k ∈ S
      · rw [if_pos hm, if_pos (List.mem_cons_of_mem _ hm), show (a :: S).idxOf k = S.idxOf k + 1 by rw [List.idxOf_cons, beq_eq_false_iff_ne.mpr e]; rfl]
        congr 1; (first | lia | omega)
      · have : k ∉ a :: S := fun h => (List.mem_cons.mp h).elim (fun e' => e e'.symm) hm
        rw [if_neg hm, if_neg this, if_neg e]
end
end Mine
end
section
set_option linter.unusedVariables false
namespace Mine
-- texts as lists of signs
noncomputable def tx (l : List Nat) : Str := ⟨l.toArray⟩
theorem tx_inj {a b : List Nat} : (tx a = tx b) ↔ a = b := by
  unfold tx
  constructor
  · intro h; have := congrArg Str.cps h; simpa using this
  · intro h; rw [h]
theorem tx_beq (a b : List Nat) : (tx a == tx b) = (a == b) := by
  rw [Bool.eq_iff_iff]; simp [tx_inj]
theorem tx_append (a b : List Nat) : tx a ++ tx b = tx (a ++ b) := by
  show Str.append _ _ = _
  unfold Str.append tx; simp
theorem tx_length (a : List Nat) : (tx a).length = a.length := by unfold tx Str.length; simp
theorem tx_list (a : List Nat) : (tx a).cps.toList = a := by unfold tx; simp
theorem sign1_tx (c : Nat) : sign1 c = tx [c] := Eq.trans rfl rfl
theorem ofString_inj (a b : String) : (Str.ofString a = Str.ofString b) = (a = b) := by
  rw [Str.ofString_eq_toList, Str.ofString_eq_toList]
  apply propext
  constructor
  · intro h
    have h1 : a.toList.map Char.toNat = b.toList.map Char.toNat := by
      have := congrArg Str.cps h; simpa using this
    have h2 : a.toList = b.toList := List.map_inj_right (fun x y e => Char.ext (UInt32.toNat_inj.mp e)) |>.mp h1
    exact String.toList_inj.mp h2
  · intro h; rw [h]
theorem l_empty : (Str.ofString "" : Str) = tx [] := by decide +kernel
theorem l_zero : (Str.ofString "\x00" : Str) = tx [0] := by decide +kernel
theorem l_one : (Str.ofString "\x01" : Str) = tx [1] := by decide +kernel
theorem l_gt : (Str.ofString ">" : Str) = tx [62] := by decide +kernel
theorem set_eq (ρ : Slots) (x y : Str) (v : SV) : (ρ.set x v) y = if y = x then some v else ρ y := Eq.trans rfl rfl
theorem bind_some' {β γ : Type} (a : β) (f : β → Option γ) : (some a >>= f) = f a := Eq.trans rfl rfl
theorem bin_str (a b : List Nat) (h : a.length + b.length ≤ 16777216) : binA .Add (.str (tx a)) (.str (tx b)) = some (.str (tx (a ++ b))) := by
  show (if (tx a).length + (tx b).length ≤ 16777216 then some (AV.str (tx a ++ tx b)) else none) = _
  rw [tx_length, tx_length, if_pos h, tx_append]
theorem eq_str (a b : List Nat) : cmpA .Eq (.str (tx a)) (.str (tx b)) = some (a == b) := by
  show some (tx a == tx b) = _; rw [tx_beq]
theorem getV_set (ρ : Slots) (x y : Str) (a : AV) : getV (ρ.set x (.val a)) y = if y = x then some a else getV ρ y := by
  unfold getV; rw [set_eq]; by_cases e : y = x
  · rw [if_pos e, if_pos e]
  · rw [if_neg e, if_neg e]
theorem getV_setO (ρ : Slots) (x y : Str) (l : OL) : getV (ρ.set x (.own l)) y = if y = x then none else getV ρ y := by
  unfold getV; rw [set_eq]; by_cases e : y = x
  · rw [if_pos e, if_pos e]
  · rw [if_neg e, if_neg e]
theorem getO_setO (ρ : Slots) (x y : Str) (l : OL) : getO (ρ.set x (.own l)) y = if y = x then some l else getO ρ y := by
  unfold getO; rw [set_eq]; by_cases e : y = x
  · rw [if_pos e, if_pos e]
  · rw [if_neg e, if_neg e]
theorem truthN_val {ρ : Slots} {x : Str} {a : AV} (h : getV ρ x = some a) : truthN ρ x = truthA a := by
  unfold getV at h; unfold truthN
  split at h
  · rename_i v e; cases h; rw [e]
  · cases h
theorem thenA_ret (G : Slots → Option (AFlow × Slots)) (a : AV) (ρ : Slots) : thenA G (.ret a, ρ) = some (.ret a, ρ) := Eq.trans rfl rfl
theorem truth_bool (b : Bool) : truthA (.bool b) = some b := Eq.trans rfl rfl
theorem truth_str (l : List Nat) (h : l.length ≤ 16777216) : truthA (.str (tx l)) = some (l.length != 0) := by
  show (if (tx l).length ≤ 16777216 then some ((tx l).length != 0) else none) = _
  rw [tx_length, if_pos h]
theorem neg_int (i : Int) : negA (.int i) = some (.int (-i)) := Eq.trans rfl rfl
theorem map_some' {β γ : Type} (a : β) (f : β → γ) : (some a).map f = some (f a) := Eq.trans rfl rfl
theorem iter_lst (l : List AV) : iterA (.lst l) = some l := Eq.trans rfl rfl
theorem idx_str (l : List Nat) (k : Nat) (hk : k < l.length) (hz : l.length ≤ 1000000) : idxA (.str (tx l)) (.int k) = some (.str (tx [l[k]])) := by
  unfold idxA
  simp only [AV.int?, bind_some', tx_list, itemL, sign1_tx]
  rw [if_pos ⟨by (first | lia | omega), by (first | lia | omega)⟩, if_pos (by (first | lia | omega))]
  simp [hk]
theorem len_str (l : List Nat) (hz : l.length ≤ 1000000) : lenF [.str (tx l)] = some (.int l.length) := by
  show (if (tx l).length ≤ 16777216 then some (AV.int (tx l).length) else none) = _
  rw [tx_length, if_pos (by (first | lia | omega))]
theorem lt_int' (a b : Int) : cmpA .Lt (.int a) (.int b) = some (decide (a < b)) := Eq.trans rfl rfl
theorem le_int' (a b : Int) : cmpA .LtE (.int a) (.int b) = some (decide (a ≤ b)) := Eq.trans rfl rfl
theorem eq_int' (a b : Int) : cmpA .Eq (.int a) (.int b) = some (a == b) := Eq.trans rfl rfl
theorem aug_int (a b : Int) : augA .Add (.int a) (.int b) = some (.int (a + b)) := Eq.trans rfl rfl
noncomputable def asF (names : List Str) (F : Slots → Option (AFlow × Slots)) : List AV → Option AV := fun args => if args.length = names.length then (F (bindA names args)).map fun r => retA r.1 else none
noncomputable def one1 (n : Str) (a : AV) : Slots := fun x => if x = n then some (.val a) else none
theorem getV_one (n y : Str) (a : AV) : getV (one1 n a) y = if y = n then some a else none := by
  unfold getV one1; by_cases e : y = n
  · rw [if_pos e, if_pos e]
  · rw [if_neg e, if_neg e]
theorem bindS {β γ : Type} {x : Option β} {a : β} {f : β → Option γ} {r : Option γ} (h : x = some a) (k : f a = r) : (x >>= f) = r := by rw [h]; exact k
theorem iteT {β : Type} {x y r : β} (k : x = r) : (if (true = true) then x else y) = r := k
theorem iteF {β : Type} {x y r : β} (k : y = r) : (if (false = true) then x else y) = r := k
theorem getV_hit (ρ : Slots) (x : Str) (a : AV) : getV (ρ.set x (.val a)) x = some a := by rw [getV_set, if_pos rfl]
theorem sne {x y : String} (h : (x == y) = false) : (Str.ofString x) ≠ (Str.ofString y) := fun e => by rw [ofString_inj] at e; rw [e, beq_self_eq_true] at h; cases h
theorem getV_skip {ρ : Slots} {x y : String} {v : SV} {r : Option AV} (h : (x == y) = false) (k : getV ρ (Str.ofString x) = r) : getV (ρ.set (Str.ofString y) v) (Str.ofString x) = r := by
  unfold getV at k ⊢; rw [set_eq, if_neg (sne h)]; exact k
theorem set_hit (ρ : Slots) (x : Str) (v : SV) : (ρ.set x v) x = some v := by rw [set_eq, if_pos rfl]
theorem thenS {G : Slots → Option (AFlow × Slots)} {ρ : Slots} {r : Option (AFlow × Slots)} (k : G ρ = r) : thenA G (.next, ρ) = r := k
theorem getO_hit (ρ : Slots) (x : Str) (l : OL) : getO (ρ.set x (.own l)) x = some l := by unfold getO; rw [set_eq, if_pos rfl]
theorem getO_skip {ρ : Slots} {x y : String} {v : SV} {r : Option OL} (h : (x == y) = false) (k : getO ρ (Str.ofString x) = r) : getO (ρ.set (Str.ofString y) v) (Str.ofString x) = r := by
  unfold getO at k ⊢; rw [set_eq, if_neg (sne h)]; exact k
theorem truthN_hit (ρ : Slots) (x : Str) (a : AV) : truthN (ρ.set x (.val a)) x = truthA a := by unfold truthN; rw [set_eq, if_pos rfl]
theorem truthN_skip {ρ : Slots} {x y : String} {v : SV} {r : Option Bool} (h : (x == y) = false) (k : truthN ρ (Str.ofString x) = r) : truthN (ρ.set (Str.ofString y) v) (Str.ofString x) = r := by
  unfold truthN at k ⊢; rw [set_eq, if_neg (sne h)]; exact k
theorem truthN_hitB (ρ : Slots) (x : Str) (b : Bool) : truthN (ρ.set x (.val (.bool b))) x = some b := by rw [truthN_hit]; rfl
theorem noneS {ρ : Slots} {r : Option (AFlow × Slots)} (k : some (.next, ρ) = r) : noneX (.none, ρ) = r := k
theorem ifP {β : Type} {p : Prop} {inst : Decidable p} {x y r : β} (h : p) (k : x = r) : (@ite β p inst x y) = r := by rw [if_pos h]; exact k
theorem mapS {β γ : Type} {x : Option β} {a : β} {f : β → γ} {r : Option γ} (h : x = some a) (k : some (f a) = r) : x.map f = r := by rw [h]; exact k
end Mine
end
local macro_rules | `(tactic| ac_rfl) => `(tactic| (repeat' first | with_reducible exact Mine.getV_hit _ _ _ | with_reducible exact Mine.getO_hit _ _ _ | with_reducible assumption | with_reducible refine Mine.getV_skip ?_ ?_ | with_reducible refine Mine.getO_skip ?_ ?_ | with_reducible exact Mine.truthN_hitB _ _ _ | with_reducible refine Mine.truthN_skip ?_ ?_ | with_reducible exact Mine.aug_int _ _ | with_reducible exact Mine.truth_bool _ | with_reducible exact Mine.iter_lst _ | with_reducible refine Mine.iteT ?_ | with_reducible refine Mine.iteF ?_ | with_reducible apply Mine.bindS | with_reducible refine Mine.thenS ?_ | with_reducible exact Mine.thenA_ret _ _ _ | with_reducible refine Mine.noneS ?_ | with_reducible apply Mine.ifP | with_reducible rfl | exact Nat.le_of_ble_eq_true rfl | exact ⟨rfl, Nat.le_of_ble_eq_true rfl⟩ | decide))
section
set_option linter.unusedVariables false
set_option linter.unusedSimpArgs false
namespace Mine
theorem cut_str (l : List Nat) (lo hi : Option Int) (hz : l.length ≤ 1000000) : cutA (.str (tx l)) lo hi = some (.str (tx (cutL l lo hi))) := by
  show (if (tx l).length ≤ 16777216 then some (AV.str (cutS (tx l) lo hi)) else none) = _
  rw [tx_length, if_pos (by (first | lia | omega))]
  unfold cutS; rw [tx_list]; rfl
theorem clip_nat (n k : Nat) (h : k ≤ n) : clipAt n (k : Int) = k := by
  unfold clipAt
  rw [if_neg (Int.not_lt.mpr (Int.natCast_nonneg k)), Int.min_eq_left (Int.ofNat_le.mpr h), Int.max_eq_right (Int.natCast_nonneg k)]; rfl
theorem clip_over (n k : Nat) (h : n ≤ k) : clipAt n (k : Int) = n := by
  unfold clipAt
  rw [if_neg (Int.not_lt.mpr (Int.natCast_nonneg k)), Int.min_eq_right (Int.ofNat_le.mpr h), Int.max_eq_right (Int.natCast_nonneg n)]; rfl
theorem cut_take (l : List Nat) (k : Nat) : cutL l none (some (k : Int)) = l.take k := by
  unfold cutL
  simp only [Option.elim]
  rcases Nat.le_total k l.length with h | h
  · rw [clip_nat _ _ h]; simp
  · rw [clip_over _ _ h, List.take_of_length_le h]; simp
theorem cut_drop (l : List Nat) (k : Nat) : cutL l (some (k : Int)) none = l.drop k := by
  unfold cutL
  simp only [Option.elim]
  rcases Nat.le_total k l.length with h | h
  · rw [clip_nat _ _ h, List.take_of_length_le]; simp
  · rw [clip_over _ _ h, List.drop_of_length_le h]; simp
theorem idx_last (l : List AV) (a : AV) (h : l.getLast? = some a) (hz : l.length ≤ 100000000) : idxA (.lst l) (.int (-1)) = some a := by
  rw [idxA_lst, if_pos ⟨by decide, by decide⟩]
  unfold itemL
  rw [if_neg (by decide)]
  cases l with
  | nil => cases h
  | cons b r =>
    rw [List.getLast?_eq_getElem?] at h
    rw [List.length_cons] at h ⊢
    rw [if_pos (by (first | lia | omega)), show ((-1 : Int) + ((r.length + 1 : Nat) : Int)) = (r.length : Int) by (first | lia | omega), Int.toNat_natCast]
    exact h
inductive Runs (T : AV → Slots → Option Slots) (B : Slots → Option (AFlow × Slots)) : List AV → Slots → Slots → Prop
  | nil {ρ : Slots} : Runs T B [] ρ ρ
  | cons {x : AV} {xs : List AV} {ρ ρ₁ ρ' : Slots} : (T x ρ >>= B) = some (.next, ρ₁) → Runs T B xs ρ₁ ρ' → Runs T B (x :: xs) ρ ρ'
theorem Runs.forA {T : AV → Slots → Option Slots} {B : Slots → Option (AFlow × Slots)} {xs : List AV} {ρ ρ' : Slots} (h : Runs T B xs ρ ρ') : Mine.forA T B xs ρ = some (.next, ρ') := by
  induction h with
  | nil => rfl
  | cons e _ ih =>
    obtain ⟨ρ₀, e₀, e₁⟩ := bindO e
    simp only [Mine.forA, e₀, bind_some', e₁, ih]
end Mine
end
section
set_option linter.unusedVariables false
set_option linter.unusedSimpArgs false
namespace Mine
-- one sign in the place of another
end Mine
end
section
set_option linter.unusedVariables false
set_option linter.unusedSimpArgs false
namespace Mine
-- what a line becomes, read back
end Mine
end
section
set_option linter.unusedVariables false
set_option linter.unusedSimpArgs false
set_option maxHeartbeats 1000000
namespace Mine
end Mine
end
section
set_option linter.unusedVariables false
set_option linter.unusedSimpArgs false
set_option maxHeartbeats 1000000
namespace Mine
theorem freeze_own' {ρ : Slots} {x : Str} {l : OL} (h : getO ρ x = some l) : freeze x ρ = ρ.set x (.val (.lst l.items)) := by
  unfold freeze; rw [getO_eq h]
theorem only_hit {xs : List Str} {ρ : Slots} {x : Str} (h : xs.contains x = true) : getV (only xs ρ) x = getV ρ x := by
  unfold getV only; rw [if_pos h]
theorem fdv (x k : Int) (hk : k ≠ 0 ∧ k.natAbs < 1073741824) : binA .FloorDiv (.int x) (.int k) = some (.int (x.fdiv k)) := if_pos hk
theorem fmd (x k : Int) (hk : k ≠ 0) : binA .Mod (.int x) (.int k) = some (.int (x.fmod k)) := if_pos hk
theorem fmod_nat (x : Int) (k : Nat) (hk : 0 < k) : ∃ r : Nat, x.fmod k = r ∧ r < k := by
  refine ⟨(x.fmod k).toNat, ?_, ?_⟩
  · have := Int.fmod_nonneg_of_pos x (show (0 : Int) < k by (first | lia | omega)); (first | lia | omega)
  · have := Int.fmod_nonneg_of_pos x (show (0 : Int) < k by (first | lia | omega))
    have := Int.fmod_lt_of_pos x (show (0 : Int) < k by (first | lia | omega)); (first | lia | omega)
theorem mul_str' (x : Str) (n : Int) (h : n < 16777216 ∧ -16777216 < n ∧ x.length * n.toNat ≤ 16777216) : binA .Mult (.str x) (.int n) = some (.str (repStr x n)) := if_pos h
theorem cutL_all {β : Type} (l : List β) : cutL l none none = l := by unfold cutL; simp
theorem cut_lst (l : List AV) (lo hi : Option Int) (h : l.length ≤ 16777216) : cutA (.lst l) lo hi = some (.lst (cutL l lo hi)) := if_pos h
theorem truth_lst (l : List AV) (h : l.length ≤ 16777216) : truthA (.lst l) = some (!l.isEmpty) := if_pos h
theorem ne_tup (l : List AV) (h : dat 8 (.tup l) = true) : cmpA .NotEq (.tup l) (.tup l) = some false := by
  show (sameA (.tup l) (.tup l)).map (!·) = some false
  rw [show sameA (.tup l) (.tup l) = some true from if_pos ⟨rfl, h⟩]; rfl
theorem len_lst (l : List AV) (h : l.length ≤ 16777216) : lenF [.lst l] = some (.int l.length) := if_pos h
noncomputable def initL : List InitSt := [⟨"_tabsize", "tabsize", ⟨19, 8, 19, 12⟩, ⟨19, 8, 19, 21⟩, ⟨19, 24, 19, 31⟩, ⟨19, 8, 19, 31⟩⟩, ⟨"_wrapcolumn", "wrapcolumn", ⟨20, 8, 20, 12⟩, ⟨20, 8, 20, 24⟩, ⟨20, 27, 20, 37⟩, ⟨20, 8, 20, 37⟩⟩, ⟨"_linejunk", "linejunk", ⟨21, 8, 21, 12⟩, ⟨21, 8, 21, 22⟩, ⟨21, 25, 21, 33⟩, ⟨21, 8, 21, 33⟩⟩, ⟨"_charjunk", "charjunk", ⟨22, 8, 22, 12⟩, ⟨22, 8, 22, 22⟩, ⟨22, 25, 22, 33⟩, ⟨22, 8, 22, 33⟩⟩]
noncomputable def ctorN : List Str := ["tabsize", "wrapcolumn", "linejunk", "charjunk"]
theorem len_three {β : Type} : ∀ {l : List β}, l.length = 3 → ∃ a b c, l = [a, b, c]
  | [a, b, c], _ => ⟨a, b, c, rfl⟩
theorem room0 (env : Env) : Room (callerA.deeper env) 250 := ⟨rfl, by show callerA.depth + 1 + 2 * 250 + 10 < recursionLimit; decide +kernel, by show callerA.units + 3 + 30 * 250 + 100 < cLine; decide +kernel⟩
theorem abs_int (i : Int) : absF [.int i] = some (.int (i.natAbs : Nat)) := by
  show some (AV.int (if i < 0 then -i else i)) = _
  congr 2; split <;> (first | lia | omega)
theorem cutL_drop {β : Type} (l : List β) (k : Nat) : cutL l (some (k : Int)) none = l.drop k := by
  unfold cutL
  simp only [Option.elim]
  rcases Nat.le_total k l.length with h | h
  · rw [clip_nat _ _ h, List.take_of_length_le]; simp
  · rw [clip_over _ _ h, List.drop_of_length_le h]; simp
end Mine
end
section
set_option linter.unusedVariables false
set_option linter.unusedSimpArgs false
set_option maxHeartbeats 1000000
namespace Mine
structure Cell where
  s : Nat
  m : Option Nat
  new : Bool
noncomputable def mk : Option Nat → List Nat
  | none => []
  | some c => [c]
noncomputable def brk (cur : Option Nat) (c : Cell) : Bool := c.new || !(mk c.m == mk cur)
noncomputable def close : Option Nat → List Nat
  | none => []
  | some _ => [1]
noncomputable def opens : Option Nat → List Nat
  | none => []
  | some k => [0, k]
noncomputable def stepE (cur : Option Nat) (c : Cell) : List Nat := (if brk cur c then close cur ++ opens c.m else []) ++ [c.s]
noncomputable def encO : Option Nat → List Cell → List Nat
  | _, [] => []
  | cur, c :: r => stepE cur c ++ encO c.m r
noncomputable def lastM : Option Nat → List Cell → Option Nat
  | cur, [] => cur
  | _, c :: r => lastM c.m r
noncomputable def enc (cur : Option Nat) (C : List Cell) : List Nat := encO cur C ++ close (lastM cur C)
theorem mk_inj {a b : Option Nat} : (mk a == mk b) = (a == b) := by
  cases a <;> cases b <;> simp [mk]
theorem close_len (a : Option Nat) : (close a).length ≤ 1 := by cases a <;> simp [close]
theorem opens_len (a : Option Nat) : (opens a).length ≤ 2 := by cases a <;> simp [opens]
theorem stepE_len (cur : Option Nat) (c : Cell) : (stepE cur c).length ≤ 4 := by
  have := close_len cur; have := opens_len c.m
  unfold stepE; split <;> simp <;> (first | lia | omega)
theorem enc_len : ∀ (C : List Cell) (cur : Option Nat), (encO cur C).length ≤ 4 * C.length
  | [], _ => by simp [encO]
  | c :: r, cur => by
    have := stepE_len cur c
    have := enc_len r c.m
    simp [encO]; (first | lia | omega)
noncomputable abbrev Row := AV × List Nat
noncomputable def rowA (r : Row) : AV := .tup [r.1, .str (tx r.2)]
end Mine
end
section
set_option linter.unusedVariables false
set_option linter.unusedSimpArgs false
set_option maxHeartbeats 1000000
namespace Mine
noncomputable abbrev LG := AV → List AV → List AV → Option (AV × List AV)
noncomputable def scan : Nat → List Nat → Option Nat → Nat → Option (Nat × Option Nat)
  | 0, _, mark, i => some (i, mark)
  | _ + 1, [], mark, i => some (i, mark)
  | k + 1, c :: l, mark, i =>
    if c = 0 then (match l with | m :: l' => scan (k + 1) l' (some m) (i + 2) | [] => none)
    else if c = 1 then scan (k + 1) l none (i + 1) else scan k l mark (i + 1)
structure SplSt (ρ : Slots) (t : List Nat) (col : Nat) (i n : Nat) (mark : Option Nat) (self hd : AV) (dl : OL) : Prop where
  text : getV ρ "text" = some (.str (tx t))
  size : getV ρ "size" = some (.int t.length)
  max : getV ρ "max" = some (.int col)
  i : getV ρ "i" = some (.int i)
  n : getV ρ "n" = some (.int n)
  mark : getV ρ "mark" = some (.str (tx (mk mark)))
  self : getV ρ "self" = some self
  hd : getV ρ "line_num" = some hd
  dl : getO ρ "data_list" = some dl
theorem eq_zero' (c : Nat) : cmpA .Eq (.str (tx [c])) (.str (Str.ofString "\x00")) = some (c == 0) := by
  rw [l_zero, eq_str]; simp
theorem eq_one' (c : Nat) : cmpA .Eq (.str (tx [c])) (.str (Str.ofString "\x01")) = some (c == 1) := by
  rw [l_one, eq_str]; simp
theorem spl_open {GS : LG} {ρ : Slots} {t : List Nat} {k m : Nat} (h1 : getV ρ "text" = some (.str (tx t))) (h4 : getV ρ "i" = some (.int k)) (hi : idxA (.str (tx t)) (.int k) = some (.str (tx [0]))) (hi2 : idxA (.str (tx t)) (.int ((k : Int) + 1)) = some (.str (tx [m]))) :
    fSplit_B8 GS ρ = some (.next, ((ρ.set "i" (.val (.int ((k : Int) + 1)))).set "mark" (.val (.str (tx [m])))).set "i" (.val (.int ((k : Int) + 1 + 1)))) := by
  have e0 : cmpA .Eq (.str (tx [0])) (.str (Str.ofString "\x00")) = some true := eq_zero' 0
  unfold fSplit_B8 fSplit_k4 fSplit_k3
  ac_rfl
theorem spl_close {GS : LG} {ρ : Slots} {t : List Nat} {k : Nat} (h1 : getV ρ "text" = some (.str (tx t))) (h4 : getV ρ "i" = some (.int k)) (hi : idxA (.str (tx t)) (.int k) = some (.str (tx [1]))) :
    fSplit_B8 GS ρ = some (.next, (ρ.set "i" (.val (.int ((k : Int) + 1)))).set "mark" (.val (.str (tx [])))) := by
  have e0 : cmpA .Eq (.str (tx [1])) (.str (Str.ofString "\x00")) = some false := eq_zero' 1
  have e1 : cmpA .Eq (.str (tx [1])) (.str (Str.ofString "\x01")) = some true := eq_one' 1
  rw [← l_empty]
  unfold fSplit_B8 fSplit_k5
  ac_rfl
theorem spl_sign {GS : LG} {ρ : Slots} {t : List Nat} {k n c : Nat} (h1 : getV ρ "text" = some (.str (tx t))) (h4 : getV ρ "i" = some (.int k)) (h5 : getV ρ "n" = some (.int n)) (hi : idxA (.str (tx t)) (.int k) = some (.str (tx [c]))) (c0 : c ≠ 0) (c1 : c ≠ 1) :
    fSplit_B8 GS ρ = some (.next, (ρ.set "i" (.val (.int ((k : Int) + 1)))).set "n" (.val (.int ((n : Int) + 1)))) := by
  have e0 := eq_zero' c
  have e1 := eq_one' c
  rw [beq_eq_false_iff_ne.mpr c0] at e0
  rw [beq_eq_false_iff_ne.mpr c1] at e1
  unfold fSplit_B8 fSplit_k6
  ac_rfl
section
variable {GS : LG} {ρ : Slots} {t : List Nat} {col k n c m : Nat} {mark : Option Nat} {self hd : AV} {dl : OL}
theorem spl_open' (st : SplSt ρ t col k n mark self hd dl) (hi : idxA (.str (tx t)) (.int k) = some (.str (tx [0]))) (hi2 : idxA (.str (tx t)) (.int ((k : Int) + 1)) = some (.str (tx [m]))) : ∃ ρ₁, fSplit_B8 GS ρ = some (.next, ρ₁) ∧ SplSt ρ₁ t col (k + 2) n (some m) self hd dl := by
  obtain ⟨h1, h2, h3, h4, h5, h6, h7, h8, h9⟩ := st
  exact ⟨_, spl_open h1 h4 hi hi2, by ac_rfl, by ac_rfl, by ac_rfl, getV_hit _ _ _, by ac_rfl, getV_skip rfl (getV_hit _ _ _), by ac_rfl, by ac_rfl, by ac_rfl⟩
theorem spl_close' (st : SplSt ρ t col k n mark self hd dl) (hi : idxA (.str (tx t)) (.int k) = some (.str (tx [1]))) : ∃ ρ₁, fSplit_B8 GS ρ = some (.next, ρ₁) ∧ SplSt ρ₁ t col (k + 1) n none self hd dl := by
  obtain ⟨h1, h2, h3, h4, h5, h6, h7, h8, h9⟩ := st
  exact ⟨_, spl_close h1 h4 hi, by ac_rfl, by ac_rfl, by ac_rfl, getV_skip rfl (getV_hit _ _ _), by ac_rfl, getV_hit _ _ _, by ac_rfl, by ac_rfl, by ac_rfl⟩
theorem spl_sign' (st : SplSt ρ t col k n mark self hd dl) (hi : idxA (.str (tx t)) (.int k) = some (.str (tx [c]))) (c0 : c ≠ 0) (c1 : c ≠ 1) : ∃ ρ₁, fSplit_B8 GS ρ = some (.next, ρ₁) ∧ SplSt ρ₁ t col (k + 1) (n + 1) mark self hd dl := by
  obtain ⟨h1, h2, h3, h4, h5, h6, h7, h8, h9⟩ := st
  exact ⟨_, spl_sign h1 h4 h5 hi c0 c1, by ac_rfl, by ac_rfl, by ac_rfl, getV_skip rfl (getV_hit _ _ _), getV_hit _ _ _, by ac_rfl, by ac_rfl, by ac_rfl, by ac_rfl⟩
theorem spl_cond (st : SplSt ρ t col k n mark self hd dl) : fSplit_C7 GS ρ = some (decide (n < col) && decide (k < t.length)) := by
  obtain ⟨h1, h2, h3, h4, h5, h6, h7, h8, h9⟩ := st
  have a := lt_int' n col
  have b := lt_int' k t.length
  rw [show decide ((n : Int) < col) = decide (n < col) from decide_eq_decide.mpr Int.ofNat_lt] at a
  rw [show decide ((k : Int) < (t.length : Int)) = decide (k < t.length) from decide_eq_decide.mpr Int.ofNat_lt] at b
  cases ha : decide (n < col) with
  | false =>
    rw [ha] at a
    rw [Bool.false_and]
    unfold fSplit_C7
    ac_rfl
  | true =>
    rw [ha] at a
    rw [Bool.true_and]
    cases hb : decide (k < t.length) with
    | false =>
      rw [hb] at b
      unfold fSplit_C7
      ac_rfl
    | true =>
      rw [hb] at b
      unfold fSplit_C7
      ac_rfl
end
theorem split_loop (GS : LG) (t : List Nat) (col : Nat) (self hd : AV) (dl : OL) (hz : t.length ≤ 1000000) (fuel : Nat) : ∀ (l p : List Nat) (ρ : Slots) (n : Nat) (mark : Option Nat) (i' : Nat) (mark' : Option Nat), t = p ++ l → l.length < fuel → n ≤ col → SplSt ρ t col p.length n mark self hd dl → scan (col - n) l mark p.length = some (i', mark') →
    ∃ ρ' n', whileA (fSplit_C7 GS) (fSplit_B8 GS) fuel ρ = some (.next, ρ') ∧ SplSt ρ' t col i' n' mark' self hd dl := by
  induction fuel with
  | zero => intro l p ρ n mark i' mark' ht hf; exact absurd hf (Nat.not_lt_zero _)
  | succ fuel ih =>
  intro l p ρ n mark i' mark' ht hf hn h hs
  have hC := spl_cond (GS := GS) h
  have go : ∀ (ρ₁ ρ' : Slots), n < col → p.length < t.length → fSplit_B8 GS ρ = some (.next, ρ₁) → whileA (fSplit_C7 GS) (fSplit_B8 GS) fuel ρ₁ = some (.next, ρ') → whileA (fSplit_C7 GS) (fSplit_B8 GS) (fuel + 1) ρ = some (.next, ρ') := fun ρ₁ ρ' a b e1 e2 => by
    rw [decide_eq_true a, decide_eq_true b] at hC
    unfold whileA; exact bindS hC (iteT (bindS e1 e2))
  have stop : (decide (n < col) && decide (p.length < t.length)) = false → whileA (fSplit_C7 GS) (fSplit_B8 GS) (fuel + 1) ρ = some (.next, ρ) := fun a => by
    rw [a] at hC; unfold whileA; exact bindS hC (iteF rfl)
  clear hC
  cases hk : col - n with
  | zero =>
    rw [hk] at hs; unfold scan at hs; cases hs
    have : ¬ n < col := by (first | lia | omega)
    exact ⟨ρ, n, stop (by rw [decide_eq_false this]; rfl), h⟩
  | succ k =>
    rw [hk] at hs
    cases l with
    | nil =>
      unfold scan at hs; cases hs
      exact ⟨ρ, n, stop (by rw [ht, List.append_nil, decide_eq_false (Nat.lt_irrefl _), Bool.and_false]), h⟩
    | cons c l =>
      have hl : t.length = p.length + (l.length + 1) := by rw [ht, List.length_append, List.length_cons]
      have hkk : p.length < t.length := by (first | lia | omega)
      have hnc : n < col := by (first | lia | omega)
      have hi := idx_str t p.length hkk hz
      rw [show t[p.length]'hkk = c by simp [ht]] at hi
      rw [List.length_cons] at hf
      unfold scan at hs
      by_cases c0 : c = 0
      · subst c0
        rw [if_pos rfl] at hs
        cases l with
        | nil => cases hs
        | cons m l =>
          rw [List.length_cons] at hl hf
          have hkk2 : p.length + 1 < t.length := by (first | lia | omega)
          have hi2 := idx_str t (p.length + 1) hkk2 hz
          rw [show t[p.length + 1]'hkk2 = m by simp [ht], Int.natCast_add] at hi2
          obtain ⟨ρ₁, e₁, s₁⟩ := spl_open' (GS := GS) h hi hi2
          obtain ⟨ρ', n', e, st⟩ := ih l (p ++ [0, m]) ρ₁ n (some m) i' mark' (by rw [ht, List.append_assoc]; rfl) (by (first | lia | omega)) hn (by rw [List.length_append]; exact s₁) (by rw [hk, List.length_append]; exact hs)
          exact ⟨ρ', n', go _ _ hnc hkk e₁ e, st⟩
      · rw [if_neg c0] at hs
        by_cases c1 : c = 1
        · subst c1
          rw [if_pos rfl] at hs
          obtain ⟨ρ₁, e₁, s₁⟩ := spl_close' (GS := GS) h hi
          obtain ⟨ρ', n', e, st⟩ := ih l (p ++ [1]) ρ₁ n none i' mark' (by rw [ht, List.append_assoc]; rfl) (by (first | lia | omega)) hn (by rw [List.length_append]; exact s₁) (by rw [hk, List.length_append]; exact hs)
          exact ⟨ρ', n', go _ _ hnc hkk e₁ e, st⟩
        · rw [if_neg c1] at hs
          obtain ⟨ρ₁, e₁, s₁⟩ := spl_sign' (GS := GS) h hi c0 c1
          obtain ⟨ρ', n', e, st⟩ := ih l (p ++ [c]) ρ₁ (n + 1) mark i' mark' (by rw [ht, List.append_assoc]; rfl) (by (first | lia | omega)) (by (first | lia | omega)) (by rw [List.length_append]; exact s₁) (by rw [show col - (n + 1) = k by (first | lia | omega), List.length_append]; exact hs)
          exact ⟨ρ', n', go _ _ hnc hkk e₁ e, st⟩
end Mine
end
section
set_option linter.unusedVariables false
set_option linter.unusedSimpArgs false
set_option maxHeartbeats 1000000
namespace Mine
theorem cnt_count (t : List Nat) : cnt 0 t = (t.count 0 : Nat) := by
  induction t with
  | nil => rfl
  | cons c r ih => rw [cnt_cons, ih, List.count_cons]; by_cases e : c = 0 <;> simp [e]; (first | lia | omega)
theorem countF_eq (t : List Nat) : countF [.str (tx t), .str (tx [0])] = some (.int (t.count 0 : Nat)) := by
  show some (AV.int (Txt.count (tx t) ⟨#[0]⟩)) = _
  rw [count_cnt, tx_list, cnt_count]
theorem mul_int (a b : Int) (h1 : a.natAbs < 1073741824) (h2 : b.natAbs < 1073741824) : binA .Mult (.int a) (.int b) = some (.int (a * b)) := by
  show (if a.natAbs < 1073741824 ∧ b.natAbs < 1073741824 then some (AV.int (a * b)) else none) = _
  rw [if_pos ⟨h1, h2⟩]
theorem sub_int (a b : Int) : binA .Sub (.int a) (.int b) = some (.int (a - b)) := Eq.trans rfl rfl
theorem bindA2 (n1 n2 : Str) (a b : AV) (hn : n1 ≠ n2) : bindA [n1, n2] [a, b] = (one1 n1 a).set n2 (.val b) := by
  funext x
  unfold bindA one1 Slots.set
  simp [List.lookup_cons]
  by_cases e2 : x = n2
  · subst e2; simp
  · have : (x == n2) = false := by simpa using e2
    rw [this, if_neg e2]
    by_cases e1 : x = n1
    · subst e1; simp
    · have : (x == n1) = false := by simpa using e1
      rw [this, if_neg e1]; rfl
noncomputable def gt : AV := .str (tx [62])
noncomputable def splitT : Nat → Nat → AV → List Nat → Option (List Row)
  | 0, _, _, _ => none
  | n + 1, col, hd, t => truthA hd >>= fun b =>
    if t.length ≤ 90000 then
      if b = false then some [(hd, t)]
      else if t.length ≤ col ∨ (t.length : Int) - (t.count 0 : Nat) * 3 ≤ col then some [(hd, t)]
      else scan col t none 0 >>= fun r => (splitT n col gt (opens r.2 ++ t.drop r.1)).map fun rows => (hd, t.take r.1 ++ close r.2) :: rows
    else none
noncomputable def AV.inst? : AV → Option (Addr × List (Str × AV))
  | .inst c fs => some (c, fs)
  | _ => Option.none
theorem inst?_eq {a : AV} {p : Addr × List (Str × AV)} (e : a.inst? = some p) : a = .inst p.1 p.2 := by cases a <;> cases e; rfl
noncomputable def two? : List AV → Option (AV × AV)
  | [a, b] => some (a, b)
  | _ => none
theorem two?_eq {l : List AV} {p : AV × AV} (e : two? l = some p) : l = [p.1, p.2] := by
  cases l with
  | nil => cases e
  | cons a l => cases l with
    | nil => cases e
    | cons b l => cases l with
      | nil => cases e; rfl
      | cons => cases e
noncomputable def GS (n : Nat) : LG := fun self items args => self.inst? >>= fun p => two? args >>= fun q => q.2.str? >>= fun x => p.2.lookup ("_wrapcolumn" : Str) >>= fun a => a.int? >>= fun col =>
  if p.1 = 113 ∧ p.2.lookup ("_split_line" : Str) = none ∧ 0 ≤ col then splitT n col.toNat q.1 x.cps.toList >>= fun rows => if items.length + rows.length ≤ 100000 then some (.none, items ++ rows.map rowA) else none else none
noncomputable def inst (col : Nat) (fs : List (Str × AV)) : Prop := fs.lookup ("_wrapcolumn" : Str) = some (.int col) ∧ fs.lookup ("_split_line" : Str) = none
theorem GS_eq {n col : Nat} {fs : List (Str × AV)} (hf : inst col fs) (items : List AV) (hd : AV) (t : List Nat) (rows : List Row) (hs : splitT n col hd t = some rows) (hz : items.length + rows.length ≤ 100000) : GS n (.inst 113 fs) items [hd, .str (tx t)] = some (.none, items ++ rows.map rowA) := by
  have hs' : splitT n (col : Int).toNat hd (tx t).cps.toList = some rows := by rw [tx_list, Int.toNat_natCast]; exact hs
  exact bindS rfl (bindS rfl (bindS rfl (bindS hf.1 (bindS rfl (ifP ⟨rfl, hf.2, Int.natCast_nonneg col⟩ (bindS hs' (ifP hz rfl)))))))
theorem GS_inv {n : Nat} {self : AV} {items args : List AV} {av : AV} {items' : List AV} (h : GS n self items args = some (av, items')) :
    ∃ col fs hd t rows, self = .inst 113 fs ∧ inst col fs ∧ args = [hd, .str (tx t)] ∧ splitT n col hd t = some rows ∧ items.length + rows.length ≤ 100000 ∧ av = .none ∧ items' = items ++ rows.map rowA := by
  obtain ⟨p, hp, h⟩ := bindO h
  obtain ⟨q, hq, h⟩ := bindO h
  obtain ⟨x, hx, h⟩ := bindO h
  obtain ⟨a, hl, h⟩ := bindO h
  obtain ⟨col, hc, h⟩ := bindO h
  obtain ⟨⟨c1, c2, c3⟩, h⟩ := iteO h
  obtain ⟨rows, hr, h⟩ := bindO h
  obtain ⟨hz, h⟩ := iteO h
  have hh := Option.some.inj h
  refine ⟨col.toNat, p.2, q.1, x.cps.toList, rows, c1 ▸ inst?_eq hp, ⟨hl.trans ?_, c2⟩, (two?_eq hq).trans ?_, hr, hz, (congrArg Prod.fst hh).symm, (congrArg Prod.snd hh).symm⟩
  · rw [int?_eq hc, Int.toNat_of_nonneg c3]
  · rw [str?_eq hx]; rfl
theorem attr_eq {col : Nat} {fs : List (Str × AV)} (hf : inst col fs) : attrA 113 "_wrapcolumn" (.inst 113 fs) = some (.int col) := by
  unfold attrA
  simp only [hf.1, if_true, plainV]
noncomputable def sp0 (self hd : AV) (a : Addr) (items : List AV) (t : List Nat) : Slots := (((one1 "line_num" hd).set "text" (.val (.str (tx t)))).set "self" (.val self)).set "data_list" (.own ⟨some a, items⟩)
theorem split_tail (n col : Nat) (fs : List (Str × AV)) (hd : AV) (a : Addr) (items : List AV) (t : List Nat) (ρ : Slots) (i nn : Nat) (mark : Option Nat) (rows : List Row) (hf : inst col fs) (ht : t.length ≤ 90000) (hz : items.length + 1 + rows.length ≤ 100000)
    (st : SplSt ρ t col i nn mark (.inst 113 fs) hd ⟨some a, items⟩) (hr : splitT n col gt (opens mark ++ t.drop i) = some rows) :
    ∃ ρ', fSplit_k14 (GS n) ρ = some (.next, ρ') ∧ ρ' "data_list" = some (.own ⟨some a, items ++ ((hd, t.take i ++ close mark) :: rows).map rowA⟩) := by
  obtain ⟨h1, h2, h3, h4, h5, h6, h7, h8, h9⟩ := st
  have ht' : t.length ≤ 1000000 := by (first | lia | omega)
  have q1 : cutL t none (some (i : Int)) = t.take i := cut_take t i
  have q2 : cutL t (some (i : Int)) none = t.drop i := cut_drop t i
  have l1 : (t.take i).length ≤ 90000 := by rw [List.length_take]; (first | lia | omega)
  have l2 : (t.drop i).length ≤ 90000 := by rw [List.length_drop]; (first | lia | omega)
  have key : ∀ (ρ' : Slots) (x y : List Nat), getV ρ' "self" = some (.inst 113 fs) → getV ρ' "line_num" = some hd → getO ρ' "data_list" = some ⟨some a, items⟩ → getV ρ' "line1" = some (.str (tx x)) → getV ρ' "line2" = some (.str (tx y)) → splitT n col gt y = some rows →
      ∃ ρ'', fSplit_k11 (GS n) ρ' = some (.next, ρ'') ∧ ρ'' "data_list" = some (.own ⟨some a, items ++ ((hd, x) :: rows).map rowA⟩) := by
    intro ρ' x y k1 k2 k3 k4 k5 k6
    have hG := GS_eq hf (items ++ [rowA (hd, x)]) gt y rows k6 (by rw [List.length_append, List.length_singleton]; (first | lia | omega))
    have hgt : AV.str (Str.ofString ">") = gt := congrArg AV.str l_gt
    have hL : lentA 113 "_split_line" (GS n) (ρ'.set "data_list" (.own ⟨some a, items ++ [rowA (hd, x)]⟩)) "data_list" (.inst 113 fs) ⟨some a, items ++ [rowA (hd, x)]⟩ [.str (Str.ofString ">"), .str (tx y)] = some (.none, (ρ'.set "data_list" (.own ⟨some a, items ++ [rowA (hd, x)]⟩)).set "data_list" (.own ⟨some a, items ++ [rowA (hd, x)] ++ rows.map rowA⟩)) := by
      rw [hgt]
      unfold lentA
      exact ifP ⟨rfl, hf.2⟩ (bindS hG rfl)
    refine ⟨(ρ'.set "data_list" (.own ⟨some a, items ++ [rowA (hd, x)]⟩)).set "data_list" (.own ⟨some a, items ++ [rowA (hd, x)] ++ rows.map rowA⟩), ?_, ?_⟩
    · have hz1 : items.length ≤ 1000000 := by (first | lia | omega)
      replace hL : lentA 113 "_split_line" (GS n) (ρ'.set "data_list" (.own ⟨some a, items ++ [AV.tup [hd, .str (tx x)]]⟩)) "data_list" (.inst 113 fs) ⟨some a, items ++ [AV.tup [hd, .str (tx x)]]⟩ [.str (Str.ofString ">"), .str (tx y)] = _ := hL
      unfold fSplit_k11 fSplit_k10
      ac_rfl
    · rw [set_hit, List.map_cons, List.append_assoc]; rfl
  have c1 := cut_str t none (some (i : Int)) ht'
  have c2 := cut_str t (some (i : Int)) none ht'
  rw [q1] at c1
  rw [q2] at c2
  have ai : (asInt (.int i)).map some = some (some (i : Int)) := rfl
  have base : ∀ r, fSplit_k12 (GS n) ((ρ.set "line1" (.val (.str (tx (t.take i))))).set "line2" (.val (.str (tx (t.drop i))))) = r → fSplit_k14 (GS n) ρ = r := fun r hr => by
    unfold fSplit_k14 fSplit_k13
    ac_rfl
  cases mark with
  | none =>
    have e : truthN ((ρ.set "line1" (.val (.str (tx (t.take i))))).set "line2" (.val (.str (tx (t.drop i))))) "mark" = some false := by
      rw [truthN_val (a := .str (tx [])) (getV_skip rfl (getV_skip rfl h6)), truth_str _ (Nat.zero_le _)]; rfl
    obtain ⟨ρ'', e1, e2⟩ := key ((ρ.set "line1" (.val (.str (tx (t.take i))))).set "line2" (.val (.str (tx (t.drop i))))) (t.take i) (t.drop i) (by ac_rfl) (by ac_rfl) (by ac_rfl) (by ac_rfl) (by ac_rfl) hr
    refine ⟨ρ'', base _ ?_, by rw [close, List.append_nil]; exact e2⟩
    unfold fSplit_k12
    exact bindS (bindS e (iteF rfl)) e1
  | some m =>
    have e : truthN ((ρ.set "line1" (.val (.str (tx (t.take i))))).set "line2" (.val (.str (tx (t.drop i))))) "mark" = some true := by
      rw [truthN_val (a := .str (tx [m])) (getV_skip rfl (getV_skip rfl h6)), truth_str _ (Nat.le_of_ble_eq_true rfl)]; rfl
    have h6' : getV ρ "mark" = some (.str (tx [m])) := h6
    obtain ⟨ρ'', e1, e2⟩ := key ((((ρ.set "line1" (.val (.str (tx (t.take i))))).set "line2" (.val (.str (tx (t.drop i))))).set "line1" (.val (.str (tx (t.take i ++ [1]))))).set "line2" (.val (.str (tx ([0] ++ [m] ++ t.drop i))))) (t.take i ++ [1]) ([0] ++ [m] ++ t.drop i)
      (by ac_rfl) (by ac_rfl) (by ac_rfl) (by ac_rfl) (by ac_rfl) hr
    refine ⟨ρ'', base _ ?_, e2⟩
    have b1 : binA .Add (.str (tx (t.take i))) (.str (Str.ofString "\x01")) = _ := (congrArg (fun x => binA .Add (.str (tx (t.take i))) (.str x)) l_one).trans (bin_str (t.take i) [1] (by rw [List.length_singleton]; (first | lia | omega)))
    have b2 : binA .Add (.str (Str.ofString "\x00")) (.str (tx [m])) = _ := (congrArg (fun x => binA .Add (.str x) (.str (tx [m]))) l_zero).trans (bin_str [0] [m] (Nat.le_of_ble_eq_true rfl))
    have b3 := bin_str ([0] ++ [m]) (t.drop i) (by rw [List.length_append, List.length_singleton, List.length_singleton]; (first | lia | omega))
    unfold fSplit_k12 fSplit_k9
    ac_rfl
end Mine
end
section
set_option linter.unusedVariables false
set_option linter.unusedSimpArgs false
set_option maxHeartbeats 1000000
namespace Mine
theorem split_k19 {GS : LG} {ρ : Slots} {t : List Nat} {col c : Nat} {r : Option (AFlow × Slots)} (g1 : getV ρ "size" = some (.int t.length)) (g2 : getV ρ "max" = some (.int col)) (g3 : getV ρ "text" = some (.str (tx t)))
    (h1 : cmpA .LtE (.int t.length) (.int col) = some false) (h2 : countF [.str (tx t), .str (Str.ofString "\x00")] = some (.int c)) (h3 : binA .Mult (.int c) (.int 3) = some (.int (c * 3))) (h4 : binA .Sub (.int t.length) (.int (c * 3)) = some (.int (t.length - c * 3)))
    (h5 : cmpA .LtE (.int (t.length - c * 3)) (.int col) = some false) (hr : fSplit_k18 GS ρ = r) : fSplit_k19 GS ρ = r := by
  have sa : strArg (.str (tx t)) = some (tx t) := Eq.trans rfl rfl
  unfold fSplit_k19
  ac_rfl
theorem len2 {β : Type} {l : List β} (h : l.length = 2) : ∃ a b, l = [a, b] := by
  cases l with
  | nil => cases h
  | cons a l => obtain ⟨b, rfl⟩ := List.length_eq_one_iff.mp (Nat.succ.inj h); exact ⟨a, b, rfl⟩
theorem split_none {GS : LG} {ρ : Slots} {hd : AV} {t : List Nat} {a : Addr} {items : List AV} (g1 : getV ρ "line_num" = some hd) (g2 : getV ρ "text" = some (.str (tx t))) (g4 : getO ρ "data_list" = some ⟨some a, items⟩) (tn : truthN ρ "line_num" = some false) (hz : items.length ≤ 1000000) :
    fSplit GS ρ = some (.ret .none, ρ.set "data_list" (.own ⟨some a, items ++ [AV.tup [hd, .str (tx t)]]⟩)) := by
  have tn' : (truthN ρ "line_num").map (!·) = some true := mapS tn rfl
  unfold fSplit fSplit_k1
  ac_rfl
theorem split_base {GS : LG} {ρ : Slots} {t : List Nat} {col : Nat} {fs : List (Str × AV)} {r : Option (AFlow × Slots)} (g2 : getV ρ "text" = some (.str (tx t))) (g3 : getV ρ "self" = some (.inst 113 fs)) (hf : inst col fs) (tn : truthN ρ "line_num" = some true) (ht : t.length ≤ 1000000)
    (hr : fSplit_k19 GS ((ρ.set "size" (.val (.int t.length))).set "max" (.val (.int col))) = r) : fSplit GS ρ = r := by
  have tn' : (truthN ρ "line_num").map (!·) = some false := mapS tn rfl
  have hlen := len_str t ht
  have hat := attr_eq hf
  have e20 : fSplit_k20 GS (ρ.set "size" (.val (.int t.length))) = r := by
    unfold fSplit_k20; ac_rfl
  have e21 : fSplit_k21 GS ρ = r := by
    unfold fSplit_k21; ac_rfl
  unfold fSplit
  ac_rfl
theorem split_one {GS : LG} {ρ : Slots} {hd : AV} {t : List Nat} {a : Addr} {items : List AV} (g1 : getV ρ "line_num" = some hd) (g2 : getV ρ "text" = some (.str (tx t))) (g4 : getO ρ "data_list" = some ⟨some a, items⟩) (hz : items.length ≤ 1000000) {c : Slots → Option Bool} (hc : c ρ = some true)
    (he : fSplit_k19 GS = fun ρ => (((c ρ) >>= fun b => if b = true then ((((getO ρ "data_list") >>= fun l => ((((getV ρ "line_num") >>= fun a => ((getV ρ "text") >>= fun a => (some []) >>= fun l => some (a :: l)) >>= fun l => some (a :: l)) >>= fun l => if l.length ≤ 1000000 then some (.tup l) else none)) >>= fun a => if l.items.length ≤ 1000000 then some (.next, Slots.set ρ "data_list" (.own ⟨l.place, l.items ++ [a]⟩)) else none) >>= thenA (fSplit_k2 GS))) else (some (.next, ρ))) >>= thenA (fSplit_k18 GS))) :
    fSplit_k19 GS ρ = some (.ret .none, ρ.set "data_list" (.own ⟨some a, items ++ [AV.tup [hd, .str (tx t)]]⟩)) := by
  have e2 : ∀ ρ, fSplit_k2 GS ρ = some (.ret .none, ρ) := fun _ => rfl
  have e2' := e2 (ρ.set "data_list" (.own ⟨some a, items ++ [AV.tup [hd, .str (tx t)]]⟩))
  rw [he]
  show ((c ρ >>= _) >>= _) = _
  ac_rfl
theorem split_core (n : Nat) (a : Addr) {col : Nat} {fs : List (Str × AV)} {hd : AV} {t : List Nat} {rows : List Row} {items : List AV} {ρ : Slots} (hf : inst col fs) (hs : splitT (n + 1) col hd t = some rows) (hz : items.length + rows.length ≤ 100000)
    (g1 : getV ρ "line_num" = some hd) (g2 : getV ρ "text" = some (.str (tx t))) (g3 : getV ρ "self" = some (.inst 113 fs)) (g4 : getO ρ "data_list" = some ⟨some a, items⟩) :
    ∃ fl ρ', fSplit (GS n) ρ = some (fl, ρ') ∧ retA fl = .none ∧ ρ' "data_list" = some (.own ⟨some a, items ++ rows.map rowA⟩) := by
  unfold splitT at hs
  obtain ⟨b, hb', hs⟩ := bindO hs
  have tn : truthN ρ "line_num" = some b := (truthN_val g1).trans hb'
  obtain ⟨ht, hs⟩ := iteO hs
  have hz1 : items.length ≤ 1000000 := by (first | lia | omega)
  have ht' : t.length ≤ 1000000 := by (first | lia | omega)
  cases b with
  | false =>
    cases hs
    exact ⟨_, _, split_none g1 g2 g4 tn hz1, rfl, set_hit _ _ _⟩
  | true =>
    have hcz : t.count 0 ≤ t.length := List.count_le_length
    have hm : binA .Mult (.int (t.count 0 : Nat)) (.int 3) = some (.int ((t.count 0 : Nat) * 3)) := mul_int _ _ (by (first | lia | omega)) (by (first | lia | omega))
    have hct : countF [.str (tx t), .str (Str.ofString "\x00")] = some (.int (t.count 0 : Nat)) := by rw [l_zero]; exact countF_eq t
    obtain ⟨ρ', base, gs1, gs2, gs3, gs4, gs5, gs6⟩ : ∃ ρ', (∀ r, fSplit_k19 (GS n) ρ' = r → fSplit (GS n) ρ = r) ∧ getV ρ' "size" = some (.int t.length) ∧ getV ρ' "max" = some (.int col) ∧ getV ρ' "text" = some (.str (tx t)) ∧ getV ρ' "line_num" = some hd ∧ getO ρ' "data_list" = some ⟨some a, items⟩ ∧ getV ρ' "self" = some (.inst 113 fs) :=
      ⟨_, fun r h => split_base g2 g3 hf tn ht' h, by ac_rfl, by ac_rfl, by ac_rfl, by ac_rfl, by ac_rfl, by ac_rfl⟩
    have hsub := sub_int t.length ((t.count 0 : Nat) * 3)
    have sa : strArg (.str (tx t)) = some (tx t) := Eq.trans rfl rfl
    clear g1 g2 g3 g4 tn hb'
    have hs : (if t.length ≤ col ∨ (t.length : Int) - (t.count 0 : Nat) * 3 ≤ col then some [(hd, t)] else scan col t none 0 >>= fun r => (splitT n col gt (opens r.2 ++ t.drop r.1)).map ((hd, t.take r.1 ++ close r.2) :: ·)) = some rows := hs
    by_cases hc : t.length ≤ col ∨ (t.length : Int) - (t.count 0 : Nat) * 3 ≤ col
    · rw [if_pos hc] at hs
      cases hs
      refine ⟨_, _, base _ (split_one gs4 gs3 gs5 hz1 ?_ rfl), rfl, set_hit _ _ _⟩
      have hle1 := le_int' t.length col
      by_cases h1 : (t.length : Int) ≤ col
      · rw [decide_eq_true h1] at hle1
        ac_rfl
      · have hle2 := le_int' (t.length - (t.count 0 : Nat) * 3) col
        rw [decide_eq_false h1] at hle1
        rw [decide_eq_true (hc.resolve_left (by (first | lia | omega)))] at hle2
        ac_rfl
    · rw [if_neg hc] at hs
      obtain ⟨⟨i, mark⟩, hsc, hs⟩ := bindO hs
      obtain ⟨rows', hr, hrr⟩ := Option.map_eq_some_iff.mp hs
      rw [← hrr, List.length_cons] at hz
      have hle1 := le_int' t.length col
      have hle2 := le_int' (t.length - (t.count 0 : Nat) * 3) col
      rw [decide_eq_false (fun h => hc (.inl (by (first | lia | omega))))] at hle1
      rw [decide_eq_false (fun h => hc (.inr h))] at hle2
      obtain ⟨ρ₁, nn, e₁, st⟩ := split_loop (GS n) t col (.inst 113 fs) hd ⟨some a, items⟩ ht' 100000 t [] (((ρ'.set "i" (.val (.int 0))).set "n" (.val (.int 0))).set "mark" (.val (.str (tx [])))) 0 none i mark rfl (by (first | lia | omega)) (by (first | lia | omega))
        ⟨by ac_rfl, by ac_rfl, by ac_rfl, getV_skip rfl (getV_skip rfl (getV_hit _ _ _)), getV_skip rfl (getV_hit _ _ _), getV_hit _ _ _, by ac_rfl, by ac_rfl, by ac_rfl⟩ hsc
      obtain ⟨ρ₂, e₂, hd₂⟩ := split_tail n col fs hd a items t ρ₁ i nn mark rows' hf ht (by (first | lia | omega)) st hr
      rw [← l_empty] at e₁
      have e15 : fSplit_k15 (GS n) (((ρ'.set "i" (.val (.int 0))).set "n" (.val (.int 0))).set "mark" (.val (.str (Str.ofString "")))) = some (.next, ρ₂) := bindS e₁ e₂
      exact ⟨.next, ρ₂, base _ (split_k19 gs1 gs2 gs3 hle1 hct hm hsub hle2 e15), rfl, hrr ▸ hd₂⟩
theorem split_F (n : Nat) (a : Addr) (self : AV) (items args : List AV) (av : AV) (items' : List AV) (h : GS (n + 1) self items args = some (av, items')) :
    args.length = 2 ∧ ∃ fl ρ', fSplit (GS n) (bindLent "self" "data_list" ["line_num", "text"] self ⟨some a, items⟩ args) = some (fl, ρ') ∧ retA fl = av ∧ ρ' "data_list" = some (.own ⟨some a, items'⟩) := by
  obtain ⟨col, fs, hd, t, rows, e1, hf, e2, hs, hz, e3, e4⟩ := GS_inv h
  rw [e1, e2, e3, e4]
  have hb : bindLent "self" "data_list" ["line_num", "text"] (.inst 113 fs) ⟨some a, items⟩ [hd, .str (tx t)] = sp0 (.inst 113 fs) hd a items t := by
    unfold bindLent sp0; rw [bindA2 _ _ _ _ (by decide)]
  rw [hb]
  exact ⟨rfl, split_core n a hf hs (by (first | lia | omega)) (by simp [sp0, getV_setO, getV_set, ofString_inj, getV_one]) (by simp [sp0, getV_setO, getV_set, ofString_inj, getV_one]) (by simp [sp0, getV_setO, getV_set, ofString_inj, getV_one]) (by simp [sp0, getO_setO])⟩
section
variable {w : World} {h₀ : Heap} {mg mb : Str → Option Value} {os : OsState} {X Z₀ : AddrSet}
theorem binds_split (s : Shared) (v0 v1 : Value) (vals : List Value) (hv : vals.length = 2) : BindsTo s (fdK (W03 w h₀ mg mb os X Z₀).K 67 has_split) ⟨v0 :: v1 :: vals, []⟩ (("self", v0) :: ("data_list", v1) :: (["line_num", "text"] : List Str).zip vals) := by
  obtain ⟨v2, v3, rfl⟩ := len2 hv
  exact BindsTo.of_eq (by kernel_rfl)
theorem spec_gs : ∀ n, LSpec (W03 w h₀ mg mb os X Z₀) n (.ref 67) (GS n)
  | 0 => fun A Z s vself self a vs items vals args av items' R I r hz hb hx hp rs ra hg => by
    obtain ⟨col, fs, hd, t, rows, _, _, _, hs, _⟩ := GS_inv hg
    unfold splitT at hs; cases hs
  | n + 1 => by
    have hD := fSplit_den (w := w) (h₀ := h₀) (mg := mg) (mb := mb) (os := os) (X := X) (Z₀ := Z₀) (spec_gs n)
    rw [← sc_split (w := w) (h₀ := h₀) (mg := mg) (mb := mb) (os := os) (X := X) (Z₀ := Z₀)] at hD
    exact lspec_of (names := ["line_num", "text"]) fn_split binds_split (fun x hx => by
      rw [sc_split]
      have : (["self", "data_list", "line_num", "text"] : List Str).all (fun x => scSplit.names.lookup x == some .local) = true := by kernel_rfl
      exact beq_iff_eq.mp (List.all_eq_true.mp this x hx)) (by decide) (by decide) (by decide) hD (fun a self items args av items' h => split_F n a self items args av items' h)
end
end Mine
end
section
set_option linter.unusedVariables false
set_option linter.unusedSimpArgs false
set_option maxHeartbeats 1000000
namespace Mine
noncomputable def Ok (c : Cell) : Prop := 2 ≤ c.s ∧ ∀ m, c.m = some m → 2 ≤ m
noncomputable def some1 : Option Nat → Nat
  | none => 0
  | some _ => 1
theorem brk_not {cur : Option Nat} {c : Cell} (h : brk cur c = false) : c.m = cur ∧ c.new = false := by
  unfold brk at h
  simp only [Bool.or_eq_false_iff, Bool.not_eq_false', mk_inj, beq_iff_eq] at h
  exact ⟨h.2, h.1⟩
theorem step_none (c : Cell) : stepE none c = opens c.m ++ [c.s] := by
  unfold stepE
  cases hb : brk none c with
  | true => rfl
  | false => rw [(brk_not hb).1]; rfl
theorem encO_append : ∀ (P Q : List Cell) (cur : Option Nat), encO cur (P ++ Q) = encO cur P ++ encO (lastM cur P) Q
  | [], Q, cur => rfl
  | c :: P, Q, cur => by simp [encO, lastM, encO_append P Q c.m]
theorem lastM_append : ∀ (P Q : List Cell) (cur : Option Nat), lastM cur (P ++ Q) = lastM (lastM cur P) Q
  | [], Q, cur => rfl
  | c :: P, Q, cur => by simp [lastM, lastM_append P Q c.m]
theorem enc_cons (cur : Option Nat) (c : Cell) (r : List Cell) : enc cur (c :: r) = stepE cur c ++ enc c.m r := by
  unfold enc; simp [encO, lastM]
theorem count_opens (m : Option Nat) (h : ∀ k, m = some k → 2 ≤ k) : (opens m).count 0 = some1 m ∧ (opens m).length = 2 * some1 m := by
  cases m with
  | none => simp [opens, some1]
  | some k => have := h k rfl; simp [opens, some1, List.count_cons]; (first | lia | omega)
theorem count_close (m : Option Nat) : (close m).count 0 = 0 ∧ (close m).length = some1 m := by cases m <;> simp [close, some1]
theorem enc_size : ∀ (P : List Cell) (cur : Option Nat), (∀ c ∈ P, Ok c) → (enc cur P).length = P.length + 3 * (enc cur P).count 0 + some1 cur
  | [], cur, _ => by
    have := count_close cur
    simp [enc, encO, lastM, this]
  | c :: r, cur, h => by
    have ih := enc_size r c.m (fun x hx => h x (List.mem_cons_of_mem _ hx))
    obtain ⟨h1, h2⟩ := h c List.mem_cons_self
    rw [enc_cons]
    have co := count_opens c.m h2
    have cc := count_close cur
    have hs : (c.s == 0) = false := by simp; (first | lia | omega)
    unfold stepE
    cases hb : brk cur c with
    | true =>
      simp only [if_true, List.length_append, List.count_append, co.1, co.2, cc.1, cc.2, List.length_singleton, List.count_cons, List.count_nil, hs, List.length_cons, ih]
      simp; (first | lia | omega)
    | false =>
      have := (brk_not hb).1
      rw [this] at ih ⊢
      simp only [Bool.false_eq_true, if_false, List.nil_append, List.length_append, List.count_append, List.length_singleton, List.count_cons, List.count_nil, hs, List.length_cons, ih]
      simp; (first | lia | omega)
noncomputable def lead : Option Nat → List Cell → List Nat
  | some m, c :: _ => if brk (some m) c then [0, m, 1] else []
  | _, _ => []
noncomputable def pieceT (prev : Option Nat) (P : List Cell) : List Nat := lead prev P ++ enc none P
noncomputable def Mk (m : Option Nat) : Prop := ∀ k, m = some k → 2 ≤ k
theorem lead_cases (prev : Option Nat) (P : List Cell) : lead prev P = [] ∨ ∃ m, prev = some m ∧ lead prev P = [0, m, 1] := by
  cases prev with
  | none => left; cases P <;> rfl
  | some m =>
    cases P with
    | nil => left; rfl
    | cons c r =>
      show (if brk (some m) c then [0, m, 1] else []) = [] ∨ ∃ k, some m = some k ∧ (if brk (some m) c then [0, m, 1] else []) = [0, k, 1]
      cases brk (some m) c
      · exact .inl rfl
      · exact .inr ⟨m, rfl, rfl⟩
theorem piece_size (prev : Option Nat) (P : List Cell) (hp : Mk prev) (h : ∀ c ∈ P, Ok c) : (pieceT prev P).length = P.length + 3 * (pieceT prev P).count 0 := by
  have e := enc_size P none h
  unfold pieceT
  rcases lead_cases prev P with hl | ⟨m, hm, hl⟩
  · rw [hl]; simp only [List.nil_append]; rw [e]; simp [some1]
  · have := hp m hm
    rw [hl]
    simp only [List.length_append, List.count_append, e, List.length_cons, List.length_nil, List.count_cons, List.count_nil, some1]
    have : (m == 0) = false := by simp; (first | lia | omega)
    rw [this]; simp; (first | lia | omega)
theorem scan_mark (k c : Nat) (l : List Nat) (mark : Option Nat) (i : Nat) : scan (k + 1) (0 :: c :: l) mark i = scan (k + 1) l (some c) (i + 2) := by
  conv => lhs; unfold scan
  rw [if_pos rfl]
theorem scan_close (k : Nat) (l : List Nat) (mark : Option Nat) (i : Nat) : scan (k + 1) (1 :: l) mark i = scan (k + 1) l none (i + 1) := by
  conv => lhs; unfold scan
  rw [if_neg (by decide), if_pos rfl]
theorem scan_sign (k c : Nat) (l : List Nat) (mark : Option Nat) (i : Nat) (h : 2 ≤ c) : scan (k + 1) (c :: l) mark i = scan k l mark (i + 1) := by
  conv => lhs; unfold scan
  rw [if_neg (by (first | lia | omega)), if_neg (by (first | lia | omega))]
theorem scan_opens (k : Nat) (m : Option Nat) (l : List Nat) (i : Nat) : scan (k + 1) (opens m ++ l) none i = scan (k + 1) l m (i + (opens m).length) := by
  cases m with
  | none => rfl
  | some m => exact scan_mark ..
theorem scan_closes (k : Nat) (m : Option Nat) (l : List Nat) (i : Nat) : scan (k + 1) (close m ++ l) m i = scan (k + 1) l none (i + (close m).length) := by
  cases m with
  | none => rfl
  | some m => exact scan_close ..
theorem scan_step (k : Nat) (cur : Option Nat) (c : Cell) (l : List Nat) (i : Nat) (h : Ok c) : scan (k + 1) (stepE cur c ++ l) cur i = scan k l c.m (i + (stepE cur c).length) := by
  unfold stepE
  cases hb : brk cur c with
  | true =>
    simp only [if_true, List.append_assoc]
    rw [scan_closes, scan_opens]
    simp only [List.singleton_append, List.length_append, List.length_singleton]
    rw [scan_sign _ _ _ _ _ h.1]
    congr 1; (first | lia | omega)
  | false =>
    simp only [Bool.false_eq_true, if_false, List.nil_append, List.singleton_append, List.length_singleton]
    rw [scan_sign _ _ _ _ _ h.1, (brk_not hb).1]
theorem scan_enc : ∀ (k : Nat) (P : List Cell) (cur : Option Nat) (X : List Nat) (i : Nat), (∀ c ∈ P, Ok c) → k ≤ P.length → scan k (encO cur P ++ X) cur i = some (i + (encO cur (P.take k)).length, lastM cur (P.take k))
  | 0, P, cur, X, i, _, _ => by simp [scan, encO, lastM]
  | k + 1, [], cur, X, i, _, h => by simp at h
  | k + 1, c :: P, cur, X, i, h, hk => by
    simp only [encO, List.append_assoc, List.take_succ_cons, lastM]
    rw [scan_step _ _ _ _ _ (h c List.mem_cons_self), scan_enc k P c.m X _ (fun x hx => h x (List.mem_cons_of_mem _ hx)) (by simpa using hk)]
    simp [Nat.add_assoc]
theorem scan_piece (k : Nat) (prev : Option Nat) (P : List Cell) (h : ∀ c ∈ P, Ok c) (hk : k + 1 ≤ P.length) : scan (k + 1) (pieceT prev P) none 0 = some ((lead prev P).length + (encO none (P.take (k + 1))).length, lastM none (P.take (k + 1))) := by
  unfold pieceT enc
  rcases lead_cases prev P with hl | ⟨m, hm, hl⟩
  · rw [hl]
    rw [List.nil_append, scan_enc (k + 1) P none _ 0 h hk]; simp
  · rw [hl]
    show scan (k + 1) (0 :: m :: 1 :: (encO none P ++ close (lastM none P))) none 0 = _
    rw [scan_mark, scan_close, scan_enc (k + 1) P none _ _ h hk]
    simp
end Mine
end
section
set_option linter.unusedVariables false
set_option linter.unusedSimpArgs false
set_option maxHeartbeats 1000000
namespace Mine
noncomputable def rows : AV → Option Nat → List Cell → List Nat → List Row
  | _, _, _, [] => []
  | h, prev, C, n :: ls => (h, pieceT prev (C.take n)) :: rows gt (lastM prev (C.take n)) (C.drop n) ls
noncomputable def chunkF : Nat → Nat → Nat → List Nat
  | 0, _, L => [L]
  | f + 1, c, L => if L ≤ c then [L] else c :: chunkF f c (L - c)
theorem lastM_ne {P : List Cell} (h : P ≠ []) (a b : Option Nat) : lastM a P = lastM b P := by
  cases P with
  | nil => exact (h rfl).elim
  | cons c r => rfl
theorem lastM_ok : ∀ (P : List Cell) (cur : Option Nat), Mk cur → (∀ c ∈ P, Ok c) → Mk (lastM cur P)
  | [], cur, h, _ => h
  | c :: r, cur, _, h => lastM_ok r c.m (h c List.mem_cons_self).2 (fun x hx => h x (List.mem_cons_of_mem _ hx))
theorem lead_take (prev : Option Nat) (P : List Cell) (k : Nat) : lead prev (P.take (k + 1)) = lead prev P := by
  cases P with
  | nil => rfl
  | cons c r => cases prev <;> rfl
theorem piece_first (prev : Option Nat) (P : List Cell) (k : Nat) (hk : k + 1 ≤ P.length) :
    (pieceT prev P).take ((lead prev P).length + (encO none (P.take (k + 1))).length) ++ close (lastM none (P.take (k + 1))) = pieceT prev (P.take (k + 1)) := by
  unfold pieceT
  rw [lead_take]
  have e : enc none P = encO none (P.take (k + 1)) ++ (encO (lastM none (P.take (k + 1))) (P.drop (k + 1)) ++ close (lastM none P)) := by
    unfold enc
    conv => lhs; rw [← List.take_append_drop (k + 1) P, encO_append]
    rw [List.append_assoc, List.take_append_drop]
  rw [e, ← List.append_assoc, List.take_append_of_le_length (by simp), ← List.length_append, List.take_length]
  unfold enc; simp
theorem piece_rest (prev : Option Nat) (P : List Cell) (k : Nat) (hk : k + 1 < P.length) :
    opens (lastM none (P.take (k + 1))) ++ (pieceT prev P).drop ((lead prev P).length + (encO none (P.take (k + 1))).length) = pieceT (lastM none (P.take (k + 1))) (P.drop (k + 1)) := by
  have e : enc none P = encO none (P.take (k + 1)) ++ (encO (lastM none (P.take (k + 1))) (P.drop (k + 1)) ++ close (lastM none P)) := by
    unfold enc
    conv => lhs; rw [← List.take_append_drop (k + 1) P, encO_append]
    rw [List.append_assoc, List.take_append_drop]
  have d : (pieceT prev P).drop ((lead prev P).length + (encO none (P.take (k + 1))).length) = encO (lastM none (P.take (k + 1))) (P.drop (k + 1)) ++ close (lastM none P) := by
    unfold pieceT
    rw [e, ← List.append_assoc, ← List.length_append, List.drop_left]
  rw [d]
  have hl : lastM none P = lastM (lastM none (P.take (k + 1))) (P.drop (k + 1)) := by
    rw [← lastM_append, List.take_append_drop]
  rw [hl]
  generalize lastM none (P.take (k + 1)) = mark
  cases hd : P.drop (k + 1) with
  | nil => have := congrArg List.length hd; simp at this; (first | lia | omega)
  | cons c r =>
    unfold pieceT enc
    cases mark with
    | none => rfl
    | some m =>
      show opens (some m) ++ (stepE (some m) c ++ encO c.m r ++ close (lastM c.m r)) = (if brk (some m) c then [0, m, 1] else []) ++ (stepE none c ++ encO c.m r ++ close (lastM c.m r))
      rw [step_none]
      unfold stepE
      cases hb : brk (some m) c with
      | true => simp [opens, close]
      | false => simp [opens, (brk_not hb).1]
theorem rows_one (h : AV) (prev : Option Nat) (P : List Cell) : rows h prev P [P.length] = [(h, pieceT prev P)] := by
  simp [rows]
theorem splitT_rows (col : Nat) (hc : 1 ≤ col) : ∀ (n : Nat) (P : List Cell) (prev : Option Nat) (hd : AV), truthA hd = some true → Mk prev → (∀ c ∈ P, Ok c) → P.length ≤ n → 4 * P.length + 4 ≤ 90000 → splitT (n + 1) col hd (pieceT prev P) = some (rows hd prev P (chunkF n col P.length)) := by
  intro n
  induction n with
  | zero =>
    intro P prev hd ht hm ho hn hz
    have hP : P = [] := List.length_eq_zero_iff.mp (by (first | lia | omega))
    subst hP
    have hpt : pieceT prev [] = [] := by unfold pieceT; cases prev <;> rfl
    unfold splitT
    rw [ht, bind_some', hpt]
    simp [chunkF, rows, hpt]
  | succ n ih =>
    intro P prev hd ht hm ho hn hz
    have hs := piece_size prev P hm ho
    have hlen : (pieceT prev P).length ≤ 90000 := by
      have h1 := enc_len P none
      have h2 := close_len (lastM none P)
      have h3 : (lead prev P).length ≤ 3 := by rcases lead_cases prev P with h | ⟨m, _, h⟩ <;> rw [h] <;> simp
      unfold pieceT enc; simp only [List.length_append]; (first | lia | omega)
    unfold splitT
    rw [ht, bind_some', if_pos hlen, if_neg (by decide)]
    unfold chunkF
    by_cases hL : P.length ≤ col
    · rw [if_pos hL, rows_one, if_pos (.inr (by (first | lia | omega)))]
    · rw [if_neg hL, if_neg (by rintro (h | h) <;> (first | lia | omega))]
      obtain ⟨k, rfl⟩ : ∃ k, col = k + 1 := ⟨col - 1, by (first | lia | omega)⟩
      rw [scan_piece k prev P ho (by (first | lia | omega)), bind_some']
      have hne : P.take (k + 1) ≠ [] := by
        intro h; have := congrArg List.length h; rw [List.length_take, List.length_nil] at this; (first | lia | omega)
      have hmk := lastM_ok (P.take (k + 1)) none (fun _ h => by cases h) (fun c hc => ho c (List.mem_of_mem_take hc))
      have := ih (P.drop (k + 1)) (lastM none (P.take (k + 1))) gt rfl hmk (fun c hc => ho c (List.mem_of_mem_drop hc)) (by rw [List.length_drop]; (first | lia | omega)) (by rw [List.length_drop]; (first | lia | omega))
      simp only [piece_first prev P k (by (first | lia | omega)), piece_rest prev P k (by (first | lia | omega)), this, map_some']
      rw [List.length_drop]
      simp only [rows]
      rw [lastM_ne hne prev none]
end Mine
end
section
set_option linter.unusedVariables false
set_option linter.unusedSimpArgs false
set_option maxHeartbeats 1000000
namespace Mine
noncomputable def blank2 : AV := .tup [.str "", .str " "]
noncomputable def padTo : List AV → AV → List AV
  | [], _ => []
  | b :: m, f => .tup [blank2, b, f] :: padTo m f
noncomputable def padZip : List AV → List AV → AV → List AV
  | [], m, f => padTo m f
  | a :: l, [], f => .tup [a, blank2, f] :: padZip l [] f
  | a :: l, b :: m, f => .tup [a, b, f] :: padZip l m f
noncomputable def rowI2 (n col : Nat) (row : AV) : List AV := match row with
  | .tup [a, b, .none] => [.tup [a, b, .none]]
  | .tup [.tup [h1, .str x1], .tup [h2, .str x2], f] => padZip (((splitT n col h1 x1.cps.toList).getD []).map rowA) (((splitT n col h2 x2.cps.toList).getD []).map rowA) f
  | _ => []
noncomputable def okR2 (n col : Nat) (row : AV) : Prop := (∃ a b, row = .tup [a, b, .none]) ∨ ∃ h1 t1 h2 t2 f r1 r2, row = .tup [rowA (h1, t1), rowA (h2, t2), .bool f] ∧ splitT n col h1 t1 = some r1 ∧ splitT n col h2 t2 = some r2 ∧ r1 ≠ [] ∧ r1.length ≤ 1000 ∧ r2.length ≤ 1000
theorem rowI2_some {n col : Nat} {h1 h2 : AV} {t1 t2 : List Nat} {f : Bool} {r1 r2 : List Row} (e1 : splitT n col h1 t1 = some r1) (e2 : splitT n col h2 t2 = some r2) : rowI2 n col (.tup [rowA (h1, t1), rowA (h2, t2), .bool f]) = padZip (r1.map rowA) (r2.map rowA) (.bool f) := by
  show padZip (((splitT n col h1 (tx t1).cps.toList).getD []).map rowA) (((splitT n col h2 (tx t2).cps.toList).getD []).map rowA) (.bool f) = _
  rw [tx_list, tx_list, e1, e2]; rfl
noncomputable def Rdy2 (col : Nat) (ρ : Slots) : Prop := ∃ fs, getV ρ "self" = some (.inst 113 fs) ∧ inst col fs
noncomputable def Pend2 (col : Nat) (ρ : Slots) (P : List AV) : Prop := Rdy2 col ρ ∧ ∃ fl tl f, getO ρ "fromlist" = some ⟨none, fl⟩ ∧ getO ρ "tolist" = some ⟨none, tl⟩ ∧ getV ρ "flag" = some f ∧ P = padZip fl tl f ∧ fl.length ≤ 1000 ∧ tl.length ≤ 1000
theorem truthN_own {ρ : Slots} {x : Str} {l : OL} (h : getO ρ x = some l) (hz : l.items.length ≤ 16777216) : truthN ρ x = some (!l.items.isEmpty) := by
  unfold truthN; rw [getO_eq h]; exact if_pos hz
theorem gabs2 (n col : Nat) : GAbs gT gTest gY1 (gMid (GS n)) gWt gPop gY2 (Rdy2 col) (Pend2 col) (rowI2 n col) (okR2 n col) where
  row ρ row hr hok := by
    obtain ⟨fs, hs, hi⟩ := hr
    rcases hok with ⟨a, b, rfl⟩ | ⟨h1, t1, h2, t2, f, r1, r2, rfl, e1, e2, hne, z1, z2⟩
    · generalize hρ₁ : ((ρ.set "fromdata" (.val a)).set "todata" (.val b)).set "flag" (.val .none) = ρ₁
      have g1 : getV ρ₁ "fromdata" = some a := by subst hρ₁; ac_rfl
      have g2 : getV ρ₁ "todata" = some b := by subst hρ₁; ac_rfl
      have g3 : getV ρ₁ "flag" = some .none := by subst hρ₁; ac_rfl
      have g4 : getV ρ₁ "self" = some (.inst 113 fs) := by subst hρ₁; ac_rfl
      have is : cmpA .Is .none .none = some true := rfl
      refine ⟨.tup [a, b, .none], [], ρ₁, rfl, by subst hρ₁; rfl, .inl ⟨?_, ?_, rfl, fs, g4, hi⟩⟩
      · unfold gTest; ac_rfl
      · unfold gY1; ac_rfl
    · generalize hρ₁ : ((ρ.set "fromdata" (.val (rowA (h1, t1)))).set "todata" (.val (rowA (h2, t2)))).set "flag" (.val (.bool f)) = ρ₁
      have g1 : getV ρ₁ "fromdata" = some (rowA (h1, t1)) := by subst hρ₁; ac_rfl
      have g2 : getV ρ₁ "todata" = some (rowA (h2, t2)) := by subst hρ₁; ac_rfl
      have g3 : getV ρ₁ "flag" = some (.bool f) := by subst hρ₁; ac_rfl
      have g4 : getV ρ₁ "self" = some (.inst 113 fs) := by subst hρ₁; ac_rfl
      have is : cmpA .Is (.bool f) .none = some false := rfl
      generalize hρ₂ : (((((ρ₁.set "fromline" (.val h1)).set "fromtext" (.val (.str (tx t1)))).set "toline" (.val h2)).set "totext" (.val (.str (tx t2)))).set "tolist" (.own ⟨none, []⟩)).set "fromlist" (.own ⟨none, []⟩) = ρ₂
      have k1 : getV ρ₂ "self" = some (.inst 113 fs) := by subst hρ₂; ac_rfl
      have k2 : getV ρ₂ "flag" = some (.bool f) := by subst hρ₂; ac_rfl
      have k3 : getV ρ₂ "fromline" = some h1 := by subst hρ₂; ac_rfl
      have k4 : getV ρ₂ "fromtext" = some (.str (tx t1)) := by subst hρ₂; ac_rfl
      have k5 : getV ρ₂ "toline" = some h2 := by subst hρ₂; ac_rfl
      have k6 : getV ρ₂ "totext" = some (.str (tx t2)) := by subst hρ₂; ac_rfl
      have k7 : getO ρ₂ "fromlist" = some ⟨none, []⟩ := by subst hρ₂; ac_rfl
      have k8 : getO ρ₂ "tolist" = some ⟨none, []⟩ := by subst hρ₂; ac_rfl
      have s1 := GS_eq (n := n) hi [] h1 t1 r1 e1 (by simp; (first | lia | omega))
      have s2 := GS_eq (n := n) hi [] h2 t2 r2 e2 (by simp; (first | lia | omega))
      rw [List.nil_append] at s1 s2
      have l1 : lentA 113 "_split_line" (GS n) ρ₂ "fromlist" (.inst 113 fs) ⟨none, []⟩ [h1, .str (tx t1)] = some (.none, ρ₂.set "fromlist" (.own ⟨none, r1.map rowA⟩)) := ifP ⟨rfl, hi.2⟩ (bindS s1 rfl)
      generalize hρ₃ : ρ₂.set "fromlist" (.own ⟨none, r1.map rowA⟩) = ρ₃ at l1
      have l2 : lentA 113 "_split_line" (GS n) ρ₃ "tolist" (.inst 113 fs) ⟨none, []⟩ [h2, .str (tx t2)] = some (.none, ρ₃.set "tolist" (.own ⟨none, r2.map rowA⟩)) := ifP ⟨rfl, hi.2⟩ (bindS s2 rfl)
      have q1 : getV ρ₃ "self" = some (.inst 113 fs) := by subst hρ₃; ac_rfl
      have q5 : getV ρ₃ "toline" = some h2 := by subst hρ₃; ac_rfl
      have q6 : getV ρ₃ "totext" = some (.str (tx t2)) := by subst hρ₃; ac_rfl
      have q8 : getO ρ₃ "tolist" = some ⟨none, []⟩ := by subst hρ₃; ac_rfl
      have m1 : gMid_k1 (GS n) ρ₃ = some (.next, ρ₃.set "tolist" (.own ⟨none, r2.map rowA⟩)) := by
        unfold gMid_k1; ac_rfl
      have m2 : gMid_k2 (GS n) ρ₂ = some (.next, ρ₃.set "tolist" (.own ⟨none, r2.map rowA⟩)) := by
        unfold gMid_k2; ac_rfl
      have m3 : gMid_k3 (GS n) ((((ρ₁.set "fromline" (.val h1)).set "fromtext" (.val (.str (tx t1)))).set "toline" (.val h2)).set "totext" (.val (.str (tx t2)))) = some (.next, ρ₃.set "tolist" (.own ⟨none, r2.map rowA⟩)) := by
        rw [← hρ₂] at m2
        unfold gMid_k3
        exact bindS (bindS (a := [SV.own ⟨none, []⟩, SV.own ⟨none, []⟩]) rfl (ifP ⟨rfl, by decide⟩ rfl)) (thenS m2)
      have m4 : gMid (GS n) ρ₁ = some (.next, ρ₃.set "tolist" (.own ⟨none, r2.map rowA⟩)) := by
        unfold gMid
        refine bindS (a := (.next, (((ρ₁.set "fromline" (.val h1)).set "fromtext" (.val (.str (tx t1)))).set "toline" (.val h2)).set "totext" (.val (.str (tx t2))))) (bindS (a := (.tup [rowA (h1, t1), rowA (h2, t2)], ρ₁)) (bindS (bindS (bindS g1 (bindS (bindS g2 rfl) rfl)) (ifP (Nat.le_of_ble_eq_true rfl) rfl)) rfl) ?_) (thenS m3)
        rfl
      have hpad : ∃ it P, padZip (r1.map rowA) (r2.map rowA) (.bool f) = it :: P := by
        cases r1 with
        | nil => exact (hne rfl).elim
        | cons a r1 => cases r2 with
          | nil => exact ⟨_, _, rfl⟩
          | cons b r2 => exact ⟨_, _, rfl⟩
      obtain ⟨it, P, hpad⟩ := hpad
      refine ⟨it, P, ρ₁, by rw [rowI2_some e1 e2, hpad], by subst hρ₁; rfl, .inr ⟨?_, ρ₃.set "tolist" (.own ⟨none, r2.map rowA⟩), m4, ⟨fs, by ac_rfl, hi⟩, r1.map rowA, r2.map rowA, .bool f, ?_, getO_hit _ _ _, ?_, hpad.symm, by simpa using z1, by simpa using z2⟩⟩
      · unfold gTest; ac_rfl
      · exact getO_skip rfl (by subst hρ₃; exact getO_hit _ _ _)
      · exact getV_skip rfl (by subst hρ₃; exact getV_skip rfl k2)
  stop ρ h := by
    obtain ⟨hr, fl, tl, f, h1, h2, h3, h4, z1, z2⟩ := h
    have e1 : fl = [] ∧ tl = [] := by
      cases fl <;> cases tl <;> first | exact ⟨rfl, rfl⟩ | cases h4
    obtain ⟨rfl, rfl⟩ := e1
    have t1 : truthN ρ "fromlist" = some false := truthN_own h1 (by simp)
    have t2 : truthN ρ "tolist" = some false := truthN_own h2 (by simp)
    exact ⟨by unfold gWt; ac_rfl, hr⟩
  more ρ it P h := by
    obtain ⟨⟨fs, hs, hi⟩, fl, tl, f, h1, h2, h3, h4, z1, z2⟩ := h
    have em : (.tup [.str "", .str " "] : AV) = blank2 := rfl
    have fin : ∀ (ρ₂ : Slots) (a b : AV), getV ρ₂ "fromdata" = some a → getV ρ₂ "todata" = some b → getV ρ₂ "flag" = some f → gY2 ρ₂ = some (.tup [a, b, f]) := fun ρ₂ a b k1 k2 k3 => by
      unfold gY2; ac_rfl
    cases fl with
    | nil =>
      have t1 : truthN ρ "fromlist" = some false := truthN_own h1 (by simp)
      cases tl with
      | nil => cases h4
      | cons b tl =>
        cases h4
        have t2 : truthN ρ "tolist" = some true := truthN_own h2 (by simp at z2 ⊢; (first | lia | omega))
        simp only [List.length_cons] at z2
        generalize hρ₁ : ρ.set "fromdata" (.val blank2) = ρ₁
        have g2 : getO ρ₁ "tolist" = some ⟨none, b :: tl⟩ := by subst hρ₁; ac_rfl
        have t3 : truthN ρ₁ "tolist" = some true := by subst hρ₁; ac_rfl
        have p1 : pop0A ρ₁ "tolist" ⟨none, b :: tl⟩ = some (b, ρ₁.set "tolist" (.own ⟨none, tl⟩)) := ifP (by show tl.length ≤ 1000000; (first | lia | omega)) rfl
        have k1 : gPop_k1 ρ₁ = some (.next, (ρ₁.set "tolist" (.own ⟨none, tl⟩)).set "todata" (.val b)) := by
          unfold gPop_k1; ac_rfl
        have k0 : gPop ρ = some (.next, (ρ₁.set "tolist" (.own ⟨none, tl⟩)).set "todata" (.val b)) := by
          rw [← hρ₁] at k1 ⊢
          unfold gPop
          refine bindS (bindS t1 (iteF (bindS (bindS (bindS rfl (ifP (Nat.le_of_ble_eq_true rfl) rfl)) rfl) rfl))) (thenS k1)
        refine ⟨by unfold gWt; ac_rfl, _, k0, fin _ _ _ (by subst hρ₁; ac_rfl) (by ac_rfl) (by subst hρ₁; ac_rfl), ⟨fs, by subst hρ₁; ac_rfl, hi⟩, [], tl, f, by subst hρ₁; ac_rfl, by ac_rfl, by subst hρ₁; ac_rfl, rfl, by simp, by (first | lia | omega)⟩
    | cons a fl =>
      have t1 : truthN ρ "fromlist" = some true := truthN_own h1 (by simp at z1 ⊢; (first | lia | omega))
      simp only [List.length_cons] at z1
      have p0 : pop0A ρ "fromlist" ⟨none, a :: fl⟩ = some (a, ρ.set "fromlist" (.own ⟨none, fl⟩)) := ifP (by show fl.length ≤ 1000000; (first | lia | omega)) rfl
      generalize hρ₁ : (ρ.set "fromlist" (.own ⟨none, fl⟩)).set "fromdata" (.val a) = ρ₁
      have g1 : getO ρ₁ "fromlist" = some ⟨none, fl⟩ := by subst hρ₁; ac_rfl
      have g2 : getO ρ₁ "tolist" = some ⟨none, tl⟩ := by subst hρ₁; ac_rfl
      have g3 : getV ρ₁ "flag" = some f := by subst hρ₁; ac_rfl
      have g4 : getV ρ₁ "fromdata" = some a := by subst hρ₁; ac_rfl
      have g5 : getV ρ₁ "self" = some (.inst 113 fs) := by subst hρ₁; ac_rfl
      have start : ∀ q, gPop_k1 ρ₁ = some (.next, q) → gPop ρ = some (.next, q) := fun q hq => by
        rw [← hρ₁] at hq
        unfold gPop; ac_rfl
      have wt : gWt ρ = some true := by unfold gWt; ac_rfl
      cases tl with
      | nil =>
        cases h4
        have t2 : truthN ρ₁ "tolist" = some false := truthN_own g2 (by simp)
        have k1 : gPop_k1 ρ₁ = some (.next, ρ₁.set "todata" (.val blank2)) := by
          unfold gPop_k1
          exact bindS (bindS t2 (iteF (bindS (bindS (bindS rfl (ifP (Nat.le_of_ble_eq_true rfl) rfl)) rfl) rfl))) rfl
        exact ⟨wt, _, start _ k1, fin _ _ _ (by ac_rfl) (by ac_rfl) (by ac_rfl), ⟨fs, by ac_rfl, hi⟩, fl, [], f, by ac_rfl, by ac_rfl, by ac_rfl, rfl, by (first | lia | omega), by simp⟩
      | cons b tl =>
        cases h4
        simp only [List.length_cons] at z2
        have t2 : truthN ρ₁ "tolist" = some true := truthN_own g2 (by simp; (first | lia | omega))
        have p1 : pop0A ρ₁ "tolist" ⟨none, b :: tl⟩ = some (b, ρ₁.set "tolist" (.own ⟨none, tl⟩)) := ifP (by show tl.length ≤ 1000000; (first | lia | omega)) rfl
        have k1 : gPop_k1 ρ₁ = some (.next, (ρ₁.set "tolist" (.own ⟨none, tl⟩)).set "todata" (.val b)) := by
          unfold gPop_k1; ac_rfl
        exact ⟨wt, _, start _ k1, fin _ _ _ (by ac_rfl) (by ac_rfl) (by ac_rfl), ⟨fs, by ac_rfl, hi⟩, fl, tl, f, by ac_rfl, by ac_rfl, by ac_rfl, rfl, by (first | lia | omega), by (first | lia | omega)⟩
end Mine
end
section
set_option linter.unusedVariables false
set_option linter.unusedSimpArgs false
set_option maxHeartbeats 1000000
namespace Mine
theorem maxL_nat (i m : Nat) : maxL [.lst [.int 0, .int ((i : Int) - m)]] = some (.int ((i - m : Nat) : Int)) := by
  show some (AV.int (if ((i : Int) - m) > 0 then ((i : Int) - m) else 0)) = _
  by_cases h : ((i : Int) - m) > 0
  · rw [if_pos h, show ((i - m : Nat) : Int) = (i : Int) - m by (first | lia | omega)]
  · rw [if_neg h, show ((i - m : Nat) : Int) = 0 by (first | lia | omega)]
theorem put_at (l : List AV) (k : Nat) (a : AV) (h : k < l.length) (hz : l.length ≤ 100000) : putL l (k : Int) a = some (l.set k a) := by
  unfold putL
  rw [if_pos (by (first | lia | omega)), if_pos ⟨by (first | lia | omega), by (first | lia | omega)⟩]; rfl
structure CS (ρ : Slots) (x : Str) (m : Nat) (fl tl ct : AV) (flags ids hrefs : List AV) (num last : Nat) (inch : Bool) : Prop where
  pre : getV ρ "toprefix" = some (.str x)
  lines : getV ρ "numlines" = some (.int m)
  ids : getO ρ "next_id" = some ⟨none, ids⟩
  hrefs : getO ρ "next_href" = some ⟨none, hrefs⟩
  num : getV ρ "num_chg" = some (.int num)
  inch : getV ρ "in_change" = some (.bool inch)
  last : getV ρ "last" = some (.int last)
  fl : getV ρ "fromlist" = some fl
  tl : getV ρ "tolist" = some tl
  ct : getV ρ "context" = some ct
  flags : getV ρ "flaglist" = some (.lst flags)
section
variable {ρ : Slots} {x : Str} {m : Nat} {fl tl ct : AV} {flags ids hrefs : List AV} {num last i : Nat} {inch : Bool}
theorem conv_k1 (h : CS ρ x m fl tl ct flags ids hrefs num last inch) (hx : x.length ≤ 1000) (hn : num ≤ 100000) (hz : hrefs.length ≤ 100000) (hl : last < hrefs.length) : fConv_k1 ρ = some (.next, ρ.set "next_href" (.own ⟨none, hrefs.set last (.str (nextT x num))⟩)) := by
  have g1 := h.pre
  have g2 := h.num
  have g3 := h.hrefs
  have g4 := h.last
  have p1 : pct2 nextT (.tup [.str x, .int num]) = some (.str (nextT x num)) := if_pos ⟨by (first | lia | omega), by (first | lia | omega), by (first | lia | omega)⟩
  have p2 := put_at hrefs last (.str (nextT x num)) hl hz
  have i1 : (AV.int (last : Int)).int? = some (last : Int) := rfl
  unfold fConv_k1
  ac_rfl
theorem conv_new (h : CS ρ x m fl tl ct flags ids hrefs num last inch) (hi : getV ρ "i" = some (.int i)) (hx : x.length ≤ 1000) (hn : num ≤ 10000) (hz : hrefs.length ≤ 100000) (hz2 : ids.length = hrefs.length) (hl : i < hrefs.length) :
    ∃ ρ', fConv_k5 ρ = some (.next, ρ') ∧ CS ρ' x m fl tl ct flags (ids.set (i - m) (.str (idT x num))) (hrefs.set i (.str (nextT x (num + 1 : Nat)))) (num + 1) i inch := by
  obtain ⟨g1, g2, g3, g4, g5, g6, g7, g8, g9, g10, g11⟩ := h
  generalize hρ₃ : ρ.set "last" (.val (.int i)) = ρ₃
  have e0 : ∀ r, fConv_k4 ρ₃ = r → fConv_k5 ρ = r := fun r hr => by
    rw [← hρ₃] at hr
    unfold fConv_k5
    exact bindS (bindS hi rfl) (thenS hr)
  have a1 : getV ρ₃ "toprefix" = some (.str x) := by subst hρ₃; ac_rfl
  have a2 : getV ρ₃ "numlines" = some (.int m) := by subst hρ₃; ac_rfl
  have a3 : getO ρ₃ "next_id" = some ⟨none, ids⟩ := by subst hρ₃; ac_rfl
  have a4 : getO ρ₃ "next_href" = some ⟨none, hrefs⟩ := by subst hρ₃; ac_rfl
  have a5 : getV ρ₃ "num_chg" = some (.int num) := by subst hρ₃; ac_rfl
  have a6 : getV ρ₃ "in_change" = some (.bool inch) := by subst hρ₃; ac_rfl
  have a7 : getV ρ₃ "last" = some (.int i) := by subst hρ₃; ac_rfl
  have a8 : getV ρ₃ "fromlist" = some fl := by subst hρ₃; ac_rfl
  have a9 : getV ρ₃ "tolist" = some tl := by subst hρ₃; ac_rfl
  have a10 : getV ρ₃ "context" = some ct := by subst hρ₃; ac_rfl
  have a11 : getV ρ₃ "flaglist" = some (.lst flags) := by subst hρ₃; ac_rfl
  have a12 : getV ρ₃ "i" = some (.int i) := by subst hρ₃; ac_rfl
  clear hρ₃
  generalize hρ₆ : ((ρ₃.set "i" (.val (.int (i - m : Nat)))).set "next_id" (.own ⟨none, ids.set (i - m) (.str (idT x num))⟩)).set "num_chg" (.val (.int (num + 1 : Nat))) = ρ₆
  have e1 : ∀ r, fConv_k1 ρ₆ = r → fConv_k4 ρ₃ = r := fun r hr => by
    rw [← hρ₆] at hr
    have s1 : binA .Sub (.int i) (.int m) = some (.int ((i : Int) - m)) := rfl
    have s2 := maxL_nat i m
    have p1 : pct2 idT (.tup [.str x, .int num]) = some (.str (idT x num)) := if_pos ⟨by (first | lia | omega), by (first | lia | omega), by (first | lia | omega)⟩
    have p2 := put_at ids (i - m) (.str (idT x num)) (by (first | lia | omega)) (by (first | lia | omega))
    have i2 : (AV.int ((i - m : Nat) : Int)).int? = some ((i - m : Nat) : Int) := rfl
    have s3 : augA .Add (.int num) (.int 1) = some (.int ((num + 1 : Nat) : Int)) := rfl
    unfold fConv_k4
    refine bindS (bindS (a := .int ((i - m : Nat) : Int)) ?_ rfl) (thenS ?_)
    · ac_rfl
    unfold fConv_k3
    refine bindS (a := (.next, (ρ₃.set "i" (.val (.int (i - m : Nat)))).set "next_id" (.own ⟨none, ids.set (i - m) (.str (idT x num))⟩))) ?_ (thenS ?_)
    · ac_rfl
    unfold fConv_k2
    refine bindS (a := (.next, ((ρ₃.set "i" (.val (.int (i - m : Nat)))).set "next_id" (.own ⟨none, ids.set (i - m) (.str (idT x num))⟩)).set "num_chg" (.val (.int (num + 1 : Nat))))) ?_ (thenS hr)
    ac_rfl
  have cs : CS ρ₆ x m fl tl ct flags (ids.set (i - m) (.str (idT x num))) hrefs (num + 1) i inch := by
    subst hρ₆
    exact ⟨by ac_rfl, by ac_rfl, by ac_rfl, by ac_rfl, by ac_rfl, by ac_rfl, by ac_rfl, by ac_rfl, by ac_rfl, by ac_rfl, by ac_rfl⟩
  refine ⟨_, e0 _ (e1 _ (conv_k1 cs hx (by (first | lia | omega)) hz hl)), ?_⟩
  obtain ⟨b1, b2, b3, b4, b5, b6, b7, b8, b9, b10, b11⟩ := cs
  exact ⟨by ac_rfl, by ac_rfl, by ac_rfl, by ac_rfl, by ac_rfl, by ac_rfl, by ac_rfl, by ac_rfl, by ac_rfl, by ac_rfl, by ac_rfl⟩
end
end Mine
end
section
set_option linter.unusedVariables false
set_option linter.unusedSimpArgs false
set_option maxHeartbeats 1000000
namespace Mine
noncomputable def tr : AV → Bool
  | .bool b => b
  | _ => false
noncomputable def FlagV (a : AV) : Prop := a = .none ∨ ∃ b, a = .bool b
theorem truth_flag {a : AV} (h : FlagV a) : truthA a = some (tr a) := by
  rcases h with rfl | ⟨b, rfl⟩ <;> rfl
section
variable {ρ : Slots} {x : Str} {m : Nat} {fl tl ct : AV} {flags ids hrefs : List AV} {num last i : Nat} {inch : Bool}
theorem conv_turn (h : CS ρ x m fl tl ct flags ids hrefs num last inch) {a : AV} (ha : FlagV a) (hx : x.length ≤ 1000) (hn : num ≤ 10000) (hz : hrefs.length ≤ 100000) (hz2 : ids.length = hrefs.length) (hl : i < hrefs.length) :
    ∃ ρ', (fConv_T6 (.tup [.int i, a]) ρ >>= fConv_B7) = some (.next, ρ') ∧ (if (tr a && !inch) = true then CS ρ' x m fl tl ct flags (ids.set (i - m) (.str (idT x num))) (hrefs.set i (.str (nextT x (num + 1 : Nat)))) (num + 1) i (tr a) else CS ρ' x m fl tl ct flags ids hrefs num last (tr a)) := by
  obtain ⟨g1, g2, g3, g4, g5, g6, g7, g8, g9, g10, g11⟩ := h
  generalize hρ₁ : (ρ.set "i" (.val (.int i))).set "flag" (.val a) = ρ₁
  have eT : fConv_T6 (.tup [.int i, a]) ρ = some ρ₁ := by subst hρ₁; rfl
  have a1 : getV ρ₁ "toprefix" = some (.str x) := by subst hρ₁; ac_rfl
  have a2 : getV ρ₁ "numlines" = some (.int m) := by subst hρ₁; ac_rfl
  have a3 : getO ρ₁ "next_id" = some ⟨none, ids⟩ := by subst hρ₁; ac_rfl
  have a4 : getO ρ₁ "next_href" = some ⟨none, hrefs⟩ := by subst hρ₁; ac_rfl
  have a5 : getV ρ₁ "num_chg" = some (.int num) := by subst hρ₁; ac_rfl
  have a6 : getV ρ₁ "in_change" = some (.bool inch) := by subst hρ₁; ac_rfl
  have a7 : getV ρ₁ "last" = some (.int last) := by subst hρ₁; ac_rfl
  have a8 : getV ρ₁ "fromlist" = some fl := by subst hρ₁; ac_rfl
  have a9 : getV ρ₁ "tolist" = some tl := by subst hρ₁; ac_rfl
  have a10 : getV ρ₁ "context" = some ct := by subst hρ₁; ac_rfl
  have a11 : getV ρ₁ "flaglist" = some (.lst flags) := by subst hρ₁; ac_rfl
  have a12 : getV ρ₁ "i" = some (.int i) := by subst hρ₁; ac_rfl
  have a13 : truthN ρ₁ "flag" = some (tr a) := by subst hρ₁; rw [truthN_hit]; exact truth_flag ha
  have a14 : truthN ρ₁ "in_change" = some inch := (truthN_val a6).trans rfl
  clear hρ₁
  rw [eT]
  show ∃ ρ', fConv_B7 ρ₁ = some (.next, ρ') ∧ _
  generalize tr a = b at *
  cases b with
  | false =>
    refine ⟨ρ₁.set "in_change" (.val (.bool false)), ?_, ?_⟩
    · unfold fConv_B7
      refine bindS (bindS a13 (iteF ?_)) (thenS rfl)
      ac_rfl
    · rw [if_neg (fun h => by cases h)]
      exact ⟨by ac_rfl, by ac_rfl, by ac_rfl, by ac_rfl, by ac_rfl, by ac_rfl, by ac_rfl, by ac_rfl, by ac_rfl, by ac_rfl, by ac_rfl⟩
  | true =>
    cases inch with
    | true =>
      refine ⟨ρ₁, ?_, ?_⟩
      · unfold fConv_B7
        exact bindS (bindS a13 (iteT (bindS (bindS (mapS a14 rfl) (iteF rfl)) (thenS rfl)))) (thenS rfl)
      · rw [if_neg (by decide)]
        exact ⟨a1, a2, a3, a4, a5, a6, a7, a8, a9, a10, a11⟩
    | false =>
      have cs : CS (ρ₁.set "in_change" (.val (.bool true))) x m fl tl ct flags ids hrefs num last true := ⟨by ac_rfl, by ac_rfl, by ac_rfl, by ac_rfl, by ac_rfl, by ac_rfl, by ac_rfl, by ac_rfl, by ac_rfl, by ac_rfl, by ac_rfl⟩
      obtain ⟨ρ', e, cs'⟩ := conv_new cs (i := i) (by ac_rfl) hx hn hz hz2 hl
      refine ⟨ρ', ?_, ?_⟩
      · unfold fConv_B7
        exact bindS (bindS a13 (iteT (bindS (bindS (mapS a14 rfl) (iteT (bindS rfl (thenS e)))) (thenS rfl)))) (thenS rfl)
      · rw [if_pos (by decide)]; exact cs'
end
theorem conv_loop {x : Str} {m : Nat} {fl tl ct : AV} {flags : List AV} (hx : x.length ≤ 1000) : ∀ (fs : List AV) (i : Nat) (ids hrefs : List AV) (num last : Nat) (inch : Bool) (ρ : Slots), CS ρ x m fl tl ct flags ids hrefs num last inch → (∀ a ∈ fs, FlagV a) → num + fs.length ≤ 10000 → hrefs.length ≤ 10000 → ids.length = hrefs.length → i + fs.length ≤ hrefs.length →
    ∃ ρ' inch', Runs fConv_T6 fConv_B7 (enumL i fs) ρ ρ' ∧ CS ρ' x m fl tl ct flags (setAll ids (((sts (fs.map tr) i inch).zipIdx num).map fun p => (p.1 - m, AV.str (idT x (p.2 : Nat))))) (setAll hrefs (((sts (fs.map tr) i inch).zipIdx num).map fun p => (p.1, AV.str (nextT x (p.2 + 1 : Nat))))) (num + (sts (fs.map tr) i inch).length) ((sts (fs.map tr) i inch).getLastD last) inch'
  | [], i, ids, hrefs, num, last, inch, ρ, h, _, _, _, _, _ => ⟨ρ, inch, .nil, h⟩
  | a :: fs, i, ids, hrefs, num, last, inch, ρ, h, hf, hn, hz, hz2, hl => by
    rw [List.length_cons] at hn hl
    obtain ⟨ρ₁, e, cs⟩ := conv_turn h (i := i) (hf a List.mem_cons_self) hx (by (first | lia | omega)) (by (first | lia | omega)) hz2 (by (first | lia | omega))
    have hS : sts ((a :: fs).map tr) i inch = (if (tr a && !inch) = true then [i] else []) ++ sts (fs.map tr) (i + 1) (tr a) := rfl
    by_cases hc : (tr a && !inch) = true
    · rw [if_pos hc] at cs hS
      obtain ⟨ρ', inch', hr, cs'⟩ := conv_loop hx fs (i + 1) _ _ _ _ _ ρ₁ cs (fun b hb => hf b (List.mem_cons_of_mem _ hb)) (by (first | lia | omega)) (by rw [List.length_set]; exact hz) (by rw [List.length_set, List.length_set]; exact hz2) (by rw [List.length_set]; (first | lia | omega))
      refine ⟨ρ', inch', .cons e hr, ?_⟩
      rw [hS]
      rw [List.singleton_append, List.zipIdx_cons, List.map_cons, List.map_cons, List.length_cons, show num + ((sts (fs.map tr) (i + 1) (tr a)).length + 1) = num + 1 + (sts (fs.map tr) (i + 1) (tr a)).length by (first | lia | omega), List.getLastD_cons]
      exact cs'
    · rw [if_neg hc] at cs hS
      obtain ⟨ρ', inch', hr, cs'⟩ := conv_loop hx fs (i + 1) _ _ _ _ _ ρ₁ cs (fun b hb => hf b (List.mem_cons_of_mem _ hb)) (by (first | lia | omega)) hz hz2 (by (first | lia | omega))
      refine ⟨ρ', inch', .cons e hr, ?_⟩
      rw [hS, List.nil_append]; exact cs'
end Mine
end
section
set_option linter.unusedVariables false
set_option linter.unusedSimpArgs false
set_option maxHeartbeats 1000000
namespace Mine
noncomputable def GV1 : List AV → Option AV := asF ["self", "fromlist", "tolist", "flaglist", "context", "numlines"] fConv
noncomputable def e0 : AV := .str ""
noncomputable def idsOf (x : Str) (m N : Nat) (S : List Nat) : List AV := setAll (List.replicate N e0) ((S.zipIdx 0).map fun p => (p.1 - m, AV.str (idT x (p.2 : Nat))))
noncomputable def hrefs0 (x : Str) (N : Nat) (S : List Nat) : List AV := setAll (List.replicate N e0) ((S.zipIdx 0).map fun p => (p.1, AV.str (nextT x (p.2 + 1 : Nat))))
noncomputable def hrefsOf (x : Str) (b : Bool) (N : Nat) (S : List Nat) : List AV := (if b then hrefs0 x N S else (hrefs0 x N S).set 0 (.str (firstT x))).set (S.getLastD 0) (.str (topT x))
theorem rep_e0 (N : Nat) (h : N ≤ 10000) : repO (.lst [.str ""]) (.int N) = some (List.replicate N e0) := by
  unfold repO
  refine bindS (a := [AV.str ""]) rfl (bindS (a := (N : Int)) rfl (ifP ⟨by (first | lia | omega), by (first | lia | omega), by simp; (first | lia | omega)⟩ ?_))
  rw [Int.toNat_natCast]
  congr 1
  induction N with
  | zero => rfl
  | succ n ih => rw [List.replicate_succ, List.flatten_cons, ih (by (first | lia | omega)), List.replicate_succ]; rfl
theorem getLastD_mem {S : List Nat} {d : Nat} : S.getLastD d = d ∨ S.getLastD d ∈ S := by
  cases S with
  | nil => exact .inl rfl
  | cons a S => right; rw [List.getLastD_cons]; rw [List.getLastD_eq_getLast?]; cases h : S.getLast? with
    | none => simp
    | some b => exact List.mem_cons_of_mem _ (List.mem_of_getLast? h)
section
variable {ρ : Slots} {x : Str} {m : Nat} {fl tl ct : AV} {flags ids hrefs : List AV} {num last : Nat} {inch : Bool}
theorem conv_end (h : CS ρ x m fl tl ct flags ids hrefs num last inch) {b : Bool} (hb : (idxA (.lst flags) (.int 0) >>= truthA) = some b) (hx : x.length ≤ 1000) (hz : hrefs.length ≤ 10000) (h0 : 0 < hrefs.length) (hl : last < hrefs.length) :
    ∃ ρ', fConv_k17 ρ = some (.ret (.tup [fl, tl, .lst flags, .lst ((if b then hrefs else hrefs.set 0 (.str (firstT x))).set last (.str (topT x))), .lst ids]), ρ') := by
  obtain ⟨g1, g2, g3, g4, g5, g6, g7, g8, g9, g10, g11⟩ := h
  have p1 : pct1 firstT (.str x) = some (.str (firstT x)) := if_pos (by (first | lia | omega))
  have p2 : pct1 topT (.str x) = some (.str (topT x)) := if_pos (by (first | lia | omega))
  have t1 : ((getV ρ "flaglist" >>= fun o => (some (AV.int 0)) >>= fun i => idxA o i) >>= truthA) = some b := by
    rw [g11]; exact hb
  have fin : ∀ (ρ₁ : Slots) (hs : List AV), getV ρ₁ "toprefix" = some (.str x) → getO ρ₁ "next_href" = some ⟨none, hs⟩ → getO ρ₁ "next_id" = some ⟨none, ids⟩ → getV ρ₁ "last" = some (.int last) → getV ρ₁ "fromlist" = some fl → getV ρ₁ "tolist" = some tl → getV ρ₁ "flaglist" = some (.lst flags) → hs.length = hrefs.length → ∃ ρ', fConv_k16 ρ₁ = some (.ret (.tup [fl, tl, .lst flags, .lst (hs.set last (.str (topT x))), .lst ids]), ρ') := fun ρ₁ hs a1 a2 a3 a4 a5 a6 a7 hlen => by
    have q1 := put_at hs last (.str (topT x)) (by (first | lia | omega)) (by (first | lia | omega))
    have i1 : (AV.int (last : Int)).int? = some (last : Int) := rfl
    generalize hρ₂ : ρ₁.set "next_href" (.own ⟨none, hs.set last (.str (topT x))⟩) = ρ₂
    have b1 : getO ρ₂ "next_href" = some ⟨none, hs.set last (.str (topT x))⟩ := by subst hρ₂; ac_rfl
    have b2 : getO ρ₂ "next_id" = some ⟨none, ids⟩ := by subst hρ₂; ac_rfl
    have b3 : getV ρ₂ "fromlist" = some fl := by subst hρ₂; ac_rfl
    have b4 : getV ρ₂ "tolist" = some tl := by subst hρ₂; ac_rfl
    have b5 : getV ρ₂ "flaglist" = some (.lst flags) := by subst hρ₂; ac_rfl
    have f1 := freeze_own' b1
    generalize hρ₃ : ρ₂.set "next_href" (.val (.lst (hs.set last (.str (topT x))))) = ρ₃ at f1
    have c2 : getO ρ₃ "next_id" = some ⟨none, ids⟩ := by subst hρ₃; ac_rfl
    have c1 : getV ρ₃ "next_href" = some (.lst (hs.set last (.str (topT x)))) := by subst hρ₃; ac_rfl
    have c3 : getV ρ₃ "fromlist" = some fl := by subst hρ₃; ac_rfl
    have c4 : getV ρ₃ "tolist" = some tl := by subst hρ₃; ac_rfl
    have c5 : getV ρ₃ "flaglist" = some (.lst flags) := by subst hρ₃; ac_rfl
    have f2 := freeze_own' c2
    refine ⟨ρ₃.set "next_id" (.val (.lst ids)), ?_⟩
    unfold fConv_k16
    refine bindS (a := (.next, ρ₂)) ?_ (thenS ?_)
    · subst hρ₂; ac_rfl
    · unfold fConv_k15 fConv_z14
      rw [f1, f2]
      unfold fConv_z13
      refine bindS (a := (.ret (.tup [fl, tl, .lst flags, .lst (hs.set last (.str (topT x))), .lst ids]), ρ₃.set "next_id" (.val (.lst ids)))) ?_ rfl
      ac_rfl
  cases b with
  | true =>
    obtain ⟨ρ', e⟩ := fin ρ hrefs g1 g4 g3 g7 g8 g9 g11 rfl
    refine ⟨ρ', ?_⟩
    unfold fConv_k17
    exact bindS (bindS (mapS t1 rfl) (iteF rfl)) (thenS e)
  | false =>
    have q1 := put_at hrefs 0 (.str (firstT x)) h0 (by (first | lia | omega))
    obtain ⟨ρ', e⟩ := fin (ρ.set "next_href" (.own ⟨none, hrefs.set 0 (.str (firstT x))⟩)) (hrefs.set 0 (.str (firstT x))) (by ac_rfl) (by ac_rfl) (by ac_rfl) (by ac_rfl) (by ac_rfl) (by ac_rfl) (by ac_rfl) (by rw [List.length_set])
    refine ⟨ρ', ?_⟩
    unfold fConv_k17
    refine bindS (bindS (mapS t1 rfl) (iteT (bindS (a := (.next, ρ.set "next_href" (.own ⟨none, hrefs.set 0 (.str (firstT x))⟩))) ?_ (thenS rfl)))) (thenS e)
    exact bindS (bindS g1 p1) (bindS g4 (bindS (a := .int 0) rfl (bindS (a := 0) rfl (bindS q1 rfl))))
end
end Mine
end
section
set_option linter.unusedVariables false
set_option linter.unusedSimpArgs false
set_option maxHeartbeats 1000000
namespace Mine
noncomputable def pinst (x : Str) (fs : List (Str × AV)) : Prop := ∃ a, fs.lookup ("_prefix" : Str) = some (.lst [a, .str x])
noncomputable def noneT : Str := "<td></td><td>&nbsp;No Differences Found&nbsp;</td>"
noncomputable def emptyT : Str := "<td></td><td>&nbsp;Empty File&nbsp;</td>"
noncomputable def wordT : Bool → Str
  | true => noneT
  | false => emptyT
section
variable {x : Str} {m : Nat} {c : Bool} {fs : List (Str × AV)} {fl tl : AV} {flags : List AV}
theorem conv_pre (hp : pinst x fs) (hN : flags.length ≤ 1000) {ρ : Slots} (s1 : getV ρ "self" = some (.inst 113 fs)) (s2 : getV ρ "fromlist" = some fl) (s3 : getV ρ "tolist" = some tl) (s4 : getV ρ "flaglist" = some (.lst flags)) (s5 : getV ρ "context" = some (.bool c)) (s6 : getV ρ "numlines" = some (.int m)) :
    ∃ ρ₁, (∀ r, fConv_k19 ρ₁ = r → fConv ρ = r) ∧ CS ρ₁ x m fl tl (.bool c) flags (List.replicate flags.length e0) (List.replicate flags.length e0) 0 0 false := by
  obtain ⟨a0, hp⟩ := hp
  have at1 : attrA 113 "_prefix" (.inst 113 fs) = some (.lst [a0, .str x]) := by
    unfold attrA
    dsimp only
    rw [if_pos rfl, hp]; rfl
  have ix : idxA (.lst [a0, .str x]) (.int 1) = some (.str x) := rfl
  generalize hρ₁ : ρ.set "toprefix" (.val (.str x)) = ρ₁
  have k0 : ∀ r, fConv_k23 ρ₁ = r → fConv ρ = r := fun r hr => by
    rw [← hρ₁] at hr
    unfold fConv
    exact bindS (bindS (bindS (bindS s1 at1) (bindS rfl ix)) rfl) (thenS hr)
  have a1 : getV ρ₁ "toprefix" = some (.str x) := by subst hρ₁; ac_rfl
  have a2 : getV ρ₁ "fromlist" = some fl := by subst hρ₁; ac_rfl
  have a3 : getV ρ₁ "tolist" = some tl := by subst hρ₁; ac_rfl
  have a4 : getV ρ₁ "flaglist" = some (.lst flags) := by subst hρ₁; ac_rfl
  have a5 : getV ρ₁ "context" = some (.bool c) := by subst hρ₁; ac_rfl
  have a6 : getV ρ₁ "numlines" = some (.int m) := by subst hρ₁; ac_rfl
  clear hρ₁
  have ln := len_lst flags (by (first | lia | omega))
  have rp := rep_e0 flags.length (by (first | lia | omega))
  generalize hρ₂ : (ρ₁.set "next_id" (.own ⟨none, List.replicate flags.length e0⟩)).set "next_href" (.own ⟨none, List.replicate flags.length e0⟩) = ρ₂
  have k1 : ∀ r, fConv_k21 ρ₂ = r → fConv_k23 ρ₁ = r := fun r hr => by
    rw [← hρ₂] at hr
    unfold fConv_k23
    refine bindS (a := (.next, ρ₁.set "next_id" (.own ⟨none, List.replicate flags.length e0⟩))) ?_ (thenS ?_)
    · refine bindS (a := List.replicate flags.length e0) ?_ rfl
      refine bindS (a := .lst [.str ""]) (by ac_rfl) ?_
      exact bindS (bindS (bindS a4 rfl) ln) rp
    unfold fConv_k22
    have a4' : getV (ρ₁.set "next_id" (.own ⟨none, List.replicate flags.length e0⟩)) "flaglist" = some (.lst flags) := by ac_rfl
    refine bindS (a := (.next, (ρ₁.set "next_id" (.own ⟨none, List.replicate flags.length e0⟩)).set "next_href" (.own ⟨none, List.replicate flags.length e0⟩))) ?_ (thenS hr)
    refine bindS (a := List.replicate flags.length e0) ?_ rfl
    refine bindS (a := .lst [.str ""]) (by ac_rfl) ?_
    exact bindS (bindS (bindS a4' rfl) ln) rp
  have b1 : getV ρ₂ "toprefix" = some (.str x) := by subst hρ₂; ac_rfl
  have b2 : getV ρ₂ "fromlist" = some fl := by subst hρ₂; ac_rfl
  have b3 : getV ρ₂ "tolist" = some tl := by subst hρ₂; ac_rfl
  have b4 : getV ρ₂ "flaglist" = some (.lst flags) := by subst hρ₂; ac_rfl
  have b5 : getV ρ₂ "context" = some (.bool c) := by subst hρ₂; ac_rfl
  have b6 : getV ρ₂ "numlines" = some (.int m) := by subst hρ₂; ac_rfl
  have b7 : getO ρ₂ "next_id" = some ⟨none, List.replicate flags.length e0⟩ := by subst hρ₂; ac_rfl
  have b8 : getO ρ₂ "next_href" = some ⟨none, List.replicate flags.length e0⟩ := by subst hρ₂; ac_rfl
  clear hρ₂
  refine ⟨((ρ₂.set "num_chg" (.val (.int (0 : Nat)))).set "in_change" (.val (.bool false))).set "last" (.val (.int (0 : Nat))), fun r hr => k0 r (k1 r ?_), ?_⟩
  · unfold fConv_k21
    refine bindS (a := (.next, (ρ₂.set "num_chg" (.val (.int (0 : Nat)))).set "in_change" (.val (.bool false)))) rfl (thenS ?_)
    unfold fConv_k20
    exact bindS rfl (thenS hr)
  · exact ⟨by ac_rfl, by ac_rfl, by ac_rfl, by ac_rfl, by ac_rfl, by ac_rfl, by ac_rfl, by ac_rfl, by ac_rfl, by ac_rfl, by ac_rfl⟩
theorem GV_some (hp : pinst x fs) (hx : x.length ≤ 1000) {f0 : AV} {fr : List AV} (hfl : flags = f0 :: fr) (hF : ∀ a ∈ flags, FlagV a) (hN : flags.length ≤ 1000) :
    GV1 [.inst 113 fs, fl, tl, .lst flags, .bool c, .int m] = some (.tup [fl, tl, .lst flags, .lst (hrefsOf x (tr f0) flags.length (sts (flags.map tr) 0 false)), .lst (idsOf x m flags.length (sts (flags.map tr) 0 false))]) := by
  generalize hρ : bindA ["self", "fromlist", "tolist", "flaglist", "context", "numlines"] [.inst 113 fs, fl, tl, .lst flags, .bool c, .int m] = ρ
  obtain ⟨ρ₁, e1, cs⟩ := conv_pre (x := x) (m := m) (c := c) (fl := fl) (tl := tl) (flags := flags) hp hN (ρ := ρ) (by subst hρ; rfl) (by subst hρ; rfl) (by subst hρ; rfl) (by subst hρ; rfl) (by subst hρ; rfl) (by subst hρ; rfl)
  obtain ⟨ρ₂, inch, hr, cs2⟩ := conv_loop hx flags 0 _ _ 0 0 false ρ₁ cs hF (by (first | lia | omega)) (by rw [List.length_replicate]; (first | lia | omega)) rfl (by rw [List.length_replicate]; (first | lia | omega))
  have hb : (idxA (.lst flags) (.int 0) >>= truthA) = some (tr f0) := by
    rw [hfl]
    exact bindS (a := f0) rfl (truth_flag (hF f0 (by rw [hfl]; exact List.mem_cons_self)))
  have hlen : flags.length = fr.length + 1 := by rw [hfl]; rfl
  have h0 : (setAll (List.replicate flags.length e0) (((sts (flags.map tr) 0 false).zipIdx 0).map fun p => (p.1, AV.str (nextT x (p.2 + 1 : Nat))))).length = flags.length := by rw [setAll_len, List.length_replicate]
  have hlast : (sts (flags.map tr) 0 false).getLastD 0 < flags.length := by
    rcases getLastD_mem (S := sts (flags.map tr) 0 false) (d := 0) with h | h
    · rw [h]; (first | lia | omega)
    · have := (sts_bound _ _ _ _ h).2; rw [List.length_map] at this; (first | lia | omega)
  obtain ⟨ρ', e2⟩ := conv_end cs2 hb hx (by rw [h0]; (first | lia | omega)) (by rw [h0]; (first | lia | omega)) (by rw [h0]; exact hlast)
  have e3 : fConv ρ = some (.ret (.tup [fl, tl, .lst flags, .lst (hrefsOf x (tr f0) flags.length (sts (flags.map tr) 0 false)), .lst (idsOf x m flags.length (sts (flags.map tr) 0 false))]), ρ') := by
    refine e1 _ ?_
    unfold fConv_k19
    refine bindS (bindS (bindS (bindS cs.flags rfl) rfl) hr.forA) (thenS ?_)
    unfold fConv_k18
    refine bindS (bindS (mapS (a := true) ?_ rfl) (iteF rfl)) (thenS e2)
    rw [truthN_val cs2.flags, truth_lst flags (by (first | lia | omega)), hfl]; rfl
  unfold GV1 asF
  refine ifP rfl ?_
  rw [hρ, e3]; rfl
theorem GV_none (hp : pinst x fs) (hx : x.length ≤ 1000) :
    GV1 [.inst 113 fs, fl, tl, .lst [], .bool c, .int m] = some (.tup [.lst [.str (wordT c)], .lst [.str (wordT c)], .lst [.bool false], .lst [.str (topT x)], .lst [e0]]) := by
  generalize hρ : bindA ["self", "fromlist", "tolist", "flaglist", "context", "numlines"] [.inst 113 fs, fl, tl, .lst [], .bool c, .int m] = ρ
  obtain ⟨ρ₁, e1, cs⟩ := conv_pre (x := x) (m := m) (c := c) (fl := fl) (tl := tl) (flags := []) hp (by simp) (ρ := ρ) (by subst hρ; rfl) (by subst hρ; rfl) (by subst hρ; rfl) (by subst hρ; rfl) (by subst hρ; rfl) (by subst hρ; rfl)
  obtain ⟨g1, g2, g3, g4, g5, g6, g7, g8, g9, g10, g11⟩ := cs
  have t1 : truthN ρ₁ "flaglist" = some false := (truthN_val g11).trans rfl
  generalize hρ₂ : (((ρ₁.set "flaglist" (.val (.lst [.bool false]))).set "next_id" (.own ⟨none, [e0]⟩)).set "next_href" (.own ⟨none, [e0]⟩)).set "last" (.val (.int (0 : Nat))) = ρ₂
  have e2 : ∀ r, fConv_k9 ρ₂ = some r → r.1 = .next → ∀ r', fConv_k17 r.2 = r' → fConv_k18 ρ₁ = r' := fun r hr hn r' hr' => by
    rw [← hρ₂] at hr
    obtain ⟨r1, r2⟩ := r
    cases hn
    unfold fConv_k18
    refine bindS (bindS (mapS t1 rfl) (iteT (bindS (a := (.next, ρ₁.set "flaglist" (.val (.lst [.bool false])))) (by ac_rfl) (thenS ?_)))) (thenS hr')
    unfold fConv_k12
    refine bindS (a := (.next, (ρ₁.set "flaglist" (.val (.lst [.bool false]))).set "next_id" (.own ⟨none, [e0]⟩))) (by unfold e0; ac_rfl) (thenS ?_)
    unfold fConv_k11
    refine bindS (a := (.next, ((ρ₁.set "flaglist" (.val (.lst [.bool false]))).set "next_id" (.own ⟨none, [e0]⟩)).set "next_href" (.own ⟨none, [e0]⟩))) (by unfold e0; ac_rfl) (thenS ?_)
    unfold fConv_k10
    exact bindS rfl (thenS hr)
  have b1 : getV ρ₂ "toprefix" = some (.str x) := by subst hρ₂; ac_rfl
  have b2 : getV ρ₂ "numlines" = some (.int m) := by subst hρ₂; ac_rfl
  have b3 : getO ρ₂ "next_id" = some ⟨none, [e0]⟩ := by subst hρ₂; ac_rfl
  have b4 : getO ρ₂ "next_href" = some ⟨none, [e0]⟩ := by subst hρ₂; ac_rfl
  have b5 : getV ρ₂ "num_chg" = some (.int (0 : Nat)) := by subst hρ₂; ac_rfl
  have b6 : getV ρ₂ "in_change" = some (.bool false) := by subst hρ₂; ac_rfl
  have b7 : getV ρ₂ "last" = some (.int (0 : Nat)) := by subst hρ₂; ac_rfl
  have b10 : getV ρ₂ "context" = some (.bool c) := by subst hρ₂; ac_rfl
  have b11 : getV ρ₂ "flaglist" = some (.lst [.bool false]) := by subst hρ₂; ac_rfl
  clear hρ₂
  have e3 : ∃ ρ₃, fConv_k9 ρ₂ = some (.next, ρ₃) ∧ CS ρ₃ x m (.lst [.str (wordT c)]) (.lst [.str (wordT c)]) (.bool c) [.bool false] [e0] [e0] 0 0 false := by
    have t2 : truthN ρ₂ "context" = some c := (truthN_val b10).trans rfl
    cases c with
    | true =>
      refine ⟨(ρ₂.set "fromlist" (.val (.lst [.str noneT]))).set "tolist" (.val (.lst [.str noneT])), ?_, ?_⟩
      · unfold fConv_k9
        refine bindS (bindS t2 (iteT (bindS (a := (.next, ρ₂.set "fromlist" (.val (.lst [.str noneT])))) (by unfold noneT; ac_rfl) (thenS ?_)))) (thenS rfl)
        unfold fConv_k8
        exact bindS (bindS (getV_hit _ _ _) rfl) (thenS rfl)
      · show CS _ x m (.lst [.str noneT]) (.lst [.str noneT]) (.bool true) [.bool false] [e0] [e0] 0 0 false
        exact ⟨by ac_rfl, by ac_rfl, by ac_rfl, by ac_rfl, by ac_rfl, by ac_rfl, by ac_rfl, by ac_rfl, by ac_rfl, by ac_rfl, by ac_rfl⟩
    | false =>
      refine ⟨(ρ₂.set "fromlist" (.val (.lst [.str emptyT]))).set "tolist" (.val (.lst [.str emptyT])), ?_, ?_⟩
      · unfold fConv_k9
        exact bindS (bindS t2 (iteF (bindS (a := (.next, (ρ₂.set "fromlist" (.val (.lst [.str emptyT]))).set "tolist" (.val (.lst [.str emptyT])))) (by unfold emptyT; ac_rfl) (thenS rfl)))) (thenS rfl)
      · show CS _ x m (.lst [.str emptyT]) (.lst [.str emptyT]) (.bool false) [.bool false] [e0] [e0] 0 0 false
        exact ⟨by ac_rfl, by ac_rfl, by ac_rfl, by ac_rfl, by ac_rfl, by ac_rfl, by ac_rfl, by ac_rfl, by ac_rfl, by ac_rfl, by ac_rfl⟩
  obtain ⟨ρ₃, e3, cs3⟩ := e3
  obtain ⟨ρ', e4⟩ := conv_end cs3 (b := false) rfl hx (by decide) (by decide) (by decide)
  have e5 : fConv ρ = some (.ret (.tup [.lst [.str (wordT c)], .lst [.str (wordT c)], .lst [.bool false], .lst [.str (topT x)], .lst [e0]]), ρ') := by
    refine e1 _ ?_
    unfold fConv_k19
    exact bindS (bindS (bindS (bindS g11 rfl) rfl) (show forA _ _ [] ρ₁ = some (.next, ρ₁) from rfl)) (thenS (e2 _ e3 rfl _ e4))
  unfold GV1 asF
  refine ifP rfl ?_
  rw [hρ, e5]; rfl
end
end Mine
end
section
set_option linter.unusedVariables false
set_option linter.unusedSimpArgs false
set_option maxHeartbeats 1000000
namespace Mine
theorem sapp (a b c : Str) : a ++ b ++ c = a ++ (b ++ c) := by
  cases a; cases b; cases c
  show Str.append (Str.append _ _) _ = Str.append _ (Str.append _ _)
  unfold Str.append; simp
theorem slen (a b : Str) : (a ++ b).length = a.length + b.length := Str.length_append a b
theorem add_str (a b : Str) (h : a.length + b.length ≤ 16777216) : binA .Add (.str a) (.str b) = some (.str (a ++ b)) := if_pos h
theorem tonat_len (n : Nat) (h : n ≤ 100000) : (Str.ofString (toString (n : Int))).length ≤ 10 := toString_length_le (k := 10) (by (first | lia | omega)) (by decide) (by (first | lia | omega))
noncomputable def linkT (x g w : Str) : Str := ("<a href=\"#difflib_chg_" : Str) ++ x ++ ("_" : Str) ++ g ++ ("\">" : Str) ++ w ++ ("</a>" : Str)
noncomputable def GK1 : List AV → Option AV := asF ["name", "goal", "word"] fLink
theorem GK_eq (x g w : Str) (hx : x.length ≤ 1000) (hg : g.length ≤ 1000) (hw : w.length ≤ 1000) : GK1 [.str x, .str g, .str w] = some (.str (linkT x g w)) := by
  generalize hρ : bindA ["name", "goal", "word"] [.str x, .str g, .str w] = ρ
  have g1 : getV ρ "name" = some (.str x) := by subst hρ; rfl
  have g2 : getV ρ "goal" = some (.str g) := by subst hρ; rfl
  have g3 : getV ρ "word" = some (.str w) := by subst hρ; rfl
  have n1 : (Str.ofString "<a href=\"#difflib_chg_").length = 22 := by decide +kernel
  have n2 : (Str.ofString "_").length = 1 := by decide +kernel
  have n3 : (Str.ofString "\">").length = 2 := by decide +kernel
  have n4 : (Str.ofString "</a>").length = 4 := by decide +kernel
  have p1 := add_str "<a href=\"#difflib_chg_" x (by rw [n1]; (first | lia | omega))
  have l1 := slen "<a href=\"#difflib_chg_" x
  have p2 := add_str _ "_" (show (Str.ofString "<a href=\"#difflib_chg_" ++ x).length + _ ≤ _ by rw [l1, n1, n2]; (first | lia | omega))
  have l2 := slen (Str.ofString "<a href=\"#difflib_chg_" ++ x) "_"
  have p3 := add_str _ g (show (Str.ofString "<a href=\"#difflib_chg_" ++ x ++ Str.ofString "_").length + _ ≤ _ by rw [l2, l1, n1, n2]; (first | lia | omega))
  have l3 := slen (Str.ofString "<a href=\"#difflib_chg_" ++ x ++ Str.ofString "_") g
  have p4 := add_str _ "\">" (show (Str.ofString "<a href=\"#difflib_chg_" ++ x ++ Str.ofString "_" ++ g).length + _ ≤ _ by rw [l3, l2, l1, n1, n2, n3]; (first | lia | omega))
  have l4 := slen (Str.ofString "<a href=\"#difflib_chg_" ++ x ++ Str.ofString "_" ++ g) "\">"
  have p5 := add_str _ w (show (Str.ofString "<a href=\"#difflib_chg_" ++ x ++ Str.ofString "_" ++ g ++ Str.ofString "\">").length + _ ≤ _ by rw [l4, l3, l2, l1, n1, n2, n3]; (first | lia | omega))
  have l5 := slen (Str.ofString "<a href=\"#difflib_chg_" ++ x ++ Str.ofString "_" ++ g ++ Str.ofString "\">") w
  have p6 := add_str _ "</a>" (show (Str.ofString "<a href=\"#difflib_chg_" ++ x ++ Str.ofString "_" ++ g ++ Str.ofString "\">" ++ w).length + _ ≤ _ by rw [l5, l4, l3, l2, l1, n1, n2, n3, n4]; (first | lia | omega))
  have e : fLink ρ = some (.ret (.str (linkT x g w)), ρ) := by
    unfold fLink linkT
    exact bindS (bindS (bindS (bindS (bindS (bindS (bindS (bindS rfl (bindS g1 p1)) (bindS rfl p2)) (bindS g2 p3)) (bindS rfl p4)) (bindS g3 p5)) (bindS rfl p6)) rfl) rfl
  unfold GK1 asF
  refine ifP rfl ?_
  rw [hρ, e]; rfl
theorem link_top (x : Str) : linkT x "top" "t" = topT x := by
  unfold linkT topT
  rw [sapp (("<a href=\"#difflib_chg_" : Str) ++ x ++ ("_" : Str) ++ ("top" : Str) ++ ("\">" : Str)), sapp (("<a href=\"#difflib_chg_" : Str) ++ x ++ ("_" : Str) ++ ("top" : Str)), sapp (("<a href=\"#difflib_chg_" : Str) ++ x ++ ("_" : Str)), sapp (("<a href=\"#difflib_chg_" : Str) ++ x)]
  exact congrArg _ (by decide +kernel)
theorem link_first (x : Str) : linkT x "0" "f" = firstT x := by
  unfold linkT firstT
  rw [sapp (("<a href=\"#difflib_chg_" : Str) ++ x ++ ("_" : Str) ++ ("0" : Str) ++ ("\">" : Str)), sapp (("<a href=\"#difflib_chg_" : Str) ++ x ++ ("_" : Str) ++ ("0" : Str)), sapp (("<a href=\"#difflib_chg_" : Str) ++ x ++ ("_" : Str)), sapp (("<a href=\"#difflib_chg_" : Str) ++ x)]
  exact congrArg _ (by decide +kernel)
theorem link_next (x : Str) (n : Int) : linkT x (Str.ofString (toString n)) "n" = nextT x n := by
  unfold linkT nextT
  rw [sapp (("<a href=\"#difflib_chg_" : Str) ++ x ++ ("_" : Str) ++ Str.ofString (toString n) ++ ("\">" : Str)), sapp (("<a href=\"#difflib_chg_" : Str) ++ x ++ ("_" : Str) ++ Str.ofString (toString n))]
  exact congrArg _ (by decide +kernel)
noncomputable def intA (n : Nat) : AV := .int (n : Int)
theorem idx_at (l : List AV) (k : Nat) {a : AV} (h : l[k]? = some a) (hz : k ≤ 100000) : idxA (.lst l) (.int (k : Int)) = some a := by
  have hk : k < l.length := (List.getElem?_eq_some_iff.mp h).1
  rw [idxA_lst, if_pos ⟨by (first | lia | omega), by (first | lia | omega)⟩]
  unfold itemL
  rw [if_pos (by (first | lia | omega)), Int.toNat_natCast]; exact h
theorem str_nat (n : Nat) (h : n ≤ 100000) : strF [.int (n : Int)] = some (.str (Str.ofString (toString (n : Int)))) := by
  unfold strF arg1
  exact bindS (a := (n : Int)) rfl (if_pos (by (first | lia | omega)))
theorem max3_sub (s m : Nat) : max3 [.int 0, .int ((s : Int) - m)] = some (.int ((s - m : Nat) : Int)) := maxL_nat s m
end Mine
end
section
set_option linter.unusedVariables false
set_option linter.unusedSimpArgs false
set_option maxHeartbeats 1000000
namespace Mine
theorem range_nat (k : Nat) (h : k ≤ 1000000) : rangeA [.int k] = some (rangeL (0 : Nat) 1 k) := by
  rw [rangeA_1]
  show (if -1000000000 < (k : Int) ∧ (k : Int) < 1000000000 then some (rangeL 0 1 (k : Int).toNat) else none) = _
  rw [if_pos ⟨by (first | lia | omega), by (first | lia | omega)⟩, Int.toNat_natCast]; rfl
noncomputable def hereL (S : List Nat) (m k : Nat) : List Nat := (List.range S.length).filter fun c => S.getD c 0 - m == k
noncomputable def hereT : Slots → Option Bool := fun ρ => (((((some (.int 0)) >>= fun a => ((((((getV ρ "starts") >>= fun o => (getV ρ "c") >>= fun i => idxA o i)) >>= fun a => (getV ρ "around") >>= fun b => binA .Sub a b)) >>= fun a => (some []) >>= fun l => some (a :: l)) >>= fun l => some (a :: l)) >>= max3)) >>= fun a => (getV ρ "k") >>= fun b => cmpA .Eq a b)
theorem comp_here {GK GV : List AV → Option AV} {S : List Nat} {m k : Nat} (hS : S.length ≤ 1000) : ∀ (n a : Nat) (ρ : Slots), getV ρ "starts" = some (.lst (S.map intA)) → getV ρ "around" = some (.int m) → getV ρ "k" = some (.int k) → a + n = S.length →
    compA (fPost_T7 GK GV) hereT (fPost_f8 GK GV) (rangeL (a : Nat) 1 n) ρ = some (((List.range' a n).filter fun c => S.getD c 0 - m == k).map intA)
  | 0, a, ρ, _, _, _, _ => rfl
  | n + 1, a, ρ, h1, h2, h3, hn => by
    generalize hρ₁ : ρ.set "c" (.val (.int (a : Nat))) = ρ₁
    have g1 : getV ρ₁ "starts" = some (.lst (S.map intA)) := by subst hρ₁; exact getV_skip rfl h1
    have g2 : getV ρ₁ "around" = some (.int m) := by subst hρ₁; exact getV_skip rfl h2
    have g3 : getV ρ₁ "k" = some (.int k) := by subst hρ₁; exact getV_skip rfl h3
    have g4 : getV ρ₁ "c" = some (.int (a : Nat)) := by subst hρ₁; exact getV_hit _ _ _
    have hT : fPost_T7 GK GV (.int (a : Nat)) ρ = some ρ₁ := by subst hρ₁; rfl
    have ha : a < S.length := by (first | lia | omega)
    have ix : idxA (.lst (S.map intA)) (.int (a : Nat)) = some (.int ((S.getD a 0 : Nat) : Int)) := idx_at _ a (by rw [List.getElem?_map, List.getElem?_eq_getElem ha, List.getD_eq_getElem?_getD, List.getElem?_eq_getElem ha]; rfl) (by (first | lia | omega))
    have s1 : binA .Sub (.int ((S.getD a 0 : Nat) : Int)) (.int (m : Int)) = some (.int (((S.getD a 0 : Nat) : Int) - m)) := rfl
    have s2 := max3_sub (S.getD a 0) m
    have ht : hereT ρ₁ = some (S.getD a 0 - m == k) := by
      unfold hereT
      refine bindS (a := .int ((S.getD a 0 - m : Nat) : Int)) (by ac_rfl) (bindS g3 ?_)
      rw [eq_int']
      refine congrArg some ?_
      rw [Bool.eq_iff_iff, beq_iff_eq, beq_iff_eq]
      generalize S.getD a 0 - m = z
      (first | lia | omega)
    have ih := comp_here (GK := GK) (GV := GV) (m := m) (k := k) hS n (a + 1) ρ₁ g1 g2 g3 (by (first | lia | omega))
    have ih' : compA (fPost_T7 GK GV) hereT (fPost_f8 GK GV) (rangeL ((a : Nat) + 1 : Int) 1 n) ρ₁ = some (((List.range' (a + 1) n).filter fun c => S.getD c 0 - m == k).map intA) := ih
    show (fPost_T7 GK GV (.int (a : Nat)) ρ >>= fun ρ₁ => hereT ρ₁ >>= fun b => if b = true then (fPost_f8 GK GV ρ₁ >>= fun x => (compA (fPost_T7 GK GV) hereT (fPost_f8 GK GV) (rangeL ((a : Nat) + 1 : Int) 1 n) ρ₁).map (x :: ·)) else compA (fPost_T7 GK GV) hereT (fPost_f8 GK GV) (rangeL ((a : Nat) + 1 : Int) 1 n) ρ₁) = _
    refine bindS hT (bindS ht ?_)
    rw [List.range'_succ, List.filter_cons]
    by_cases hc : (S.getD a 0 - m == k) = true
    · rw [if_pos hc, if_pos hc, ih']
      exact bindS g4 rfl
    · rw [if_neg hc, if_neg hc, ih']
noncomputable def lastId (x : Str) (H : List Nat) : AV := match H.getLast? with
  | some c => .str (idT x (c : Nat))
  | none => e0
noncomputable def ancT (x : Str) (S : List Nat) (m k : Nat) : AV := lastId x (hereL S m k)
noncomputable def lnkT (x : Str) (S : List Nat) (k : Nat) : AV := if k = S.getLastD 0 then .str (topT x) else if k ∈ S then .str (nextT x (S.idxOf k + 1 : Nat)) else if k = 0 then .str (firstT x) else e0
structure LS (ρ : Slots) (x : Str) (S : List Nat) (m : Nat) (la ll : List AV) : Prop where
  name : getV ρ "name" = some (.str x)
  starts : getV ρ "starts" = some (.lst (S.map intA))
  around : getV ρ "around" = some (.int m)
  anchors : getO ρ "anchors" = some ⟨none, la⟩
  links : getO ρ "links" = some ⟨none, ll⟩
structure LR (ρ : Slots) (told ones others flags : AV) (part : Bool) : Prop where
  told : getV ρ "told" = some told
  ones : getV ρ "ones" = some ones
  others : getV ρ "others" = some others
  flags : getV ρ "flags" = some flags
  part : getV ρ "part" = some (.bool part)
theorem ints_map : ∀ (S : List Nat), intsOf (S.map intA) = some (S.map fun n : Nat => (n : Int))
  | [] => rfl
  | a :: S => by
    show ((intsOf (S.map intA)).map fun r => (a : Int) :: r) = _
    rw [ints_map S]; rfl
theorem idx_map_int (S : List Nat) (k : Nat) : (S.map fun n : Nat => (n : Int)).idxOf (k : Int) = S.idxOf k := by
  induction S with
  | nil => rfl
  | cons a S ih =>
    rw [List.map_cons, List.idxOf_cons, List.idxOf_cons, ih]
    congr 1
    rw [Bool.eq_iff_iff, beq_iff_eq, beq_iff_eq]; (first | lia | omega)
theorem last_at (S : List Nat) (hS : S.length ≤ 1000) : ∃ i : Nat, max3 [.int ((S.length : Int) - 1), .int 0] = some (.int i) ∧ idxA (.lst (S.map intA ++ [.int 0])) (.int i) = some (.int ((S.getLastD 0 : Nat) : Int)) := by
  refine ⟨S.length - 1, ?_, ?_⟩
  · show some (AV.int (if (0 : Int) > ((S.length : Int) - 1) then 0 else ((S.length : Int) - 1))) = _
    by_cases h : (0 : Int) > ((S.length : Int) - 1)
    · rw [if_pos h, show ((S.length - 1 : Nat) : Int) = 0 by (first | lia | omega)]
    · rw [if_neg h, show ((S.length - 1 : Nat) : Int) = (S.length : Int) - 1 by (first | lia | omega)]
  · refine idx_at _ _ ?_ (by (first | lia | omega))
    cases S with
    | nil => rfl
    | cons a S =>
      rw [List.getElem?_append_left (by simp), List.getElem?_map, List.length_cons, Nat.add_sub_cancel]
      rw [List.getLastD_cons, List.getLastD_eq_getLast?]
      cases h : S.getLast? with
      | none => rw [List.getLast?_eq_none_iff] at h; subst h; rfl
      | some b =>
        have hne : S ≠ [] := by rintro rfl; cases h
        rw [show (a :: S)[S.length]? = some b from by
          rw [← h, List.getLast?_eq_getElem?]
          cases S with
          | nil => exact absurd rfl hne
          | cons c S => simp]
        rfl
end Mine
end
section
set_option linter.unusedVariables false
set_option linter.unusedSimpArgs false
set_option maxHeartbeats 1000000
namespace Mine
theorem ne_ints (H : List Nat) : cmpA .NotEq (.lst (H.map intA)) (.lst []) = some (!H.isEmpty) := by
  show (eqL (H.map intA) (.lst [])).map (!·) = _
  unfold eqL
  rw [show AV.lst? (.lst []) = some [] from rfl, bind_some']
  cases H with
  | nil => rw [if_pos ⟨rfl, rfl⟩]; rfl
  | cons a H => rw [if_neg (fun h => by cases h.1), if_pos (by simp)]; rfl
theorem anc_txt {ρ : Slots} {x : Str} {H : List Nat} (hx : x.length ≤ 1000) (hH : ∀ c ∈ H, c ≤ 1000) (hz : H.length ≤ 1000) (g1 : getV ρ "name" = some (.str x)) (g2 : getV ρ "here" = some (.lst (H.map intA))) :
    (((((getV ρ "here") >>= fun a => (((some []) >>= fun l => if l.length ≤ 1000000 then some (.lst l) else none)) >>= fun b => cmpA .NotEq a b)) >>= fun x => if x = true then (((((((((some (.str " id=\"difflib_chg_")) >>= fun a => (getV ρ "name") >>= fun b => binA .Add a b)) >>= fun a => (some (.str "_")) >>= fun b => binA .Add a b)) >>= fun a => ((((((getV ρ "here") >>= fun o => (((some (.int 1)) >>= negA)) >>= fun i => idxA o i)) >>= fun a => (some []) >>= fun l => some (a :: l)) >>= strF)) >>= fun b => binA .Add a b)) >>= fun a => (some (.str "\"")) >>= fun b => binA .Add a b)) else (some (AV.str "")))) = some (lastId x H) := by
  unfold lastId
  refine bindS (a := !H.isEmpty) (bindS g2 (bindS (a := .lst []) (by ac_rfl) (ne_ints H))) ?_
  cases hl : H.getLast? with
  | none => rw [List.getLast?_eq_none_iff] at hl; subst hl; rfl
  | some c =>
    have hne : (!H.isEmpty) = true := by cases H with
      | nil => cases hl
      | cons a H => rfl
    have hc : c ≤ 1000 := hH c (List.mem_of_getLast? hl)
    have ix : idxA (.lst (H.map intA)) (.int (-1)) = some (.int (c : Int)) := idx_last _ _ (by rw [List.getLast?_map, hl]; rfl) (by rw [List.length_map]; (first | lia | omega))
    have n1 : (Str.ofString " id=\"difflib_chg_").length = 17 := by decide +kernel
    have n2 : (Str.ofString "_").length = 1 := by decide +kernel
    have n3 : (Str.ofString "\"").length = 1 := by decide +kernel
    have n4 := tonat_len c (by (first | lia | omega))
    have st := str_nat c (by (first | lia | omega))
    have p1 := add_str " id=\"difflib_chg_" x (by rw [n1]; (first | lia | omega))
    have l1 := slen " id=\"difflib_chg_" x
    have p2 := add_str _ "_" (show (Str.ofString " id=\"difflib_chg_" ++ x).length + _ ≤ _ by rw [l1, n1, n2]; (first | lia | omega))
    have l2 := slen (Str.ofString " id=\"difflib_chg_" ++ x) "_"
    have p3 := add_str _ (Str.ofString (toString (c : Int))) (show (Str.ofString " id=\"difflib_chg_" ++ x ++ Str.ofString "_").length + _ ≤ _ by rw [l2, l1, n1, n2]; (first | lia | omega))
    have l3 := slen (Str.ofString " id=\"difflib_chg_" ++ x ++ Str.ofString "_") (Str.ofString (toString (c : Int)))
    have p4 := add_str _ "\"" (show (Str.ofString " id=\"difflib_chg_" ++ x ++ Str.ofString "_" ++ Str.ofString (toString (c : Int))).length + _ ≤ _ by rw [l3, l2, l1, n1, n2, n3]; (first | lia | omega))
    rw [if_pos hne]
    show _ = some (AV.str (idT x (c : Int)))
    unfold idT
    exact bindS (bindS (bindS (bindS rfl (bindS g1 p1)) (bindS rfl p2)) (bindS (bindS (bindS (bindS g2 (bindS (a := .int (-1)) rfl ix)) rfl) st) p3)) (bindS rfl p4)
theorem in_nats (S : List Nat) (k : Nat) : cmpA .In (.int k) (.lst (S.map intA)) = some (decide (k ∈ S)) := by
  show ((intsOf (S.map intA)).map fun ns => decide ((k : Int) ∈ ns)) = _
  rw [ints_map]
  refine congrArg some ?_
  rw [decide_eq_decide, List.mem_map]
  constructor
  · rintro ⟨a, ha, e⟩
    have : a = k := by (first | lia | omega)
    exact this ▸ ha
  · exact fun h => ⟨k, h, rfl⟩
theorem index_ints (S : List Nat) (k : Nat) (h : k ∈ S) (hz : S.length ≤ 1000) : indexF [.lst (S.map intA), .int k] = some (.int (S.idxOf k : Nat)) := by
  unfold indexF arg2
  refine bindS (a := S.map intA) rfl (bindS (ints_map S) (bindS (a := (k : Int)) rfl (ifP ⟨List.mem_map.mpr ⟨k, h, rfl⟩, by rw [List.length_map]; (first | lia | omega)⟩ ?_)))
  rw [idx_map_int]
theorem lnk_k9 {GV : List AV → Option AV} {ρ : Slots} {x : Str} {S : List Nat} {m k : Nat} {la ll : List AV} (h : LS ρ x S m la ll) (hk : getV ρ "k" = some (.int k)) (hx : x.length ≤ 1000) (hS : S.length ≤ 1000) (hz : ll.length ≤ 10000) :
    fPost_k9 GK1 GV ρ = some (.next, ρ.set "links" (.own ⟨none, ll ++ [lnkT x S k]⟩)) := by
  obtain ⟨g1, g2, g3, g4, g5⟩ := h
  obtain ⟨i, mx, ix⟩ := last_at S hS
  have ln := len_lst (S.map intA) (by rw [List.length_map]; (first | lia | omega))
  rw [List.length_map] at ln
  have ad : binA .Add (.lst (S.map intA)) (.lst [.int 0]) = some (.lst (S.map intA ++ [.int 0])) := by
    show (if (S.map intA).length + 1 ≤ 16777216 then some (AV.lst (S.map intA ++ [.int 0])) else none) = _
    rw [if_pos (by rw [List.length_map]; (first | lia | omega))]
  have sb : binA .Sub (.int (S.length : Int)) (.int 1) = some (.int ((S.length : Int) - 1)) := rfl
  have c1 : (((getV ρ "k") >>= fun a => (((((getV ρ "starts") >>= fun a => ((((some (.int 0)) >>= fun a => (some []) >>= fun l => some (a :: l)) >>= fun l => if l.length ≤ 1000000 then some (.lst l) else none)) >>= fun b => binA .Add a b)) >>= fun o => (((((((((getV ρ "starts") >>= fun a => (some []) >>= fun l => some (a :: l)) >>= lenF)) >>= fun a => (some (.int 1)) >>= fun b => binA .Sub a b)) >>= fun a => ((some (.int 0)) >>= fun a => (some []) >>= fun l => some (a :: l)) >>= fun l => some (a :: l)) >>= max3)) >>= fun i => idxA o i)) >>= fun b => cmpA .Eq a b)) = some (decide (k = S.getLastD 0)) := by
    refine bindS hk (bindS (a := .int ((S.getLastD 0 : Nat) : Int)) ?_ ?_)
    · ac_rfl
    · rw [eq_int']
      refine congrArg some ?_
      rw [Bool.eq_iff_iff, beq_iff_eq, decide_eq_true_iff]; (first | lia | omega)
  have lz : ∀ a : AV, (if ll.length ≤ 1000000 then some (AFlow.next, ρ.set "links" (.own ⟨none, ll ++ [a]⟩)) else none) = some (.next, ρ.set "links" (.own ⟨none, ll ++ [a]⟩)) := fun a => if_pos (by (first | lia | omega))
  have t3 : (Str.ofString "top").length = 3 := by decide +kernel
  have t1 : (Str.ofString "t").length = 1 := by decide +kernel
  have t4 : (Str.ofString "n").length = 1 := by decide +kernel
  have t5 : (Str.ofString "0").length = 1 := by decide +kernel
  have t6 : (Str.ofString "f").length = 1 := by decide +kernel
  unfold fPost_k9 lnkT
  by_cases e1 : k = S.getLastD 0
  · have gk := GK_eq x "top" "t" hx (by (first | lia | omega)) (by (first | lia | omega))
    rw [link_top] at gk
    rw [if_pos e1]
    rw [decide_eq_true e1] at c1
    exact bindS (bindS c1 (iteT (bindS (bindS g5 (bindS (bindS (bindS g1 (bindS (bindS rfl (bindS (bindS rfl rfl) rfl)) rfl)) gk) (lz _))) (thenS rfl)))) (thenS rfl)
  · rw [if_neg e1]
    rw [decide_eq_false e1] at c1
    have c2 := in_nats S k
    by_cases e2 : k ∈ S
    · rw [if_pos e2]
      rw [decide_eq_true e2] at c2
      have i1 := index_ints S k e2 hS
      have hle : S.idxOf k < S.length := List.idxOf_lt_length_of_mem e2
      have s1 : binA .Add (.int (S.idxOf k : Nat)) (.int 1) = some (.int ((S.idxOf k + 1 : Nat) : Int)) := rfl
      have s2 := str_nat (S.idxOf k + 1) (by (first | lia | omega))
      have gk := GK_eq x (Str.ofString (toString ((S.idxOf k + 1 : Nat) : Int))) "n" hx (by have := tonat_len (S.idxOf k + 1) (by (first | lia | omega)); (first | lia | omega)) (by (first | lia | omega))
      rw [link_next] at gk
      generalize Str.ofString (toString ((S.idxOf k + 1 : Nat) : Int)) = y at s2 gk
      generalize nextT x ((S.idxOf k + 1 : Nat) : Int) = z at gk ⊢
      generalize ((S.idxOf k + 1 : Nat) : Int) = u at s1 s2
      have il : (AV.lst (S.map intA)).lst? = some (S.map intA) := rfl
      have hzz : ll.length ≤ 1000000 := by (first | lia | omega)
      generalize S.map intA = SA at *
      ac_rfl
    · rw [if_neg e2]
      rw [decide_eq_false e2] at c2
      have c3 : cmpA .Eq (.int (k : Int)) (.int 0) = some (decide (k = 0)) := by
        rw [eq_int']
        refine congrArg some ?_
        rw [Bool.eq_iff_iff, beq_iff_eq, decide_eq_true_iff]; (first | lia | omega)
      refine bindS (bindS c1 (iteF (bindS (bindS (bindS hk (bindS g2 c2)) (iteF (bindS (bindS g5 (bindS (a := if k = 0 then .str (firstT x) else e0) ?_ (lz _))) (thenS rfl)))) (thenS rfl)))) (thenS rfl)
      refine bindS (bindS hk (bindS rfl c3)) ?_
      by_cases e3 : k = 0
      · have gk := GK_eq x "0" "f" hx (by (first | lia | omega)) (by (first | lia | omega))
        rw [link_first] at gk
        rw [decide_eq_true e3, if_pos rfl, if_pos e3]
        exact bindS (bindS g1 (bindS (bindS rfl (bindS (bindS rfl rfl) rfl)) rfl)) gk
      · rw [decide_eq_false e3, if_neg (by decide), if_neg e3]; rfl
end Mine
end
section
set_option linter.unusedVariables false
set_option linter.unusedSimpArgs false
set_option maxHeartbeats 1000000
namespace Mine
section
variable {GV : List AV → Option AV} {ρ : Slots} {x : Str} {S : List Nat} {m k : Nat} {la ll : List AV} {told ones others flags : AV} {part : Bool}
theorem k_turn (h : LS ρ x S m la ll) (r : LR ρ told ones others flags part) (hx : x.length ≤ 1000) (hS : S.length ≤ 1000) (hz : ll.length ≤ 10000) (hz2 : la.length ≤ 10000) :
    ∃ ρ', (fPost_T12 GK1 GV (.int k) ρ >>= fPost_B13 GK1 GV) = some (.next, ρ') ∧ LS ρ' x S m (la ++ [ancT x S m k]) (ll ++ [lnkT x S k]) ∧ LR ρ' told ones others flags part := by
  obtain ⟨g1, g2, g3, g4, g5⟩ := h
  obtain ⟨r1, r2, r3, r4, r5⟩ := r
  generalize hρ₁ : ρ.set "k" (.val (.int k)) = ρ₁
  have eT : fPost_T12 GK1 GV (.int k) ρ = some ρ₁ := by subst hρ₁; rfl
  have a1 : getV ρ₁ "name" = some (.str x) := by subst hρ₁; ac_rfl
  have a2 : getV ρ₁ "starts" = some (.lst (S.map intA)) := by subst hρ₁; ac_rfl
  have a3 : getV ρ₁ "around" = some (.int m) := by subst hρ₁; ac_rfl
  have a4 : getO ρ₁ "anchors" = some ⟨none, la⟩ := by subst hρ₁; ac_rfl
  have a5 : getO ρ₁ "links" = some ⟨none, ll⟩ := by subst hρ₁; ac_rfl
  have a6 : getV ρ₁ "k" = some (.int k) := by subst hρ₁; ac_rfl
  have b1 : getV ρ₁ "told" = some told := by subst hρ₁; ac_rfl
  have b2 : getV ρ₁ "ones" = some ones := by subst hρ₁; ac_rfl
  have b3 : getV ρ₁ "others" = some others := by subst hρ₁; ac_rfl
  have b4 : getV ρ₁ "flags" = some flags := by subst hρ₁; ac_rfl
  have b5 : getV ρ₁ "part" = some (.bool part) := by subst hρ₁; ac_rfl
  clear hρ₁
  have ln := len_lst (S.map intA) (by rw [List.length_map]; (first | lia | omega))
  rw [List.length_map] at ln
  have rg := range_nat S.length (by (first | lia | omega))
  have cp := comp_here (GK := GK1) (GV := GV) (m := m) (k := k) hS S.length 0 (only ["around", "k", "starts"] ρ₁) ((only_hit (by decide +kernel)).trans a2) ((only_hit (by decide +kernel)).trans a3) ((only_hit (by decide +kernel)).trans a6) (Nat.zero_add _)
  rw [← List.range_eq_range'] at cp
  have hH : ∀ c ∈ hereL S m k, c ≤ 1000 := fun c hc => by
    have := List.mem_range.mp (List.mem_filter.mp hc).1; (first | lia | omega)
  have hHz : (hereL S m k).length ≤ 1000 := by
    have := List.length_filter_le (fun c => S.getD c 0 - m == k) (List.range S.length)
    rw [List.length_range] at this
    exact Nat.le_trans this hS
  have eH : ((List.range S.length).filter fun c => S.getD c 0 - m == k) = hereL S m k := rfl
  rw [eH] at cp
  have ea : ancT x S m k = lastId x (hereL S m k) := rfl
  generalize hereL S m k = H at *
  generalize hρ₃ : (ρ₁.set "here" (.own ⟨none, H.map intA⟩)).set "here" (.val (.lst (H.map intA))) = ρ₃
  have fz : freeze "here" (ρ₁.set "here" (.own ⟨none, H.map intA⟩)) = ρ₃ := by rw [freeze_own' (getO_hit _ _ _), hρ₃]
  have c1 : getV ρ₃ "name" = some (.str x) := by subst hρ₃; ac_rfl
  have c2 : getV ρ₃ "starts" = some (.lst (S.map intA)) := by subst hρ₃; ac_rfl
  have c3 : getV ρ₃ "around" = some (.int m) := by subst hρ₃; ac_rfl
  have c4 : getO ρ₃ "anchors" = some ⟨none, la⟩ := by subst hρ₃; ac_rfl
  have c5 : getO ρ₃ "links" = some ⟨none, ll⟩ := by subst hρ₃; ac_rfl
  have c6 : getV ρ₃ "k" = some (.int k) := by subst hρ₃; ac_rfl
  have c7 : getV ρ₃ "here" = some (.lst (H.map intA)) := by subst hρ₃; ac_rfl
  have d1 : getV ρ₃ "told" = some told := by subst hρ₃; ac_rfl
  have d2 : getV ρ₃ "ones" = some ones := by subst hρ₃; ac_rfl
  have d3 : getV ρ₃ "others" = some others := by subst hρ₃; ac_rfl
  have d4 : getV ρ₃ "flags" = some flags := by subst hρ₃; ac_rfl
  have d5 : getV ρ₃ "part" = some (.bool part) := by subst hρ₃; ac_rfl
  clear hρ₃
  have an := anc_txt (ρ := ρ₃) (x := x) (H := H) hx hH hHz c1 c7
  rw [← ea] at an
  generalize ancT x S m k = aa at *
  generalize hρ₄ : ρ₃.set "anchors" (.own ⟨none, la ++ [aa]⟩) = ρ₄
  have ls : LS ρ₄ x S m (la ++ [aa]) ll := by
    subst hρ₄
    exact ⟨by ac_rfl, by ac_rfl, by ac_rfl, by ac_rfl, by ac_rfl⟩
  have k9 := lnk_k9 (GV := GV) (k := k) ls (by subst hρ₄; ac_rfl) hx hS hz
  have lr : LR ρ₄ told ones others flags part := by
    subst hρ₄
    exact ⟨by ac_rfl, by ac_rfl, by ac_rfl, by ac_rfl, by ac_rfl⟩
  obtain ⟨l1, l2, l3, l4, l5⟩ := ls
  obtain ⟨m1, m2, m3, m4, m5⟩ := lr
  refine ⟨ρ₄.set "links" (.own ⟨none, ll ++ [lnkT x S k]⟩), ?_, ⟨by ac_rfl, by ac_rfl, by ac_rfl, by ac_rfl, by ac_rfl⟩, ⟨by ac_rfl, by ac_rfl, by ac_rfl, by ac_rfl, by ac_rfl⟩⟩
  refine bindS eT ?_
  unfold fPost_B13
  refine bindS (a := (.next, ρ₁.set "here" (.own ⟨none, H.map intA⟩))) ?_ (thenS ?_)
  · refine bindS (a := rangeL (0 : Nat) 1 S.length) (bindS (bindS (bindS (bindS a2 rfl) ln) rfl) rg) (ifP (by rw [rangeL_length]; (first | lia | omega)) ?_)
    exact bindS cp rfl
  · unfold fPost_k11
    rw [fz]
    unfold fPost_z10
    refine bindS (a := (.next, ρ₄)) ?_ (thenS k9)
    subst hρ₄
    exact bindS c4 (bindS an (ifP (by show la.length ≤ 1000000; (first | lia | omega)) rfl))
end
theorem k_loop {GV : List AV → Option AV} {x : Str} {S : List Nat} {m : Nat} {told ones others flags : AV} {part : Bool} (hx : x.length ≤ 1000) (hS : S.length ≤ 1000) : ∀ (n a : Nat) (la ll : List AV) (ρ : Slots), LS ρ x S m la ll → LR ρ told ones others flags part → la.length + n ≤ 10000 → ll.length + n ≤ 10000 →
    ∃ ρ', Runs (fPost_T12 GK1 GV) (fPost_B13 GK1 GV) (rangeL (a : Nat) 1 n) ρ ρ' ∧ LS ρ' x S m (la ++ (List.range' a n).map (ancT x S m)) (ll ++ (List.range' a n).map (lnkT x S)) ∧ LR ρ' told ones others flags part
  | 0, a, la, ll, ρ, h, r, _, _ => ⟨ρ, .nil, by rw [List.range'_zero, List.map_nil, List.append_nil, List.map_nil, List.append_nil]; exact h, r⟩
  | n + 1, a, la, ll, ρ, h, r, h1, h2 => by
    obtain ⟨ρ₁, e, ls, lr⟩ := k_turn (GV := GV) (k := a) h r hx hS (by (first | lia | omega)) (by (first | lia | omega))
    obtain ⟨ρ', hr, ls', lr'⟩ := k_loop (GV := GV) hx hS n (a + 1) _ _ ρ₁ ls lr (by rw [List.length_append]; simp; (first | lia | omega)) (by rw [List.length_append]; simp; (first | lia | omega))
    refine ⟨ρ', .cons e hr, ?_, lr'⟩
    rw [List.range'_succ, List.map_cons, List.map_cons]
    rw [List.append_assoc, List.append_assoc] at ls'
    exact ls'
end Mine
end
section
set_option linter.unusedVariables false
set_option linter.unusedSimpArgs false
set_option maxHeartbeats 1000000
namespace Mine
theorem ids_eq (x : Str) (m N : Nat) (S : List Nat) : (List.range' 0 N).map (ancT x S m) = idsOf x m N S := by
  refine List.ext_getElem? fun k => ?_
  unfold idsOf
  by_cases hk : k < N
  · rw [List.getElem?_map, List.getElem?_range' hk, setAll_get _ _ k e0 (by rw [List.getElem?_replicate, if_pos hk])]
    rw [lastAt_zip S (fun s => s - m) (fun c => AV.str (idT x (c : Nat))) k e0 0]
    show some (lastId x (hereL S m (0 + 1 * k))) = _
    rw [Nat.one_mul, Nat.zero_add]
    unfold lastId hereL
    cases ((List.range S.length).filter fun c => S.getD c 0 - m == k).getLast? <;> rfl
  · rw [List.getElem?_eq_none (by simp; (first | lia | omega)), List.getElem?_eq_none (by rw [setAll_len, List.length_replicate]; (first | lia | omega))]
theorem hrefs_eq (x : Str) (b : Bool) (F : List Bool) : (List.range' 0 (F.length + 1)).map (lnkT x (sts (b :: F) 0 false)) = hrefsOf x b (F.length + 1) (sts (b :: F) 0 false) := by
  have hz := sts_zero b F
  have hlt := sts_lt (b :: F) 0 false
  generalize sts (b :: F) 0 false = S at *
  have h0len : (hrefs0 x (F.length + 1) S).length = F.length + 1 := by unfold hrefs0; rw [setAll_len, List.length_replicate]
  have h0 : ∀ k, k < F.length + 1 → (hrefs0 x (F.length + 1) S)[k]? = some (if k ∈ S then .str (nextT x (S.idxOf k + 1 : Nat)) else e0) := fun k hk => by
    unfold hrefs0
    rw [setAll_get _ _ k e0 (by rw [List.getElem?_replicate, if_pos hk]), lastAt_own S (fun c => AV.str (nextT x (c + 1 : Nat))) k e0 0 hlt, Nat.add_zero]
  refine List.ext_getElem? fun k => ?_
  unfold hrefsOf
  by_cases hk : k < F.length + 1
  · rw [List.getElem?_map, List.getElem?_range' hk]
    show some (lnkT x S (0 + 1 * k)) = _
    rw [Nat.one_mul, Nat.zero_add, List.getElem?_set]
    unfold lnkT
    by_cases e1 : k = S.getLastD 0
    · rw [if_pos e1, if_pos e1.symm, if_pos (by rw [← e1]; split <;> simp [h0len] <;> (first | lia | omega))]
    · rw [if_neg e1, if_neg (show ¬ S.getLastD 0 = k from fun e => e1 e.symm)]
      cases b with
      | true =>
        rw [if_pos rfl, h0 k hk]
        by_cases e2 : k ∈ S
        · rw [if_pos e2, if_pos e2]
        · rw [if_neg e2, if_neg e2, if_neg (show ¬ k = 0 from fun e => e2 (e ▸ hz.mpr rfl))]
      | false =>
        rw [if_neg (show ¬ (false = true) by decide), List.getElem?_set]
        have hn : 0 ∉ S := fun h => Bool.noConfusion (hz.mp h)
        by_cases e3 : k = 0
        · subst e3
          rw [if_neg hn, if_pos rfl, if_pos rfl, if_pos (by rw [h0len]; (first | lia | omega))]
        · rw [if_neg (show ¬ 0 = k from fun e => e3 e.symm), h0 k hk]
          by_cases e2 : k ∈ S
          · rw [if_pos e2, if_pos e2]
          · rw [if_neg e2, if_neg e2, if_neg e3]
  · rw [List.getElem?_eq_none (by simp; (first | lia | omega)), List.getElem?_eq_none (by rw [List.length_set]; split <;> simp [h0len] <;> (first | lia | omega))]
noncomputable def AllS (l : List AV) : Prop := ∀ a ∈ l, ∃ s, a = .str s
theorem AllS.set {l : List AV} (h : AllS l) (i : Nat) (s : Str) : AllS (l.set i (.str s)) := fun a ha => (List.mem_or_eq_of_mem_set ha).elim (h a) fun e => ⟨s, e⟩
theorem AllS.setAll : ∀ (ps : List (Nat × AV)) (l : List AV), AllS l → (∀ p ∈ ps, ∃ s, p.2 = .str s) → AllS (Mine.setAll l ps)
  | [], _, h, _ => h
  | p :: ps, l, h, hp => by
    obtain ⟨s, e⟩ := hp p List.mem_cons_self
    show AllS (Mine.setAll (l.set p.1 p.2) ps)
    rw [e]
    exact AllS.setAll ps _ (h.set p.1 s) fun q hq => hp q (List.mem_cons_of_mem _ hq)
theorem AllS.rep (N : Nat) : AllS (List.replicate N e0) := fun a ha => ⟨_, (List.mem_replicate.mp ha).2⟩
theorem ids_str (x : Str) (m N : Nat) (S : List Nat) : AllS (idsOf x m N S) := AllS.setAll _ _ (.rep N) fun p hp => by
  obtain ⟨q, _, rfl⟩ := List.mem_map.mp hp; exact ⟨_, rfl⟩
theorem hrefs_str (x : Str) (b : Bool) (N : Nat) (S : List Nat) : AllS (hrefsOf x b N S) := by
  have h : AllS (hrefs0 x N S) := AllS.setAll _ _ (.rep N) fun p hp => by
    obtain ⟨q, _, rfl⟩ := List.mem_map.mp hp; exact ⟨_, rfl⟩
  unfold hrefsOf
  cases b
  · exact (h.set 0 _).set _ _
  · exact h.set _ _
theorem dat_lst {n : Nat} {l : List AV} (h : ∀ a ∈ l, dat n a = true) : dat (n + 1) (.lst l) = true := by
  show (l.all (dat n)) = true
  exact List.all_eq_true.mpr h
theorem AllS.dat {l : List AV} (h : AllS l) (n : Nat) : Mine.dat (n + 1) (.lst l) = true := dat_lst fun a ha => by
  obtain ⟨s, rfl⟩ := h a ha
  cases n <;> rfl
theorem eq_tup (l : List AV) (h : dat 8 (.tup l) = true) : cmpA .Eq (.tup l) (.tup l) = some true := by
  show sameA (.tup l) (.tup l) = _
  unfold sameA
  exact if_pos ⟨rfl, h⟩
theorem dat_five {a b c d e : AV} (h1 : dat 7 a = true) (h2 : dat 7 b = true) (h3 : dat 7 c = true) (h4 : dat 7 d = true) (h5 : dat 7 e = true) : dat 8 (.tup [a, b, c, d, e]) = true := by
  show ([a, b, c, d, e].all (dat 7)) = true
  simp [h1, h2, h3, h4, h5]
end Mine
end
section
set_option linter.unusedVariables false
set_option linter.unusedSimpArgs false
set_option maxHeartbeats 1000000
namespace Mine
noncomputable abbrev Ent := AV × AV × AV
noncomputable def entA (p : Ent) : AV := .tup [p.1, p.2.1, p.2.2]
theorem idx3 (a b c : AV) : idxA (.tup [a, b, c]) (.int 0) = some a ∧ idxA (.tup [a, b, c]) (.int 1) = some b ∧ idxA (.tup [a, b, c]) (.int 2) = some c := ⟨by kernel_rfl, by kernel_rfl, by kernel_rfl⟩
theorem comp_ent {T : AV → Slots → Option Slots} {f : Slots → Option AV} {g : Ent → AV} (hT : ∀ a ρ, T a ρ = some (Slots.set ρ "row" (.val a))) (hf : ∀ (p : Ent) ρ, getV ρ "row" = some (entA p) → f ρ = some (g p)) : ∀ (L : List Ent) (ρ : Slots), compA T (fun _ => some true) f (L.map entA) ρ = some (L.map g)
  | [], _ => rfl
  | p :: L, ρ => by
    show (T (entA p) ρ >>= fun ρ₁ => some true >>= fun b => if b = true then (f ρ₁ >>= fun x => (compA T (fun _ => some true) f (L.map entA) ρ₁).map (x :: ·)) else _) = _
    refine bindS (hT _ _) (bindS rfl (iteT (bindS (hf p _ (getV_hit _ _ _)) ?_)))
    rw [comp_ent hT hf L]; rfl
structure PS3 (ρ : Slots) (L : List Ent) (x : Str) (fs : List (Str × AV)) (c : Bool) (m : Nat) (S : List Nat) : Prop where
  table : getV ρ "table" = some (.lst (L.map entA))
  sheet : getV ρ "sheet" = some (.inst 113 fs)
  name : getV ρ "name" = some (.str x)
  part : getV ρ "part" = some (.bool c)
  around : getV ρ "around" = some (.int m)
  starts : getO ρ "starts" = some ⟨none, S.map intA⟩
  top : getV ρ "top" = some (.int L.length)
section
variable {ρ : Slots} {L : List Ent} {x : Str} {fs : List (Str × AV)} {c : Bool} {m : Nat} {S : List Nat}
theorem post_conv (h : PS3 ρ L x fs c m S) (hno : fs.lookup ("_convert_flags" : Str) = none) (hL : L.length ≤ 1000) {tv : List AV} (hgv : GV1 [.inst 113 fs, .lst (L.map (·.1)), .lst (L.map (·.2.1)), .lst (L.map (·.2.2)), .bool c, .int m] = some (.tup tv)) (hd : dat 8 (.tup tv) = true) :
    ∃ ρ₁, (∀ r, fPost_k23 GK1 GV1 ρ₁ = r → fPost GK1 GV1 ρ = r) ∧ LR ρ₁ (.tup tv) (.lst (L.map (·.1))) (.lst (L.map (·.2.1))) (.lst (L.map (·.2.2))) c ∧ getV ρ₁ "name" = some (.str x) ∧ getV ρ₁ "around" = some (.int m) ∧ getO ρ₁ "starts" = some ⟨none, S.map intA⟩ ∧ getV ρ₁ "top" = some (.int L.length) := by
  obtain ⟨g1, g2, g3, g4, g5, g6, g7⟩ := h
  have il : (L.map entA).length ≤ 1000000 := by rw [List.length_map]; (first | lia | omega)
  have c0 := comp_ent (T := fPost_T3 GK1 GV1) (f := fPost_f4 GK1 GV1) (g := (·.1)) (fun _ _ => rfl) (fun p ρ hp => bindS hp (bindS rfl (idx3 p.1 p.2.1 p.2.2).1)) L (only [] ρ)
  have c1 := comp_ent (T := fPost_T1 GK1 GV1) (f := fPost_f2 GK1 GV1) (g := (·.2.1)) (fun _ _ => rfl) (fun p ρ hp => bindS hp (bindS rfl (idx3 p.1 p.2.1 p.2.2).2.1)) L (only [] ρ)
  generalize hρ₁ : (ρ.set "others" (.val (.lst (L.map (·.2.1))))).set "ones" (.val (.lst (L.map (·.1)))) = ρ₁
  have k0 : ∀ r, fPost_k27 GK1 GV1 ρ₁ = r → fPost GK1 GV1 ρ = r := fun r hr => by
    rw [← hρ₁] at hr
    unfold fPost
    refine bindS (a := (.next, (ρ.set "others" (.val (.lst (L.map (·.2.1))))).set "ones" (.val (.lst (L.map (·.1)))))) ?_ (thenS hr)
    refine bindS (a := [SV.val (.lst (L.map (·.1))), SV.val (.lst (L.map (·.2.1)))]) ?_ (ifP ⟨rfl, Nat.le_of_ble_eq_true rfl⟩ rfl)
    refine bindS (a := .lst (L.map (·.1))) (mapS (bindS (bindS g1 rfl) (ifP il c0)) rfl) (bindS (a := [SV.val (.lst (L.map (·.2.1)))]) ?_ rfl)
    exact bindS (a := .lst (L.map (·.2.1))) (mapS (bindS (bindS g1 rfl) (ifP il c1)) rfl) rfl
  have a1 : getV ρ₁ "table" = some (.lst (L.map entA)) := by subst hρ₁; ac_rfl
  have a2 : getV ρ₁ "sheet" = some (.inst 113 fs) := by subst hρ₁; ac_rfl
  have a3 : getV ρ₁ "name" = some (.str x) := by subst hρ₁; ac_rfl
  have a4 : getV ρ₁ "part" = some (.bool c) := by subst hρ₁; ac_rfl
  have a5 : getV ρ₁ "around" = some (.int m) := by subst hρ₁; ac_rfl
  have a6 : getO ρ₁ "starts" = some ⟨none, S.map intA⟩ := by subst hρ₁; ac_rfl
  have a7 : getV ρ₁ "top" = some (.int L.length) := by subst hρ₁; ac_rfl
  have a8 : getV ρ₁ "ones" = some (.lst (L.map (·.1))) := by subst hρ₁; ac_rfl
  have a9 : getV ρ₁ "others" = some (.lst (L.map (·.2.1))) := by subst hρ₁; ac_rfl
  clear hρ₁
  have c2 := comp_ent (T := fPost_T5 GK1 GV1) (f := fPost_f6 GK1 GV1) (g := (·.2.2)) (fun _ _ => rfl) (fun p ρ hp => bindS hp (bindS rfl (idx3 p.1 p.2.1 p.2.2).2.2)) L (only [] ρ₁)
  generalize hρ₂ : (ρ₁.set "flags" (.own ⟨none, L.map (·.2.2)⟩)).set "flags" (.val (.lst (L.map (·.2.2)))) = ρ₂
  have k1 : ∀ r, fPost_z25 GK1 GV1 ρ₂ = r → fPost_k27 GK1 GV1 ρ₁ = r := fun r hr => by
    unfold fPost_k27
    refine bindS (a := (.next, ρ₁.set "flags" (.own ⟨none, L.map (·.2.2)⟩))) (bindS (bindS a1 rfl) (ifP il (bindS c2 rfl))) (thenS ?_)
    unfold fPost_k26
    rw [freeze_own' (getO_hit _ _ _), hρ₂]; exact hr
  have b2 : getV ρ₂ "sheet" = some (.inst 113 fs) := by subst hρ₂; ac_rfl
  have b3 : getV ρ₂ "name" = some (.str x) := by subst hρ₂; ac_rfl
  have b4 : getV ρ₂ "part" = some (.bool c) := by subst hρ₂; ac_rfl
  have b5 : getV ρ₂ "around" = some (.int m) := by subst hρ₂; ac_rfl
  have b6 : getO ρ₂ "starts" = some ⟨none, S.map intA⟩ := by subst hρ₂; ac_rfl
  have b7 : getV ρ₂ "top" = some (.int L.length) := by subst hρ₂; ac_rfl
  have b8 : getV ρ₂ "ones" = some (.lst (L.map (·.1))) := by subst hρ₂; ac_rfl
  have b9 : getV ρ₂ "others" = some (.lst (L.map (·.2.1))) := by subst hρ₂; ac_rfl
  have b10 : getV ρ₂ "flags" = some (.lst (L.map (·.2.2))) := by subst hρ₂; ac_rfl
  clear hρ₂
  have cut : ∀ l : List AV, l.length = L.length → cutA (.lst l) none none = some (.lst l) := fun l hl => by
    rw [cut_lst l none none (by (first | lia | omega)), cutL_all]
  have e1 := cut (L.map (·.1)) (List.length_map ..)
  have e2 := cut (L.map (·.2.1)) (List.length_map ..)
  have e3 := cut (L.map (·.2.2)) (List.length_map ..)
  have mt : methA 113 "_convert_flags" GV1 (.inst 113 fs) [.lst (L.map (·.1)), .lst (L.map (·.2.1)), .lst (L.map (·.2.2)), .bool c, .int m] = some (.tup tv) := by
    unfold methA
    exact (if_pos ⟨rfl, hno⟩).trans hgv
  generalize L.map (·.1) = o1 at *
  generalize L.map (·.2.1) = o2 at *
  generalize L.map (·.2.2) = o3 at *
  generalize hρ₃ : ρ₂.set "told" (.val (.tup tv)) = ρ₃
  have k2 : ∀ r, fPost_k24 GK1 GV1 ρ₃ = r → fPost_z25 GK1 GV1 ρ₂ = r := fun r hr => by
    rw [← hρ₃] at hr
    unfold fPost_z25
    refine bindS (a := (.next, ρ₂.set "told" (.val (.tup tv)))) ?_ (thenS hr)
    ac_rfl
  have d2 : getV ρ₃ "sheet" = some (.inst 113 fs) := by subst hρ₃; ac_rfl
  have d3 : getV ρ₃ "name" = some (.str x) := by subst hρ₃; ac_rfl
  have d4 : getV ρ₃ "part" = some (.bool c) := by subst hρ₃; ac_rfl
  have d5 : getV ρ₃ "around" = some (.int m) := by subst hρ₃; ac_rfl
  have d6 : getO ρ₃ "starts" = some ⟨none, S.map intA⟩ := by subst hρ₃; ac_rfl
  have d7 : getV ρ₃ "top" = some (.int L.length) := by subst hρ₃; ac_rfl
  have d8 : getV ρ₃ "ones" = some (.lst o1) := by subst hρ₃; ac_rfl
  have d9 : getV ρ₃ "others" = some (.lst o2) := by subst hρ₃; ac_rfl
  have d10 : getV ρ₃ "flags" = some (.lst o3) := by subst hρ₃; ac_rfl
  have d11 : getV ρ₃ "told" = some (.tup tv) := by subst hρ₃; ac_rfl
  clear hρ₃
  have ne := ne_tup tv hd
  refine ⟨ρ₃, fun r hr => k0 r (k1 r (k2 r ?_)), ⟨d11, d8, d9, d10, d4⟩, d3, d5, d6, d7⟩
  unfold fPost_k24
  refine bindS (a := (.next, ρ₃)) (bindS (a := false) ?_ (iteF rfl)) (thenS hr)
  ac_rfl
end
end Mine
end
section
set_option linter.unusedVariables false
set_option linter.unusedSimpArgs false
set_option maxHeartbeats 1000000
namespace Mine
section
variable {ρ : Slots} {L : List Ent} {x : Str} {fs : List (Str × AV)} {c : Bool} {m : Nat} {S : List Nat} {told ones others flags : AV}
theorem post_mid (r : LR ρ told ones others flags c) (hn : getV ρ "name" = some (.str x)) (ha : getV ρ "around" = some (.int m)) (hs : getO ρ "starts" = some ⟨none, S.map intA⟩) {N : Nat} (ht : getV ρ "top" = some (.int N)) (hx : x.length ≤ 1000) (hS : S.length ≤ 1000) (hN : N ≤ 1000) :
    ∃ ρ₁, (∀ r, fPost_k20 GK1 GV1 ρ₁ = r → fPost_k23 GK1 GV1 ρ = r) ∧ LR ρ₁ told ones others flags c ∧ getO ρ₁ "anchors" = some ⟨none, (List.range' 0 (max N 1)).map (ancT x S m)⟩ ∧ getO ρ₁ "links" = some ⟨none, (List.range' 0 (max N 1)).map (lnkT x S)⟩ := by
  obtain ⟨r1, r2, r3, r4, r5⟩ := r
  generalize hρ₁ : (ρ.set "links" (.own ⟨none, []⟩)).set "anchors" (.own ⟨none, []⟩) = ρ₁
  have k0 : ∀ r, fPost_k22 GK1 GV1 ρ₁ = r → fPost_k23 GK1 GV1 ρ = r := fun r hr => by
    rw [← hρ₁] at hr
    unfold fPost_k23
    refine bindS (a := (.next, (ρ.set "links" (.own ⟨none, []⟩)).set "anchors" (.own ⟨none, []⟩))) ?_ (thenS hr)
    refine bindS (a := [SV.own ⟨none, []⟩, SV.own ⟨none, []⟩]) ?_ (ifP ⟨rfl, Nat.le_of_ble_eq_true rfl⟩ rfl)
    ac_rfl
  have a1 : getV ρ₁ "told" = some told := by subst hρ₁; ac_rfl
  have a2 : getV ρ₁ "ones" = some ones := by subst hρ₁; ac_rfl
  have a3 : getV ρ₁ "others" = some others := by subst hρ₁; ac_rfl
  have a4 : getV ρ₁ "flags" = some flags := by subst hρ₁; ac_rfl
  have a5 : getV ρ₁ "part" = some (.bool c) := by subst hρ₁; ac_rfl
  have a6 : getV ρ₁ "name" = some (.str x) := by subst hρ₁; ac_rfl
  have a7 : getV ρ₁ "around" = some (.int m) := by subst hρ₁; ac_rfl
  have a8 : getO ρ₁ "starts" = some ⟨none, S.map intA⟩ := by subst hρ₁; ac_rfl
  have a9 : getV ρ₁ "top" = some (.int N) := by subst hρ₁; ac_rfl
  have a10 : getO ρ₁ "anchors" = some ⟨none, []⟩ := by subst hρ₁; ac_rfl
  have a11 : getO ρ₁ "links" = some ⟨none, []⟩ := by subst hρ₁; ac_rfl
  clear hρ₁
  generalize hρ₂ : ρ₁.set "starts" (.val (.lst (S.map intA))) = ρ₂
  have fz : freeze "starts" ρ₁ = ρ₂ := by rw [freeze_own' a8, hρ₂]
  have ls : LS ρ₂ x S m [] [] := by subst hρ₂; exact ⟨by ac_rfl, by ac_rfl, by ac_rfl, by ac_rfl, by ac_rfl⟩
  have lr : LR ρ₂ told ones others flags c := by subst hρ₂; exact ⟨by ac_rfl, by ac_rfl, by ac_rfl, by ac_rfl, by ac_rfl⟩
  have b9 : getV ρ₂ "top" = some (.int N) := by subst hρ₂; ac_rfl
  clear hρ₂
  obtain ⟨ρ', hr, ls', lr'⟩ := k_loop (GV := GV1) hx hS (max N 1) 0 [] [] ρ₂ ls lr (by simp; (first | lia | omega)) (by simp; (first | lia | omega))
  have mx : max3 [.int (N : Int), .int 1] = some (.int ((max N 1 : Nat) : Int)) := by
    show some (AV.int (if (1 : Int) > (N : Int) then 1 else (N : Int))) = _
    by_cases h : (1 : Int) > (N : Int)
    · rw [if_pos h, show ((max N 1 : Nat) : Int) = 1 by (first | lia | omega)]
    · rw [if_neg h, show ((max N 1 : Nat) : Int) = N by (first | lia | omega)]
  have rg := range_nat (max N 1) (by (first | lia | omega))
  refine ⟨ρ', fun r hr' => k0 r ?_, lr', ?_, ?_⟩
  · unfold fPost_k22
    rw [fz]
    unfold fPost_z21
    exact bindS (bindS (bindS (bindS (bindS (bindS b9 (bindS (bindS rfl rfl) rfl)) mx) rfl) rg) hr.forA) (thenS hr')
  · have := ls'.anchors; rwa [List.nil_append] at this
  · have := ls'.links; rwa [List.nil_append] at this
theorem post_end {la ll tv : List AV} {o1 o2 o3 : AV} (hto : getV ρ "told" = some (.tup tv)) (h1 : getV ρ "ones" = some o1) (h2 : getV ρ "others" = some o2) (h3 : (∃ l, getO ρ "flags" = some ⟨none, l⟩ ∧ o3 = .lst l) ∨ (getV ρ "flags" = some o3)) (h4 : getO ρ "links" = some ⟨none, ll⟩) (h5 : getO ρ "anchors" = some ⟨none, la⟩)
    (htv : tv = [o1, o2, o3, .lst ll, .lst la]) (hd : dat 8 (.tup tv) = true) : ∃ ρ', fPost_k19 GK1 GV1 ρ = some (.ret (.bool true), ρ') := by
  have fz : ∃ ρ₁, freeze "flags" ρ = ρ₁ ∧ getV ρ₁ "told" = some (.tup tv) ∧ getV ρ₁ "ones" = some o1 ∧ getV ρ₁ "others" = some o2 ∧ getV ρ₁ "flags" = some o3 ∧ getO ρ₁ "links" = some ⟨none, ll⟩ ∧ getO ρ₁ "anchors" = some ⟨none, la⟩ := by
    rcases h3 with ⟨l, h3, rfl⟩ | h3
    · refine ⟨_, freeze_own' h3, ?_⟩
      exact ⟨by ac_rfl, by ac_rfl, by ac_rfl, by ac_rfl, by ac_rfl, by ac_rfl⟩
    · refine ⟨ρ, ?_, hto, h1, h2, h3, h4, h5⟩
      unfold freeze
      rw [getV_eq h3]
  obtain ⟨ρ₁, e1, b1, b2, b3, b4, b5, b6⟩ := fz
  generalize hρ₂ : ρ₁.set "links" (.val (.lst ll)) = ρ₂
  have e2 : freeze "links" ρ₁ = ρ₂ := by rw [freeze_own' b5, hρ₂]
  have c1 : getV ρ₂ "told" = some (.tup tv) := by subst hρ₂; ac_rfl
  have c2 : getV ρ₂ "ones" = some o1 := by subst hρ₂; ac_rfl
  have c3 : getV ρ₂ "others" = some o2 := by subst hρ₂; ac_rfl
  have c4 : getV ρ₂ "flags" = some o3 := by subst hρ₂; ac_rfl
  have c5 : getV ρ₂ "links" = some (.lst ll) := by subst hρ₂; ac_rfl
  have c6 : getO ρ₂ "anchors" = some ⟨none, la⟩ := by subst hρ₂; ac_rfl
  clear hρ₂
  generalize hρ₃ : ρ₂.set "anchors" (.val (.lst la)) = ρ₃
  have e3 : freeze "anchors" ρ₂ = ρ₃ := by rw [freeze_own' c6, hρ₃]
  have d1 : getV ρ₃ "told" = some (.tup tv) := by subst hρ₃; ac_rfl
  have d2 : getV ρ₃ "ones" = some o1 := by subst hρ₃; ac_rfl
  have d3 : getV ρ₃ "others" = some o2 := by subst hρ₃; ac_rfl
  have d4 : getV ρ₃ "flags" = some o3 := by subst hρ₃; ac_rfl
  have d5 : getV ρ₃ "links" = some (.lst ll) := by subst hρ₃; ac_rfl
  have d6 : getV ρ₃ "anchors" = some (.lst la) := by subst hρ₃; ac_rfl
  clear hρ₃
  have eq := eq_tup tv hd
  refine ⟨ρ₃, ?_⟩
  unfold fPost_k19 fPost_z18 fPost_z17
  rw [e1, e2, e3]
  unfold fPost_z16
  refine bindS (a := (.ret (.bool true), ρ₃)) (bindS (a := .bool true) ?_ rfl) rfl
  refine bindS d1 (bindS (a := .tup tv) ?_ (mapS eq rfl))
  subst htv
  ac_rfl
end
end Mine
end
section
set_option linter.unusedVariables false
set_option linter.unusedSimpArgs false
set_option maxHeartbeats 1000000
namespace Mine
theorem word_eq (c : Bool) (w : Str) (hw : w = (if c = true then ("No Differences Found" : Str) else "Empty File")) : ("<td></td><td>&nbsp;" : Str) ++ w ++ ("&nbsp;</td>" : Str) = wordT c := by
  subst hw
  cases c
  · show ("<td></td><td>&nbsp;" : Str) ++ ("Empty File" : Str) ++ ("&nbsp;</td>" : Str) = emptyT
    decide +kernel
  · show ("<td></td><td>&nbsp;" : Str) ++ ("No Differences Found" : Str) ++ ("&nbsp;</td>" : Str) = noneT
    decide +kernel
theorem post_all {ρ : Slots} {L : List Ent} {x : Str} {fs : List (Str × AV)} {c : Bool} {m : Nat} (h : PS3 ρ L x fs c m (sts (L.map fun p => tr p.2.2) 0 false)) (hp : pinst x fs) (hno : fs.lookup ("_convert_flags" : Str) = none) (hx : x.length ≤ 1000) (hL : L.length ≤ 1000)
    (hF : ∀ p ∈ L, FlagV p.2.2) (hd : ∀ p ∈ L, dat 6 p.1 = true ∧ dat 6 p.2.1 = true) (hSl : (sts (L.map fun p => tr p.2.2) 0 false).length ≤ 1000) : ∃ ρ', fPost GK1 GV1 ρ = some (.ret (.bool true), ρ') := by
  have d1 : dat 7 (.lst (L.map (·.1))) = true := dat_lst fun a ha => by
    obtain ⟨p, hp, rfl⟩ := List.mem_map.mp ha; exact (hd p hp).1
  have d2 : dat 7 (.lst (L.map (·.2.1))) = true := dat_lst fun a ha => by
    obtain ⟨p, hp, rfl⟩ := List.mem_map.mp ha; exact (hd p hp).2
  have d3 : dat 7 (.lst (L.map (·.2.2))) = true := dat_lst fun a ha => by
    obtain ⟨p, hp, rfl⟩ := List.mem_map.mp ha
    rcases hF p hp with e | ⟨b, e⟩ <;> rw [e] <;> rfl
  cases L with
  | nil =>
    have hgv := GV_none (x := x) (m := m) (c := c) (fs := fs) (fl := .lst []) (tl := .lst []) hp hx
    have ds : ∀ s : Str, dat 7 (.lst [.str s]) = true := fun s => rfl
    have hdt : dat 8 (.tup [.lst [.str (wordT c)], .lst [.str (wordT c)], .lst [.bool false], .lst [.str (topT x)], .lst [e0]]) = true := dat_five (ds _) (ds _) rfl (ds _) rfl
    obtain ⟨ρ₁, k1, lr, h1, h2, h3, h4⟩ := post_conv h hno hL hgv hdt
    obtain ⟨ρ₂, k2, lr2, ha, hl⟩ := post_mid (N := 0) (S := []) lr h1 h2 h3 h4 hx (by decide) (by decide)
    obtain ⟨r1, r2, r3, r4, r5⟩ := lr2
    have ha' : getO ρ₂ "anchors" = some ⟨none, [e0]⟩ := ha
    have hl' : getO ρ₂ "links" = some ⟨none, [.str (topT x)]⟩ := hl
    have t1 : truthN ρ₂ "part" = some c := (truthN_val r5).trans rfl
    obtain ⟨w, hw⟩ : ∃ w : Str, w = (if c = true then ("No Differences Found" : Str) else "Empty File") := ⟨_, rfl⟩
    have wl : w.length ≤ 100 := by subst hw; cases c <;> decide +kernel
    have n1 : (Str.ofString "<td></td><td>&nbsp;").length = 19 := by decide +kernel
    have n2 : (Str.ofString "&nbsp;</td>").length = 11 := by decide +kernel
    have p1 := add_str "<td></td><td>&nbsp;" w (by rw [n1]; (first | lia | omega))
    have p2 := add_str (("<td></td><td>&nbsp;" : Str) ++ w) "&nbsp;</td>" (by rw [slen, n1, n2]; (first | lia | omega))
    rw [word_eq c w hw] at p2
    have q1 : cmpA .Eq (.lst ((([] : List Ent).map (·.2.2)))) (.lst []) = some true := by
      show eqL [] (.lst []) = _
      unfold eqL
      rw [show AV.lst? (.lst []) = some [] from rfl, bind_some']
      exact if_pos ⟨rfl, rfl⟩
    generalize hρ₃ : ((ρ₂.set "words" (.val (.str w))).set "ones" (.val (.lst [.str (wordT c)]))).set "others" (.val (.lst [.str (wordT c)])) = ρ₃
    have k3 : ∀ r, fPost_k19 GK1 GV1 (ρ₃.set "flags" (.own ⟨none, [.bool false]⟩)) = r → fPost_k20 GK1 GV1 ρ₂ = r := fun r hr => by
      unfold fPost_k20
      refine bindS (a := (.next, ρ₃.set "flags" (.own ⟨none, [.bool false]⟩))) (bindS (a := true) (bindS r4 (bindS (a := .lst []) (by ac_rfl) q1)) (iteT (bindS (a := (.next, ρ₂.set "words" (.val (.str w)))) ?_ (thenS ?_)))) (thenS hr)
      · refine bindS (a := .str w) (bindS t1 ?_) rfl
        subst hw; cases c <;> rfl
      · unfold fPost_k15
        refine bindS (a := (.next, ρ₃)) ?_ (thenS ?_)
        · subst hρ₃
          refine bindS (a := .lst [.str (wordT c)]) ?_ rfl
          have gw : getV (ρ₂.set "words" (.val (.str w))) "words" = some (.str w) := getV_hit _ _ _
          refine bindS (a := [.str (wordT c)]) ?_ (ifP (Nat.le_of_ble_eq_true rfl) rfl)
          exact bindS (bindS (bindS rfl (bindS gw p1)) (bindS rfl p2)) rfl
        · unfold fPost_k14
          refine bindS (a := (.next, ρ₃.set "flags" (.own ⟨none, [.bool false]⟩))) ?_ (thenS rfl)
          ac_rfl
    obtain ⟨ρ', e⟩ := post_end (ρ := ρ₃.set "flags" (.own ⟨none, [.bool false]⟩)) (la := [e0]) (ll := [.str (topT x)]) (tv := [.lst [.str (wordT c)], .lst [.str (wordT c)], .lst [.bool false], .lst [.str (topT x)], .lst [e0]]) (o1 := .lst [.str (wordT c)]) (o2 := .lst [.str (wordT c)]) (o3 := .lst [.bool false]) (by subst hρ₃; ac_rfl) (by subst hρ₃; ac_rfl) (by subst hρ₃; ac_rfl) (.inl ⟨_, getO_hit _ _ _, rfl⟩) (by subst hρ₃; ac_rfl) (by subst hρ₃; ac_rfl) rfl hdt
    exact ⟨ρ', k1 _ (k2 _ (k3 _ e))⟩
  | cons p L =>
    have hgv := GV_some (x := x) (m := m) (c := c) (fs := fs) (fl := .lst ((p :: L).map (·.1))) (tl := .lst ((p :: L).map (·.2.1))) (flags := (p :: L).map (·.2.2)) (f0 := p.2.2) (fr := L.map (·.2.2)) hp hx rfl (fun a ha => by
      obtain ⟨q, hq, rfl⟩ := List.mem_map.mp ha; exact hF q hq) (by rw [List.length_map]; exact hL)
    rw [List.map_map, List.length_map] at hgv
    have eS : List.map (tr ∘ fun q : Ent => q.2.2) (p :: L) = (p :: L).map fun q => tr q.2.2 := rfl
    rw [eS] at hgv
    have eI := ids_eq x m (p :: L).length (sts ((p :: L).map fun q => tr q.2.2) 0 false)
    have eH := hrefs_eq x (tr p.2.2) (L.map fun q => tr q.2.2)
    rw [List.length_map] at eH
    have eH' : (List.range' 0 (p :: L).length).map (lnkT x (sts ((p :: L).map fun q => tr q.2.2) 0 false)) = hrefsOf x (tr p.2.2) (p :: L).length (sts ((p :: L).map fun q => tr q.2.2) 0 false) := eH
    have hdt := dat_five d1 d2 d3 ((hrefs_str x (tr p.2.2) (p :: L).length (sts ((p :: L).map fun q => tr q.2.2) 0 false)).dat 6) ((ids_str x m (p :: L).length (sts ((p :: L).map fun q => tr q.2.2) 0 false)).dat 6)
    obtain ⟨ρ₁, k1, lr, h1, h2, h3, h4⟩ := post_conv h hno hL hgv hdt
    obtain ⟨ρ₂, k2, lr2, ha, hl⟩ := post_mid (N := (p :: L).length) lr h1 h2 h3 h4 hx hSl hL
    rw [show max (p :: L).length 1 = (p :: L).length by rw [List.length_cons]; (first | lia | omega)] at ha hl
    rw [eI] at ha
    rw [eH'] at hl
    obtain ⟨r1, r2, r3, r4, r5⟩ := lr2
    have q1 : cmpA .Eq (.lst ((p :: L).map (·.2.2))) (.lst []) = some false := by
      show eqL ((p :: L).map (·.2.2)) (.lst []) = _
      unfold eqL
      rw [show AV.lst? (.lst []) = some [] from rfl, bind_some', if_neg (fun h => by cases h.1), if_pos (by simp)]
    obtain ⟨ρ', e⟩ := post_end r1 r2 r3 (.inr r4) hl ha rfl hdt
    refine ⟨ρ', k1 _ (k2 _ ?_)⟩
    unfold fPost_k20
    exact bindS (bindS (bindS r4 (bindS (a := .lst []) (by ac_rfl) q1)) (iteF rfl)) (thenS e)
end Mine
end
section
set_option linter.unusedVariables false
set_option linter.unusedSimpArgs false
set_option maxHeartbeats 1000000
namespace Mine
theorem dat_base (n : Nat) (a : AV) (h : baseA a = true) : dat n a = true := by
  cases n with
  | zero => exact h
  | succ n => cases a <;> first | rfl | cases h
theorem splitT_base : ∀ (n col : Nat) (hd : AV) (t : List Nat) (r : List Row), splitT n col hd t = some r → baseA hd = true → ∀ x ∈ r, baseA x.1 = true
  | 0, _, _, _, _, h, _ => by cases h
  | n + 1, col, hd, t, r, h, hb => by
    unfold splitT at h
    obtain ⟨b, hb', h⟩ := bindO h
    obtain ⟨h1, h⟩ := iteO h
    split at h
    · cases h; intro x hx; cases List.mem_singleton.mp hx; exact hb
    · split at h
      · cases h; intro x hx; cases List.mem_singleton.mp hx; exact hb
      · obtain ⟨q, hq, h⟩ := bindO h
        obtain ⟨rr, hr, rfl⟩ := Option.map_eq_some_iff.mp h
        intro x hx
        rcases List.mem_cons.mp hx with rfl | hx
        · exact hb
        · exact splitT_base n col gt _ rr hr rfl x hx
theorem rowA_dat {x : Row} (h : baseA x.1 = true) : dat 6 (rowA x) = true := by
  show List.all [x.1, .str (tx x.2)] (dat 5) = true
  rw [List.all_cons, dat_base 5 _ h]; rfl
theorem rows_len : ∀ (ls : List Nat) (hd : AV) (prev : Option Nat) (C : List Cell), (rows hd prev C ls).length = ls.length
  | [], _, _, _ => rfl
  | n :: ls, hd, prev, C => by show (rows gt _ _ ls).length + 1 = _; rw [rows_len ls]; rfl
noncomputable def pc (col n : Nat) : Nat := max ((n + col - 1) / col) 1
theorem chunk_pc (col : Nat) (hc : 1 ≤ col) : ∀ (f L : Nat), L ≤ f → (chunkF f col L).length = pc col L
  | 0, L, h => by
    obtain rfl : L = 0 := by (first | lia | omega)
    show 1 = max ((0 + col - 1) / col) 1
    rw [Nat.div_eq_of_lt (by (first | lia | omega))]; rfl
  | f + 1, L, h => by
    unfold chunkF
    by_cases hl : L ≤ col
    · rw [if_pos hl]
      have : (L + col - 1) / col ≤ 1 := by
        rw [← Nat.lt_succ_iff, Nat.div_lt_iff_lt_mul (by (first | lia | omega))]; (first | lia | omega)
      show 1 = max _ 1
      (first | lia | omega)
    · rw [if_neg hl, List.length_cons, chunk_pc col hc f (L - col) (by (first | lia | omega))]
      unfold pc
      have e : (L + col - 1) / col = (L - col + col - 1) / col + 1 := by
        rw [show L + col - 1 = (L - col + col - 1) + col by (first | lia | omega), Nat.add_div_right _ (by (first | lia | omega))]
      have h1 : 1 ≤ (L - col + col - 1) / col := by
        rw [Nat.le_div_iff_mul_le (by (first | lia | omega))]; (first | lia | omega)
      (first | lia | omega)
noncomputable def plainC (c n : Nat) : List Cell := List.replicate n ⟨c, none, false⟩
theorem plain_enc (c : Nat) : ∀ n, encO none (plainC c n) = List.replicate n c ∧ lastM none (plainC c n) = none
  | 0 => ⟨rfl, rfl⟩
  | n + 1 => by
    obtain ⟨h1, h2⟩ := plain_enc c n
    have e : plainC c (n + 1) = ⟨c, none, false⟩ :: plainC c n := rfl
    rw [e]
    refine ⟨?_, h2⟩
    show stepE none ⟨c, none, false⟩ ++ encO none (plainC c n) = _
    rw [h1, step_none]; rfl
theorem plain_piece (c n : Nat) : pieceT none (plainC c n) = List.replicate n c := by
  unfold pieceT enc
  rw [(plain_enc c n).1, (plain_enc c n).2]
  have : lead none (plainC c n) = [] := by cases n <;> rfl
  rw [this]; simp [close]
theorem split_plain (c n col : Nat) (hc : 2 ≤ c) (h1 : 1 ≤ col) (hn : n ≤ 50) : ∃ r : List Row, splitT 100 col (.int 1) (List.replicate n c) = some r ∧ r.length = pc col n ∧ ∀ x ∈ r, dat 6 (rowA x) = true := by
  have h := splitT_rows col h1 99 (plainC c n) none (.int 1) rfl (fun k h => by cases h) (fun a ha => by
    rw [(List.mem_replicate.mp ha).2]; exact ⟨hc, fun m h => by cases h⟩) (by unfold plainC; simp; (first | lia | omega)) (by unfold plainC; simp; (first | lia | omega))
  rw [plain_piece] at h
  refine ⟨_, h, ?_, fun x hx => rowA_dat (splitT_base _ _ _ _ _ h rfl x hx)⟩
  rw [rows_len, chunk_pc col h1 99 _ (by unfold plainC; simp; (first | lia | omega))]
  unfold plainC; simp
theorem pc_pos (col n : Nat) : 1 ≤ pc col n := by unfold pc; (first | lia | omega)
theorem pc_le (col n : Nat) (hn : n ≤ 12) : pc col n ≤ 12 := by
  unfold pc
  rcases Nat.eq_zero_or_pos col with rfl | h
  · simp
  · have : (n + col - 1) / col ≤ n := by
      rcases Nat.eq_zero_or_pos n with rfl | h2
      · rw [Nat.div_eq_of_lt (by (first | lia | omega))]
        exact Nat.le_refl _
      · rw [← Nat.lt_succ_iff, Nat.div_lt_iff_lt_mul h]
        have : n + col ≤ n * col + 1 := by
          obtain ⟨a, rfl⟩ : ∃ a, n = a + 1 := ⟨n - 1, by (first | lia | omega)⟩
          obtain ⟨b, rfl⟩ : ∃ b, col = b + 1 := ⟨col - 1, by (first | lia | omega)⟩
          have : (a + 1) * (b + 1) = a * b + a + b + 1 := by rw [Nat.add_mul, Nat.mul_add]; (first | lia | omega)
          (first | lia | omega)
        have e : (n + 1) * col = n * col + col := by rw [Nat.add_mul]; (first | lia | omega)
        show n + col - 1 < (n + 1) * col
        (first | lia | omega)
    (first | lia | omega)
noncomputable def padTE : List AV → AV → List Ent
  | [], _ => []
  | b :: m, f => (blank2, b, f) :: padTE m f
noncomputable def padE : List AV → List AV → AV → List Ent
  | [], m, f => padTE m f
  | a :: l, [], f => (a, blank2, f) :: padE l [] f
  | a :: l, b :: m, f => (a, b, f) :: padE l m f
theorem padTo_ent (f : AV) : ∀ m : List AV, padTo m f = (padTE m f).map entA
  | [] => rfl
  | b :: m => by show AV.tup [blank2, b, f] :: padTo m f = _; rw [padTo_ent f m]; rfl
theorem padZip_ent (f : AV) : ∀ l m : List AV, padZip l m f = (padE l m f).map entA
  | [], m => padTo_ent f m
  | a :: l, [] => by show AV.tup [a, blank2, f] :: padZip l [] f = _; rw [padZip_ent f l []]; rfl
  | a :: l, b :: m => by show AV.tup [a, b, f] :: padZip l m f = _; rw [padZip_ent f l m]; rfl
theorem padTE_ok (f : AV) : ∀ m : List AV, (∀ b ∈ m, dat 6 b = true) → (padTE m f).length = m.length ∧ ∀ p ∈ padTE m f, p.2.2 = f ∧ dat 6 p.1 = true ∧ dat 6 p.2.1 = true
  | [], _ => ⟨rfl, fun p hp => by cases hp⟩
  | b :: m, hm => by
    obtain ⟨h1, h2⟩ := padTE_ok f m fun x hx => hm x (List.mem_cons_of_mem _ hx)
    refine ⟨by show (padTE m f).length + 1 = _; rw [h1]; simp, fun p hp => ?_⟩
    rcases List.mem_cons.mp hp with rfl | hp
    · exact ⟨rfl, rfl, hm b List.mem_cons_self⟩
    · exact h2 p hp
theorem padE_ok (f : AV) : ∀ l m : List AV, (∀ a ∈ l, dat 6 a = true) → (∀ b ∈ m, dat 6 b = true) → (padE l m f).length = max l.length m.length ∧ ∀ p ∈ padE l m f, p.2.2 = f ∧ dat 6 p.1 = true ∧ dat 6 p.2.1 = true
  | [], m, _, hm => by
    obtain ⟨h1, h2⟩ := padTE_ok f m hm
    exact ⟨by show (padTE m f).length = _; rw [h1]; simp, h2⟩
  | a :: l, [], hl, hm => by
    obtain ⟨h1, h2⟩ := padE_ok f l [] (fun x hx => hl x (List.mem_cons_of_mem _ hx)) hm
    refine ⟨by show (padE l [] f).length + 1 = _; rw [h1]; simp, fun p hp => ?_⟩
    rcases List.mem_cons.mp hp with rfl | hp
    · exact ⟨rfl, hl a List.mem_cons_self, rfl⟩
    · exact h2 p hp
  | a :: l, b :: m, hl, hm => by
    obtain ⟨h1, h2⟩ := padE_ok f l m (fun x hx => hl x (List.mem_cons_of_mem _ hx)) fun x hx => hm x (List.mem_cons_of_mem _ hx)
    refine ⟨by show (padE l m f).length + 1 = _; rw [h1]; simp, fun p hp => ?_⟩
    rcases List.mem_cons.mp hp with rfl | hp
    · exact ⟨rfl, hl a List.mem_cons_self, hm b List.mem_cons_self⟩
    · exact h2 p hp
noncomputable def rowV (l r : Nat) (v : AV) : AV := .tup [rowA (.int 1, List.replicate l 97), rowA (.int 1, List.replicate r 98), v]
noncomputable def nrow (col l r : Nat) : AV → Nat
  | .none => 1
  | _ => max (max ((l + col - 1) / col) ((r + col - 1) / col)) 1
theorem row_ents {col l r : Nat} {v : AV} (hv : FlagV v) (h1 : 1 ≤ col) (hl : l ≤ 12) (hr : r ≤ 12) : okR2 100 col (rowV l r v) ∧ ∃ E : List Ent, rowI2 100 col (rowV l r v) = E.map entA ∧ E.length = nrow col l r v ∧ (∀ p ∈ E, p.2.2 = v ∧ dat 6 p.1 = true ∧ dat 6 p.2.1 = true) ∧ 1 ≤ E.length ∧ E.length ≤ 12 := by
  rcases hv with rfl | ⟨b, rfl⟩
  · refine ⟨.inl ⟨_, _, rfl⟩, [(rowA (.int 1, List.replicate l 97), rowA (.int 1, List.replicate r 98), .none)], rfl, rfl, fun p hp => ?_, by simp, by simp⟩
    cases List.mem_singleton.mp hp
    exact ⟨rfl, rowA_dat rfl, rowA_dat rfl⟩
  · obtain ⟨r1, e1, n1, d1⟩ := split_plain 97 l col (by (first | lia | omega)) h1 (by (first | lia | omega))
    obtain ⟨r2, e2, n2, d2⟩ := split_plain 98 r col (by (first | lia | omega)) h1 (by (first | lia | omega))
    have q1 := pc_pos col l
    have q2 := pc_pos col r
    have q3 := pc_le col l hl
    have q4 := pc_le col r hr
    obtain ⟨k1, k2⟩ := padE_ok (.bool b) (r1.map rowA) (r2.map rowA) (fun a ha => by obtain ⟨y, hy, rfl⟩ := List.mem_map.mp ha; exact d1 y hy) (fun a ha => by obtain ⟨y, hy, rfl⟩ := List.mem_map.mp ha; exact d2 y hy)
    rw [List.length_map, List.length_map, n1, n2] at k1
    have hne : r1 ≠ [] := fun e => by rw [e] at n1; simp at n1; (first | lia | omega)
    refine ⟨.inr ⟨_, _, _, _, b, r1, r2, rfl, e1, e2, hne, by (first | lia | omega), by (first | lia | omega)⟩, padE (r1.map rowA) (r2.map rowA) (.bool b), ?_, ?_, k2, by (first | lia | omega), by (first | lia | omega)⟩
    · rw [← padZip_ent]; exact rowI2_some e1 e2
    · rw [k1]
      show max (pc col l) (pc col r) = max (max ((l + col - 1) / col) ((r + col - 1) / col)) 1
      unfold pc; (first | lia | omega)
end Mine
end
section
set_option linter.unusedVariables false
set_option linter.unusedSimpArgs false
set_option maxHeartbeats 1000000
namespace Mine
theorem flag_at (j : Int) : ∃ v, idxA (.lst [.bool true, .bool false, .none]) (.int (j.fmod 3)) = some v ∧ FlagV v := by
  obtain ⟨r, hr, hr'⟩ := fmod_nat j 3 (by (first | lia | omega))
  have hr : j.fmod 3 = r := hr
  rw [hr]
  have e : ∀ k : Nat, k < 3 → idxA (.lst [.bool true, .bool false, .none]) (.int k) = some ([AV.bool true, .bool false, .none].getD k .none) := by
    intro k hk
    refine idx_at _ k ?_ (by (first | lia | omega))
    rcases k with _ | _ | _ | k <;> first | rfl | (first | lia | omega)
  refine ⟨_, e r hr', ?_⟩
  rcases r with _ | _ | _ | r
  · exact .inr ⟨true, rfl⟩
  · exact .inr ⟨false, rfl⟩
  · exact .inl rfl
  · (first | lia | omega)
theorem rep_tx (c n : Nat) : repStr (tx [c]) (n : Int) = tx (List.replicate n c) := by
  unfold repStr
  rw [tx_list, Int.toNat_natCast]
  show tx (List.replicate n [c]).flatten = _
  congr 1
  induction n with
  | zero => rfl
  | succ n ih => rw [List.replicate_succ, List.flatten_cons, ih, List.replicate_succ]; rfl
theorem mul_a (n : Nat) (h : n ≤ 12) : binA .Mult (.str "a") (.int n) = some (.str (tx (List.replicate n 97))) := by
  have e : (Str.ofString "a") = tx [97] := by decide +kernel
  rw [e, mul_str' _ _ ⟨by (first | lia | omega), by (first | lia | omega), by rw [tx_length]; simp; (first | lia | omega)⟩, rep_tx]
theorem mul_b (n : Nat) (h : n ≤ 12) : binA .Mult (.str "b") (.int n) = some (.str (tx (List.replicate n 98))) := by
  have e : (Str.ofString "b") = tx [98] := by decide +kernel
  rw [e, mul_str' _ _ ⟨by (first | lia | omega), by (first | lia | omega), by rw [tx_length]; simp; (first | lia | omega)⟩, rep_tx]
theorem ceil_neg (l col : Nat) (h : 1 ≤ col) : -((-(l : Int)).fdiv col) = (((l + col - 1) / col : Nat) : Int) := by
  have hc : (0 : Int) < col := by (first | lia | omega)
  have h1 : ((-(l : Int)).fdiv col) = -(((l + col - 1) / col : Nat) : Int) := by
    rw [Int.fdiv_eq_ediv_of_nonneg _ (by (first | lia | omega))]
    have e1 : ((l + col - 1) / col) * col ≤ l + col - 1 := Nat.div_mul_le_self _ _
    have e2 : l + col - 1 < ((l + col - 1) / col + 1) * col := Nat.lt_mul_of_div_lt (Nat.lt_succ_self _) (by (first | lia | omega))
    generalize (l + col - 1) / col = q at *
    have e3 : (q + 1) * col = q * col + col := by rw [Nat.add_mul, Nat.one_mul]
    have f1 : ((q * col : Nat) : Int) = (q : Int) * col := by push_cast; rfl
    refine ((Int.ediv_emod_unique (r := (q : Int) * col - l) hc).mpr ⟨?_, ?_, ?_⟩).1
    · rw [Int.mul_neg, Int.mul_comm (col : Int) q]; (first | lia | omega)
    · (first | lia | omega)
    · (first | lia | omega)
  rw [h1, Int.neg_neg]
structure PI (ρ : Slots) (ns : List AV) (x : Str) (c : Bool) (m col : Nat) (R : List AV) (E : List Ent) : Prop where
  script : getV ρ "script" = some (.lst ns)
  rows : getO ρ "rows" = some ⟨none, R⟩
  starts : getO ρ "starts" = some ⟨none, (sts (E.map fun p => tr p.2.2) 0 false).map intA⟩
  top : getV ρ "top" = some (.int E.length)
  before : ∃ b, getV ρ "before" = some b ∧ FlagV b ∧ tr b = endB false (E.map fun p => tr p.2.2)
  column : getV ρ "column" = some (.int col)
  name : getV ρ "name" = some (.str x)
  part : getV ρ "part" = some (.bool c)
  around : getV ρ "around" = some (.int m)
  ents : R.flatMap (rowI2 100 col) = E.map entA
  good : ∀ r ∈ R, okR2 100 col r
  flags : ∀ p ∈ E, FlagV p.2.2
  dats : ∀ p ∈ E, dat 6 p.1 = true ∧ dat 6 p.2.1 = true
  few : E.length ≤ 12 * R.length
theorem nrow_top {ρ : Slots} {col l r n : Nat} {v : AV} (hv : FlagV v) (h1 : 1 ≤ col) (hc : col ≤ 5) (hl : l ≤ 12) (hr : r ≤ 12) (g1 : getV ρ "top" = some (.int n)) (g2 : getV ρ "flag" = some v) (g3 : getV ρ "left" = some (.int l)) (g4 : getV ρ "right" = some (.int r)) (g5 : getV ρ "column" = some (.int col)) :
    fPre_k1 ρ = some (.next, ρ.set "top" (.val (.int (n + nrow col l r v : Nat)))) := by
  have sum : ∀ k : Nat, binA .Add (.int (n : Int)) (.int (k : Int)) = some (.int ((n + k : Nat) : Int)) := fun k => rfl
  unfold fPre_k1
  refine bindS (bindS (bindS g1 (bindS (a := .int (nrow col l r v : Nat)) ?_ (sum _))) rfl) (thenS rfl)
  rcases hv with rfl | ⟨b, rfl⟩
  · have is : cmpA .Is .none .none = some true := rfl
    exact bindS (bindS g2 (bindS rfl is)) (iteT rfl)
  · have is : cmpA .Is (.bool b) .none = some false := rfl
    refine bindS (bindS g2 (bindS rfl is)) (iteF ?_)
    have n1 : negA (.int (l : Int)) = some (.int (-(l : Int))) := rfl
    have n2 : negA (.int (r : Int)) = some (.int (-(r : Int))) := rfl
    have d1 := fdv (-(l : Int)) col ⟨by (first | lia | omega), by (first | lia | omega)⟩
    have d2 := fdv (-(r : Int)) col ⟨by (first | lia | omega), by (first | lia | omega)⟩
    have n3 : negA (.int ((-(l : Int)).fdiv col)) = some (.int (((l + col - 1) / col : Nat) : Int)) := by rw [← ceil_neg l col h1]; rfl
    have n4 : negA (.int ((-(r : Int)).fdiv col)) = some (.int (((r + col - 1) / col : Nat) : Int)) := by rw [← ceil_neg r col h1]; rfl
    have mx : max3 [.int (((l + col - 1) / col : Nat) : Int), .int (((r + col - 1) / col : Nat) : Int), .int 1] = some (.int ((nrow col l r (.bool b) : Nat) : Int)) := by
      show some (AV.int (max (max (((l + col - 1) / col : Nat) : Int) (((r + col - 1) / col : Nat) : Int)) 1)) = some (AV.int ((max (max ((l + col - 1) / col) ((r + col - 1) / col)) 1 : Nat) : Int))
      congr 2; (first | lia | omega)
    generalize (l + col - 1) / col = q1 at *
    generalize (r + col - 1) / col = q2 at *
    generalize (-(l : Int)).fdiv col = z1 at *
    generalize (-(r : Int)).fdiv col = z2 at *
    ac_rfl
end Mine
end
section
set_option linter.unusedVariables false
set_option linter.unusedSimpArgs false
set_option maxHeartbeats 1000000
namespace Mine
theorem pre_turn {ρ : Slots} {ns : List AV} {x : Str} {c : Bool} {m col : Nat} {R : List AV} {E : List Ent} (h : PI ρ ns x c m col R E) (h1 : 1 ≤ col) (hc : col ≤ 5) (hR : R.length ≤ 100) (n : Int) :
    ∃ ρ' R' E', (fPre_T5 (.int n) ρ >>= fPre_B6) = some (.next, ρ') ∧ PI ρ' ns x c m col R' E' ∧ R'.length = R.length + 1 := by
  obtain ⟨g0, g1, g2, g3, ⟨bf, g4, hbf, hbe⟩, g5, g6, g7, g8, hent, hgood, hfl, hdat, hfew⟩ := h
  obtain ⟨v, ev, hv⟩ := flag_at n
  obtain ⟨l, hl, hl'⟩ := fmod_nat (n.fdiv 3) 12 (by (first | lia | omega))
  obtain ⟨r, hr, hr'⟩ := fmod_nat (n.fdiv 36) 12 (by (first | lia | omega))
  have o1 := fmd n 3 (by decide)
  have o2 := fdv n 3 ⟨by decide, by decide⟩
  have o3 : binA .Mod (.int (n.fdiv 3)) (.int 12) = some (.int (l : Int)) := by rw [← hl]; exact fmd (n.fdiv 3) 12 (by decide)
  have o4 := fdv n 36 ⟨by decide, by decide⟩
  have o5 : binA .Mod (.int (n.fdiv 36)) (.int 12) = some (.int (r : Int)) := by rw [← hr]; exact fmd (n.fdiv 36) 12 (by decide)
  obtain ⟨hok, E₁, eE, nE, pE, posE, leE⟩ := row_ents (col := col) (l := l) (r := r) hv h1 (by (first | lia | omega)) (by (first | lia | omega))
  generalize hρ₁ : (((ρ.set "x" (.val (.int n))).set "right" (.val (.int r))).set "left" (.val (.int l))).set "flag" (.val v) = ρ₁
  have k0 : ∀ q, fPre_k4 ρ₁ = q → (fPre_T5 (.int n) ρ >>= fPre_B6) = q := fun q hq => by
    rw [← hρ₁] at hq
    refine bindS (a := ρ.set "x" (.val (.int n))) rfl ?_
    unfold fPre_B6
    have gx : getV (ρ.set "x" (.val (.int n))) "x" = some (.int n) := getV_hit _ _ _
    generalize ρ.set "x" (.val (.int n)) = ρx at *
    refine bindS (a := (.next, ((ρx.set "right" (.val (.int r))).set "left" (.val (.int l))).set "flag" (.val v))) ?_ (thenS hq)
    refine bindS (a := [SV.val v, SV.val (.int l), SV.val (.int r)]) ?_ (ifP ⟨rfl, Nat.le_of_ble_eq_true rfl⟩ rfl)
    generalize n.fmod 3 = z1 at *
    generalize n.fdiv 3 = z2 at *
    generalize n.fdiv 36 = z3 at *
    ac_rfl
  have a0 : getV ρ₁ "script" = some (.lst ns) := by subst hρ₁; ac_rfl
  have a1 : getO ρ₁ "rows" = some ⟨none, R⟩ := by subst hρ₁; ac_rfl
  have a2 : getO ρ₁ "starts" = some ⟨none, (sts (E.map fun p => tr p.2.2) 0 false).map intA⟩ := by subst hρ₁; ac_rfl
  have a3 : getV ρ₁ "top" = some (.int E.length) := by subst hρ₁; ac_rfl
  have a4 : getV ρ₁ "before" = some bf := by subst hρ₁; ac_rfl
  have a5 : getV ρ₁ "column" = some (.int col) := by subst hρ₁; ac_rfl
  have a6 : getV ρ₁ "name" = some (.str x) := by subst hρ₁; ac_rfl
  have a7 : getV ρ₁ "part" = some (.bool c) := by subst hρ₁; ac_rfl
  have a8 : getV ρ₁ "around" = some (.int m) := by subst hρ₁; ac_rfl
  have a9 : getV ρ₁ "flag" = some v := by subst hρ₁; ac_rfl
  have a10 : getV ρ₁ "left" = some (.int l) := by subst hρ₁; ac_rfl
  have a11 : getV ρ₁ "right" = some (.int r) := by subst hρ₁; ac_rfl
  clear hρ₁
  have m1 := mul_a l (by (first | lia | omega))
  have m2 := mul_b r (by (first | lia | omega))
  have hzR : R.length ≤ 1000000 := by (first | lia | omega)
  generalize hρ₂ : ρ₁.set "rows" (.own ⟨none, R ++ [rowV l r v]⟩) = ρ₂
  have k1 : ∀ q, fPre_k3 ρ₂ = q → fPre_k4 ρ₁ = q := fun q hq => by
    rw [← hρ₂] at hq
    unfold fPre_k4
    refine bindS (a := (.next, ρ₁.set "rows" (.own ⟨none, R ++ [rowV l r v]⟩))) ?_ (thenS hq)
    refine bindS a1 (bindS (a := rowV l r v) ?_ (ifP hzR rfl))
    unfold rowV rowA
    ac_rfl
  have b0 : getV ρ₂ "script" = some (.lst ns) := by subst hρ₂; ac_rfl
  have b1 : getO ρ₂ "rows" = some ⟨none, R ++ [rowV l r v]⟩ := by subst hρ₂; ac_rfl
  have b2 : getO ρ₂ "starts" = some ⟨none, (sts (E.map fun p => tr p.2.2) 0 false).map intA⟩ := by subst hρ₂; ac_rfl
  have b3 : getV ρ₂ "top" = some (.int E.length) := by subst hρ₂; ac_rfl
  have b4 : getV ρ₂ "before" = some bf := by subst hρ₂; ac_rfl
  have b5 : getV ρ₂ "column" = some (.int col) := by subst hρ₂; ac_rfl
  have b6 : getV ρ₂ "name" = some (.str x) := by subst hρ₂; ac_rfl
  have b7 : getV ρ₂ "part" = some (.bool c) := by subst hρ₂; ac_rfl
  have b8 : getV ρ₂ "around" = some (.int m) := by subst hρ₂; ac_rfl
  have b9 : getV ρ₂ "flag" = some v := by subst hρ₂; ac_rfl
  have b10 : getV ρ₂ "left" = some (.int l) := by subst hρ₂; ac_rfl
  have b11 : getV ρ₂ "right" = some (.int r) := by subst hρ₂; ac_rfl
  clear hρ₂
  -- the flags of the new rows
  have eF : E₁.map (fun p => tr p.2.2) = List.replicate (E₁.length - 1 + 1) (tr v) := by
    rw [show E₁.length - 1 + 1 = E₁.length by (first | lia | omega)]
    refine List.eq_replicate_iff.mpr ⟨List.length_map .., fun b hb => ?_⟩
    obtain ⟨p, hp, rfl⟩ := List.mem_map.mp hb
    rw [(pE p hp).1]
  have eS : sts ((E ++ E₁).map fun p => tr p.2.2) 0 false = sts (E.map fun p => tr p.2.2) 0 false ++ (if (tr v && !tr bf) = true then [E.length] else []) := by
    rw [List.map_append, sts_append, eF, sts_rep, List.length_map, Nat.zero_add, hbe]
  have eB : endB false ((E ++ E₁).map fun p => tr p.2.2) = tr v := by
    rw [List.map_append, endB_append, eF, endB_rep]
  have tv : truthN ρ₂ "flag" = some (tr v) := (truthN_val b9).trans (truth_flag hv)
  have tb : truthN ρ₂ "before" = some (tr bf) := (truthN_val b4).trans (truth_flag hbf)
  have hzS : ((sts (E.map fun p => tr p.2.2) 0 false).map intA).length ≤ 1000000 := by
    rw [List.length_map]
    have : ∀ (F : List Bool) (i : Nat) (c : Bool), (sts F i c).length ≤ F.length := by
      intro F
      induction F with
      | nil => intro i c; exact Nat.le_refl _
      | cons b F ih =>
        intro i c
        have := ih (i + 1) b
        show ((if (b && !c) = true then [i] else []) ++ sts F (i + 1) b).length ≤ F.length + 1
        rw [List.length_append]
        split <;> simp <;> (first | lia | omega)
    have := this (E.map fun p => tr p.2.2) 0 false
    rw [List.length_map] at this
    (first | lia | omega)
  obtain ⟨ρ₃, k2, c2, ck⟩ : ∃ ρ₃, (∀ q, fPre_k2 ρ₃ = q → fPre_k3 ρ₂ = q) ∧ getO ρ₃ "starts" = some ⟨none, (sts ((E ++ E₁).map fun p => tr p.2.2) 0 false).map intA⟩ ∧ (ρ₃ = ρ₂ ∨ ∃ o, ρ₃ = ρ₂.set "starts" o) := by
    by_cases hcase : (tr v && !tr bf) = true
    · obtain ⟨h2, h3⟩ := Bool.and_eq_true_iff.mp hcase
      have h3 : tr bf = false := by simpa using h3
      refine ⟨ρ₂.set "starts" (.own ⟨none, (sts (E.map fun p => tr p.2.2) 0 false).map intA ++ [.int E.length]⟩), fun q hq => ?_, ?_, .inr ⟨_, rfl⟩⟩
      · unfold fPre_k3
        rw [h2] at tv
        rw [h3] at tb
        refine bindS (bindS (a := true) (bindS tv (iteT (bindS (mapS tb rfl) (iteT rfl)))) (iteT (bindS (bindS b2 (bindS b3 (ifP hzS rfl))) (thenS rfl)))) (thenS hq)
      · rw [eS, if_pos hcase, List.map_append]; exact getO_hit _ _ _
    · refine ⟨ρ₂, fun q hq => ?_, ?_, .inl rfl⟩
      · unfold fPre_k3
        refine bindS (bindS (a := false) ?_ (iteF rfl)) (thenS hq)
        cases hv2 : tr v with
        | false => rw [hv2] at tv; exact bindS tv (iteF rfl)
        | true =>
          have hb2 : tr bf = true := by cases hb3 : tr bf with
            | true => rfl
            | false => rw [hv2, hb3] at hcase; exact absurd rfl hcase
          rw [hv2] at tv
          rw [hb2] at tb
          exact bindS tv (iteT (bindS (mapS tb rfl) (iteF rfl)))
      · rw [eS, if_neg hcase, List.append_nil]; exact b2
  have keepV : ∀ y : String, (y == "starts") = false → getV ρ₃ (Str.ofString y) = getV ρ₂ (Str.ofString y) := fun y hy => by
    rcases ck with rfl | ⟨o, rfl⟩
    · rfl
    · exact getV_skip hy rfl
  have c1 : getO ρ₃ "rows" = some ⟨none, R ++ [rowV l r v]⟩ := by
    rcases ck with rfl | ⟨o, rfl⟩
    · exact b1
    · exact getO_skip rfl b1
  have c0 : getV ρ₃ "script" = some (.lst ns) := (keepV "script" rfl).trans b0
  have c3 : getV ρ₃ "top" = some (.int E.length) := (keepV "top" rfl).trans b3
  have c5 : getV ρ₃ "column" = some (.int col) := (keepV "column" rfl).trans b5
  have c6 : getV ρ₃ "name" = some (.str x) := (keepV "name" rfl).trans b6
  have c7 : getV ρ₃ "part" = some (.bool c) := (keepV "part" rfl).trans b7
  have c8 : getV ρ₃ "around" = some (.int m) := (keepV "around" rfl).trans b8
  have c9 : getV ρ₃ "flag" = some v := (keepV "flag" rfl).trans b9
  have c10 : getV ρ₃ "left" = some (.int l) := (keepV "left" rfl).trans b10
  have c11 : getV ρ₃ "right" = some (.int r) := (keepV "right" rfl).trans b11
  clear keepV ck
  have kt := nrow_top (ρ := ρ₃.set "before" (.val v)) (col := col) (l := l) (r := r) (n := E.length) hv h1 hc (by (first | lia | omega)) (by (first | lia | omega)) (by ac_rfl) (by ac_rfl) (by ac_rfl) (by ac_rfl) (by ac_rfl)
  rw [← nE] at kt
  refine ⟨(ρ₃.set "before" (.val v)).set "top" (.val (.int (E.length + E₁.length : Nat))), R ++ [rowV l r v], E ++ E₁, k0 _ (k1 _ (k2 _ ?_)), ?_, by simp⟩
  · unfold fPre_k2
    exact bindS (bindS c9 rfl) (thenS kt)
  · refine ⟨by ac_rfl, by ac_rfl, by ac_rfl, by rw [List.length_append]; ac_rfl, ⟨v, by ac_rfl, hv, eB.symm⟩, by ac_rfl, by ac_rfl, by ac_rfl, by ac_rfl, ?_, fun q hq => ?_, fun p hp => ?_, fun p hp => ?_, ?_⟩
    · rw [List.flatMap_append, List.map_append, hent, List.flatMap_cons, List.flatMap_nil, List.append_nil, eE]
    · rcases List.mem_append.mp hq with hq | hq
      · exact hgood q hq
      · rw [List.mem_singleton.mp hq]; exact hok
    · rcases List.mem_append.mp hp with hp | hp
      · exact hfl p hp
      · rw [(pE p hp).1]; exact hv
    · rcases List.mem_append.mp hp with hp | hp
      · exact hdat p hp
      · exact (pE p hp).2
    · rw [List.length_append, List.length_append, List.length_singleton]; (first | lia | omega)
theorem pre_loop {ns : List AV} {x : Str} {c : Bool} {m col : Nat} (h1 : 1 ≤ col) (hc : col ≤ 5) : ∀ (xs : List Int) (ρ : Slots) (R : List AV) (E : List Ent), PI ρ ns x c m col R E → R.length + xs.length ≤ 63 → ∃ ρ' R' E', Runs fPre_T5 fPre_B6 (xs.map .int) ρ ρ' ∧ PI ρ' ns x c m col R' E' ∧ R'.length ≤ 63
  | [], ρ, R, E, h, hz => ⟨ρ, R, E, .nil, h, by simpa using hz⟩
  | n :: xs, ρ, R, E, h, hz => by
    rw [List.length_cons] at hz
    obtain ⟨ρ₁, R₁, E₁, e, h', hl⟩ := pre_turn h h1 hc (by (first | lia | omega)) n
    obtain ⟨ρ', R', E', hr, h'', hz'⟩ := pre_loop h1 hc xs ρ₁ R₁ E₁ h' (by (first | lia | omega))
    exact ⟨ρ', R', E', .cons e hr, h'', hz'⟩
end Mine
end
section
set_option linter.unusedVariables false
set_option linter.unusedSimpArgs false
set_option maxHeartbeats 1000000
namespace Mine
theorem pre_all (ns : List Int) (h : ns.length ≤ 63) : ∃ ρ x c m col R E, fPre (script0 ns) = some (.next, ρ) ∧ PI ρ (ns.map .int) x c m col R E ∧ R.length ≤ 63 ∧ 1 ≤ col ∧ col ≤ 5 ∧ x.length ≤ 1000 := by
  have g0 : getV (script0 ns) "script" = some (.lst (ns.map .int)) := by unfold getV script0; simp
  generalize script0 ns = ρ at *
  have a0 : binA .Add (.lst (ns.map AV.int)) (.lst [.int 0, .int 0]) = some (.lst (ns.map AV.int ++ [.int 0, .int 0])) := by
    show (if (ns.map AV.int).length + 2 ≤ 16777216 then some (AV.lst (ns.map AV.int ++ [.int 0, .int 0])) else none) = _
    rw [if_pos (by rw [List.length_map]; (first | lia | omega))]
  obtain ⟨way, ar, hws⟩ : ∃ x y : Int, (ns.map AV.int ++ [AV.int 0, .int 0]).take 2 = [AV.int x, AV.int y] := by
    cases ns with
    | nil => exact ⟨0, 0, rfl⟩
    | cons a ns => cases ns with
      | nil => exact ⟨a, 0, rfl⟩
      | cons b ns => exact ⟨a, b, rfl⟩
  have c1 : cutA (.lst (ns.map AV.int ++ [.int 0, .int 0])) none (some 2) = some (.lst [.int way, .int ar]) := by
    rw [cut_lst _ _ _ (by simp; (first | lia | omega)), ← hws]
    refine congrArg (fun l => some (AV.lst l)) ?_
    unfold cutL
    show (List.drop 0 _).take (clipAt (ns.map AV.int ++ [AV.int 0, .int 0]).length (2 : Nat) - 0) = _
    rw [clip_nat _ 2 (by simp)]; rfl
  generalize hρ₁ : (ρ.set "way" (.val (.int way))).set "around" (.val (.int ar)) = ρ₁
  have e0 : ∀ r, fPre_k10 ρ₁ = r → fPre ρ = r := fun r hr => by
    rw [← hρ₁] at hr
    unfold fPre
    refine bindS (a := (.next, (ρ.set "way" (.val (.int way))).set "around" (.val (.int ar)))) ?_ (thenS hr)
    refine bindS (a := (.lst [.int way, .int ar], ρ)) (bindS (a := .lst [.int way, .int ar]) ?_ rfl) rfl
    refine bindS (a := .lst (ns.map AV.int ++ [.int 0, .int 0])) (bindS g0 (bindS (a := .lst [.int 0, .int 0]) (by ac_rfl) a0)) (bindS rfl (bindS (a := some 2) rfl c1))
  have b0 : getV ρ₁ "script" = some (.lst (ns.map .int)) := by subst hρ₁; ac_rfl
  have b1 : getV ρ₁ "way" = some (.int way) := by subst hρ₁; ac_rfl
  have b2 : getV ρ₁ "around" = some (.int ar) := by subst hρ₁; ac_rfl
  clear hρ₁
  obtain ⟨w, hw, hw'⟩ := fmod_nat way 5 (by (first | lia | omega))
  obtain ⟨k, hk, hk'⟩ := fmod_nat (way.fdiv 10) 1000 (by (first | lia | omega))
  have m5 : binA .Mod (.int way) (.int 5) = some (.int (w : Int)) := by rw [← hw]; exact fmd way 5 (by decide)
  have ad : binA .Add (.int (w : Int)) (.int 1) = some (.int ((w + 1 : Nat) : Int)) := rfl
  have d5 := fdv way 5 ⟨by decide, by decide⟩
  have m2 := fmd (way.fdiv 5) 2 (by decide)
  have q0 := eq_int' ((way.fdiv 5).fmod 2) 0
  have d10 := fdv way 10 ⟨by decide, by decide⟩
  have mk : binA .Mod (.int (way.fdiv 10)) (.int 1000) = some (.int (k : Int)) := by rw [← hk]; exact fmd (way.fdiv 10) 1000 (by decide)
  have st := str_nat k (by (first | lia | omega))
  have lk := tonat_len k (by (first | lia | omega))
  generalize Str.ofString (toString (k : Int)) = sk at *
  have n1 : (Str.ofString "to").length = 2 := by decide +kernel
  have n2 : (Str.ofString "_").length = 1 := by decide +kernel
  have p1 := add_str "to" sk (by rw [n1]; (first | lia | omega))
  have l1 := slen "to" sk
  have p2 := add_str (("to" : Str) ++ sk) "_" (by rw [l1, n1, n2]; (first | lia | omega))
  have l2 := slen (("to" : Str) ++ sk) "_"
  have hx : ((("to" : Str) ++ sk) ++ ("_" : Str)).length ≤ 1000 := by rw [l2, l1, n1, n2]; (first | lia | omega)
  generalize (("to" : Str) ++ sk) ++ ("_" : Str) = x at *
  generalize ((way.fdiv 5).fmod 2 == 0) = c at *
  have ab := abs_int ar
  generalize hρ₂ : (((ρ₁.set "name" (.val (.str x))).set "part" (.val (.bool c))).set "column" (.val (.int ((w + 1 : Nat) : Int)))).set "around" (.val (.int (ar.natAbs : Nat))) = ρ₂
  have e1 : ∀ r, fPre_k8 ρ₂ = r → fPre_k10 ρ₁ = r := fun r hr => by
    rw [← hρ₂] at hr
    unfold fPre_k10
    refine bindS (a := (.next, ((ρ₁.set "name" (.val (.str x))).set "part" (.val (.bool c))).set "column" (.val (.int ((w + 1 : Nat) : Int))))) ?_ (thenS ?_)
    · refine bindS (a := [SV.val (.int ((w + 1 : Nat) : Int)), SV.val (.bool c), SV.val (.str x)]) ?_ (ifP ⟨rfl, Nat.le_of_ble_eq_true rfl⟩ rfl)
      refine bindS (a := .int ((w + 1 : Nat) : Int)) (bindS (bindS b1 (bindS rfl m5)) (bindS rfl ad)) (bindS (a := [SV.val (.bool c), SV.val (.str x)]) ?_ rfl)
      refine bindS (a := .bool c) (bindS (bindS (bindS b1 (bindS rfl d5)) (bindS rfl m2)) (bindS rfl (mapS q0 rfl))) (bindS (a := [SV.val (.str x)]) ?_ rfl)
      refine bindS (a := .str x) ?_ rfl
      exact bindS (bindS rfl (bindS (bindS (bindS (bindS (bindS b1 (bindS rfl d10)) (bindS rfl mk)) rfl) st) p1)) (bindS rfl p2)
    · unfold fPre_k9
      have b2' : getV (((ρ₁.set "name" (.val (.str x))).set "part" (.val (.bool c))).set "column" (.val (.int ((w + 1 : Nat) : Int)))) "around" = some (.int ar) := by ac_rfl
      exact bindS (bindS (bindS (bindS b2' rfl) ab) rfl) (thenS hr)
  have f0 : getV ρ₂ "script" = some (.lst (ns.map .int)) := by subst hρ₂; ac_rfl
  have f1 : getV ρ₂ "name" = some (.str x) := by subst hρ₂; ac_rfl
  have f2 : getV ρ₂ "part" = some (.bool c) := by subst hρ₂; ac_rfl
  have f3 : getV ρ₂ "column" = some (.int ((w + 1 : Nat) : Int)) := by subst hρ₂; ac_rfl
  have f4 : getV ρ₂ "around" = some (.int (ar.natAbs : Nat)) := by subst hρ₂; ac_rfl
  clear hρ₂
  generalize hρ₃ : (((ρ₂.set "rows" (.own ⟨none, []⟩)).set "starts" (.own ⟨none, []⟩)).set "top" (.val (.int 0))).set "before" (.val .none) = ρ₃
  have e2 : ∀ r, fPre_k7 ρ₃ = r → fPre_k8 ρ₂ = r := fun r hr => by
    rw [← hρ₃] at hr
    unfold fPre_k8
    refine bindS (a := (.next, (((ρ₂.set "rows" (.own ⟨none, []⟩)).set "starts" (.own ⟨none, []⟩)).set "top" (.val (.int 0))).set "before" (.val .none))) ?_ (thenS hr)
    refine bindS (a := [SV.own ⟨none, []⟩, SV.own ⟨none, []⟩, SV.val (.int 0), SV.val .none]) (by ac_rfl) (ifP ⟨rfl, Nat.le_of_ble_eq_true rfl⟩ rfl)
  have pi : PI ρ₃ (ns.map .int) x c ar.natAbs (w + 1) [] [] := by
    subst hρ₃
    exact ⟨by ac_rfl, by ac_rfl, by show getO _ "starts" = some ⟨none, []⟩; ac_rfl, by show getV _ "top" = some (.int 0); ac_rfl, ⟨.none, by ac_rfl, .inl rfl, rfl⟩, by ac_rfl, by ac_rfl, by ac_rfl, by ac_rfl, rfl, fun _ h => (by cases h), fun _ h => (by cases h), fun _ h => (by cases h), Nat.le_refl _⟩
  obtain ⟨ρ', R, E, hr, pi', hz⟩ := pre_loop (by (first | lia | omega)) (by (first | lia | omega)) (ns.drop 2) ρ₃ [] [] pi (by rw [List.length_drop]; simp; (first | lia | omega))
  have c2 : cutA (.lst (ns.map .int)) (some 2) none = some (.lst ((ns.drop 2).map .int)) := by
    rw [cut_lst _ _ _ (by simp; (first | lia | omega)), List.map_drop]
    exact congrArg (fun l => some (AV.lst l)) (cutL_drop _ 2)
  refine ⟨ρ', x, c, ar.natAbs, w + 1, R, E, e0 _ (e1 _ (e2 _ ?_)), pi', hz, by (first | lia | omega), by (first | lia | omega), hx⟩
  unfold fPre_k7
  exact bindS (bindS (bindS (bindS pi.script (bindS (a := some 2) rfl (bindS rfl c2))) rfl) hr.forA) (thenS rfl)
end Mine
end
section
set_option linter.unusedVariables false
set_option maxRecDepth 100000
set_option maxHeartbeats 4000000
namespace Mine
theorem sts_len : ∀ (F : List Bool) (i : Nat) (c : Bool), (sts F i c).length ≤ F.length
  | [], _, _ => Nat.le_refl _
  | b :: F, i, c => by
    have := sts_len F (i + 1) b
    show ((if (b && !c) = true then [i] else []) ++ sts F (i + 1) b).length ≤ F.length + 1
    rw [List.length_append]
    split <;> simp <;> (first | lia | omega)
noncomputable def ctorB : List AV → Option (List AV)
  | [a, b] => some [a, b, .none, .raw (.ref 29)]
  | _ => none
noncomputable def pInit : Arguments := argsOf (inBody (stAt P03 7) 5)
noncomputable def fs0 (col : Nat) : List (Str × AV) := [("_tabsize", .int 8), ("_wrapcolumn", .int col), ("_linejunk", .none), ("_charjunk", .raw (.ref 29))]
section
variable {w : World} {h₀ : Heap} {mg mb : Str → Option Value} {os : OsState} {X Z₀ : AddrSet} {d : Nat}
theorem init_eq : initL.map InitSt.stmt = bdInit := by kernel_rfl
theorem fn_init' : FnK (W03 w h₀ mg mb os X Z₀) 44 (fdK (W03 w h₀ mg mb os X Z₀).K 44 has_init) (initL.map InitSt.stmt) := by
  have kf := fn_init (w := w) (h₀ := h₀) (mg := mg) (mb := mb) (os := os) (X := X) (Z₀ := Z₀)
  rw [← init_eq] at kf
  exact kf
theorem binds_two (fd : FuncData) (hp : fd.params = pInit) (hd : fd.defaults = .ref 37) (x v1 v2 : Value) (s : Shared) {K : Frag} (X : K.In s.heap) {o : Obj} (ho : K.lookup 37 = some o) (hs : o.data = .seq #[.int 8 231, .none, .none, .ref 29] 0) : BindsTo s fd ⟨[x, v1, v2], []⟩ (("self", x) :: ctorN.zip [v1, v2, .none, .ref 29]) := by
  obtain ⟨⟩ := fd
  simp only at hp hd
  subst hp
  subst hd
  exact binds_K X rfl ho hs rfl rfl
theorem binds_ctor (x v1 v2 : Value) (s : Shared) (X' : (W03 w h₀ mg mb os X Z₀).K.In s.heap) : BindsTo s (fdK (W03 w h₀ mg mb os X Z₀).K 44 has_init) ⟨[x, v1, v2], []⟩ (("self", x) :: ctorN.zip [v1, v2, .none, .ref 29]) := by
  have ho : ((W03 w h₀ mg mb os X Z₀).K.lookup 37).isSome = true := by kernel_rfl
  obtain ⟨o, ho⟩ := Option.isSome_iff_exists.mp ho
  have hs : ((W03 w h₀ mg mb os X Z₀).K.lookup 37).map (·.data) = some (.seq #[.int 8 231, .none, .none, .ref 29] 0) := by kernel_rfl
  rw [ho] at hs
  exact binds_two _ (by kernel_rfl) (by kernel_rfl) x v1 v2 s X' ho (Option.some.inj hs)
theorem ctor_b (Z : AddrSet) (h : Heap) (x : Value) (vals : List Value) (args full : List AV) (r : RepVs Z h vals args) (hb : ctorB args = some full) : ∃ fvals, (∀ s : Shared, (W03 w h₀ mg mb os X Z₀).K.In s.heap → BindsTo s (fdK (W03 w h₀ mg mb os X Z₀).K 44 has_init) ⟨x :: vals, []⟩ (("self", x) :: ctorN.zip fvals)) ∧ RepVs Z h fvals full := by
  unfold ctorB at hb
  split at hb
  · cases hb
    obtain ⟨v1, v2, rfl, r1, r2⟩ := r.two
    exact ⟨[v1, v2, .none, .ref 29], fun s X => binds_ctor x v1 v2 s X, .cons r1 (.cons r2 (.cons .none (.cons (.raw _) .nil)))⟩
  · cases hb
theorem ctor_l : ∀ x ∈ ("self" : Str) :: ctorN, (fdK (W03 w h₀ mg mb os X Z₀).K 44 has_init).scope.names.lookup x = some .local := fun x hx => by
  rw [sc_init]
  have : ((("self" : Str) :: ctorN).all fun x => scInit.names.lookup x == some .local) = true := by kernel_rfl
  exact beq_iff_eq.mp (List.all_eq_true.mp this x hx)
theorem ctor_st : ∀ st ∈ initL, st.par ∈ ctorN ∧ (st.par == ("__debug__" : Str)) = false ∧ takerIn (W03 w h₀ mg mb os X Z₀).K 113 st.attr = some none := fun st hst => by
  have : (initL.all fun st => ctorN.contains st.par && !(st.par == ("__debug__" : Str)) && (takerIn (W03 w h₀ mg mb os X Z₀).K 113 st.attr == some none)) = true := by kernel_rfl
  have := List.all_eq_true.mp this st hst
  simp only [Bool.and_eq_true, Bool.not_eq_true', beq_iff_eq, List.contains_iff_mem] at this
  exact ⟨this.1.1, this.1.2, this.2⟩
theorem len_six {β : Type} : ∀ {l : List β}, l.length = 6 → ∃ a b c d e f, l = [a, b, c, d, e, f]
  | [a, b, c, d, e, f], _ => ⟨a, b, c, d, e, f, rfl⟩
theorem spec_conv : FSpec (W03 w h₀ mg mb os X Z₀) (d + 1) (.ref 102) GV1 := by
  have hD := fConv_den (w := w) (h₀ := h₀) (mg := mg) (mb := mb) (os := os) (X := X) (Z₀ := Z₀) (d := d)
  rw [← sc_conv (w := w) (h₀ := h₀) (mg := mg) (mb := mb) (os := os) (X := X) (Z₀ := Z₀)] at hD
  refine fspec_of (names := ["self", "fromlist", "tolist", "flaglist", "context", "numlines"]) fn_conv (fun s vals hv => ?_) (fun x hx => ?_) hD
  · obtain ⟨v1, v2, v3, v4, v5, v6, rfl⟩ := len_six hv; exact BindsTo.of_eq (by kernel_rfl)
  · rw [sc_conv]
    have : ((["self", "fromlist", "tolist", "flaglist", "context", "numlines"] : List Str).all fun x => scConv.names.lookup x == some .local) = true := by kernel_rfl
    exact beq_iff_eq.mp (List.all_eq_true.mp this x hx)
theorem spec_link : FSpec (W03 w h₀ mg mb os X Z₀) (d + 1) (.ref 124) GK1 := by
  have hD := fLink_den (w := w) (h₀ := h₀) (mg := mg) (mb := mb) (os := os) (X := X) (Z₀ := Z₀) (d := d)
  rw [← sc_link (w := w) (h₀ := h₀) (mg := mg) (mb := mb) (os := os) (X := X) (Z₀ := Z₀)] at hD
  refine fspec_of (names := ["name", "goal", "word"]) fn_link (fun s vals hv => ?_) (fun x hx => ?_) hD
  · obtain ⟨v1, v2, v3, rfl⟩ := len_three hv; exact BindsTo.of_eq (by kernel_rfl)
  · rw [sc_link]
    have : ((["name", "goal", "word"] : List Str).all fun x => scLink.names.lookup x == some .local) = true := by kernel_rfl
    exact beq_iff_eq.mp (List.all_eq_true.mp this x hx)
theorem gden : GDen (W03 w h₀ mg mb os X Z₀) 100 scGen tx03 gT gTest gY1 (gMid (GS 100)) gWt gPop gY2 :=
  ⟨gT_den, gTest_den, gY1_den, gMid_den (spec_gs 100), gWt_den, gPop_den, gY2_den, by kernel_rfl⟩
end
structure MidT where
  a1 : Pos
  a2 : Pos
  ak : Nat
  a3 : Pos
  a4 : Pos
  a5 : Pos
  a6 : Pos
  b1 : Pos
  b2 : Pos
  b3 : Pos
  c1 : Pos
  c2 : Pos
  c3 : Pos
  c4 : Pos
  c5 : Pos
  c6 : Pos
  c7 : Pos
  c8 : Pos
noncomputable def p0 : Pos := ⟨0, 0, 0, 0⟩
noncomputable def bdMid : List Stmt := (bdLaw.drop 5).take 3
noncomputable def md : MidT := match bdMid with
  | [.Assign [.Name _ a1] (.Call (.Name _ a2) [.Constant _ ak a3, .Name _ a4] [] a5) a6, .Assign [.Attribute (.Name _ b1) _ b2] _ b3, .Assign [.Name _ c1] (.Call (.Name _ c2) [.Call (.Attribute (.Name _ c3) _ c4) [.Name _ c5] [] c6] [] c7) c8] => ⟨a1, a2, ak, a3, a4, a5, a6, b1, b2, b3, c1, c2, c3, c4, c5, c6, c7, c8⟩
  | _ => ⟨p0, p0, 0, p0, p0, p0, p0, p0, p0, p0, p0, p0, p0, p0, p0, p0, p0, p0⟩
theorem mid_eq : bdMid = [.Assign [.Name "sheet" md.a1] (.Call (.Name "HtmlDiff" md.a2) [.Constant (.int 8) md.ak md.a3, .Name "column" md.a4] [] md.a5) md.a6, .Assign [.Attribute (.Name "sheet" md.b1) "_prefix" md.b2] tx03a md.b3, .Assign [.Name "table" md.c1] (.Call (.Name "list" md.c2) [.Call (.Attribute (.Name "sheet" md.c3) "_line_wrapper" md.c4) [.Name "rows" md.c5] [] md.c6] [] md.c7) md.c8] := by kernel_rfl
theorem law_split : bdLaw = bdPre ++ (bdMid ++ bdPost) := by kernel_rfl
end Mine
end
section
set_option linter.unusedVariables false
set_option maxRecDepth 100000
set_option maxHeartbeats 8000000
namespace Mine
noncomputable def posN : Expr → Pos
  | .Name _ p => p
  | _ => p0
theorem it_eq : tx03.iter = .Name "diffs" (posN tx03.iter) := by kernel_rfl
theorem sw_sheet (env : Env) : swapsWith (.Call (.Name "HtmlDiff" md.a2) [.Constant (.int 8) md.ak md.a3, .Name "column" md.a4] [] md.a5) (some (.Name "sheet" md.a1)) md.a6.line env = pure false := by kernel_rfl
theorem sw_attr (env : Env) : swapsWith tx03a (some (.Attribute (.Name "sheet" md.b1) "_prefix" md.b2)) md.b3.line env = pure false := by kernel_rfl
theorem sw_table (env : Env) : swapsWith (.Call (.Name "list" md.c2) [.Call (.Attribute (.Name "sheet" md.c3) "_line_wrapper" md.c4) [.Name "rows" md.c5] [] md.c6] [] md.c7) (some (.Name "table" md.c1)) md.c8.line env = pure false := by kernel_rfl
theorem no_free (sc : Scope) (h : (sc.names.all fun x => x.2 != .free) = true) : ∀ x, sc.names.lookup x ≠ some .free := fun x hx => by
  have := List.all_eq_true.mp h _ (lookup_in hx)
  simp at this
noncomputable def fs1 (col : Nat) (x : Str) : List (Str × AV) := fs0 col ++ [(("_prefix" : Str), AV.lst [.str "from_", .str x])]
theorem set_set (ρ : Slots) (x : Str) (a b : SV) : (ρ.set x a).set x b = ρ.set x b := by
  funext y; unfold Slots.set; split <;> rfl
theorem fs1_facts (col : Nat) (x : Str) : inst col (fs1 col x) ∧ pinst x (fs1 col x) ∧ (fs1 col x).lookup ("_line_wrapper" : Str) = none ∧ (fs1 col x).lookup ("_convert_flags" : Str) = none := ⟨⟨by kernel_rfl, by kernel_rfl⟩, ⟨.str "from_", by kernel_rfl⟩, by kernel_rfl, by kernel_rfl⟩
theorem init_fs (col : Nat) : initA (fun p => (ctorN.zip [.int 8, .int col, .none, .raw (.ref 29)]).reverse.lookup p) initL [] = some (fs0 col) := by kernel_rfl
theorem fin03 {w : World} {s₀ s₁ : Shared} {mg mb : Str → Option Value} {p : Program} {loose : List Str} {mean : ExcName → Option Value} (T : Top p loose mean mg mb s₁.heap) (KX : (kk w.params).In s₁.heap) (hg : s₁.gens = #[])
    {a fa : Addr} {vals : List Value} {ns : List Int} (hl : IsLst s₁.heap a vals.toArray) (hi : IntsAre vals ns) (hlt : ¬ ((63 : Nat) : Int) < (ns.length : Int)) {o : Obj} {fd : FuncData} (ho : s₁.heap.get? fa = some o) (hd : o.data = .func fd) (hcd : s₁.heap.CodeRec fd.code fd.qualname)
    (hbody : fd.body = .stmts bdLaw) (hsc : fd.scope = scLaw) (hbind : bindArgs fd ⟨[Value.ref a], []⟩ = pure [(("script" : Str), Value.ref a)]) (hclo : fd.closure = []) (hgl : fd.globals = mainGlobals) (hbl : fd.builtins = builtinsNs) :
    codeAny (model P03 w) callerA (.call (.ref fa) ⟨[.ref a], []⟩) (GoodWG PySem.Challenge.rw_dm0064_03.row.claim (classAt s₀.heap) (ExcName.means s₀.heap) [ofPy (PyData.list (List.map PyData.int ns))] s₁) s₁ := by
  obtain ⟨ρ, x, c, m, col, R, E, hpre, pi, hR, h1, hc, hx⟩ := pre_all ns (by (first | lia | omega))
  obtain ⟨hin, hpin, hlk, hlk2⟩ := fs1_facts col x
  have ok : (W03 w s₁.heap mg mb s₁.os (fun _ => False) (fun _ => False)).Ok := ⟨T.g, T.b, T.nolimit, T.nodigits, T.builtins, KX, fun a h => h.elim⟩
  refine law_start0 (W := W03 w s₁.heap mg mb s₁.os (fun _ => False) (fun _ => False)) ok rfl rfl (fun _ h => h) (fun _ h => h) hg (by decide +kernel) ho hd T.nolimit hcd hbody hbind hclo (by rw [hsc]; kernel_rfl) (by rw [hsc]; exact no_free _ (by kernel_rfl)) hgl hbl (by rw [hsc]; kernel_rfl) (by rw [hsc]; kernel_rfl) (by rw [hsc]; kernel_rfl) hl hi fun env Z s α hE st => ?_
  rw [hsc] at hE
  rw [law_split]
  refine wpAny_execs_app ?_
  refine fPre_den (d := 249) _ env Z s _ α .next ρ ((room0 env).le (by decide)) hE st.inv st.loc hpre _ _ fun fl s₂ Z₂ α₂ p₂ r₂ => ?_
  cases fl <;> try exact r₂.elim
  have st₂ := st.step p₂
  obtain ⟨Z₂', pf⟩ := st₂.loc.freeze "rows" st₂.inv
  have st₃ := st₂.step pf
  rw [freeze_own' pi.rows] at st₃
  generalize hρ₁ : ρ.set "rows" (.val (.lst R)) = ρ₁ at st₃
  have g1 : getV ρ₁ "rows" = some (.lst R) := by subst hρ₁; exact getV_hit _ _ _
  have g2 : getV ρ₁ "column" = some (.int col) := by subst hρ₁; exact getV_skip rfl pi.column
  have g3 : getV ρ₁ "name" = some (.str x) := by subst hρ₁; exact getV_skip rfl pi.name
  have g4 : getV ρ₁ "part" = some (.bool c) := by subst hρ₁; exact getV_skip rfl pi.part
  have g5 : getV ρ₁ "around" = some (.int m) := by subst hρ₁; exact getV_skip rfl pi.around
  have g6 : getV ρ₁ "top" = some (.int E.length) := by subst hρ₁; exact getV_skip rfl pi.top
  have g7 : getO ρ₁ "starts" = some ⟨none, (sts (E.map fun p => tr p.2.2) 0 false).map intA⟩ := by subst hρ₁; exact getO_skip rfl pi.starts
  clear hρ₁
  refine wpAny_execs_app ?_
  rw [mid_eq]
  refine wpAny_execs_cons (exec_new (d := 249) (names := ctorN) (l := initL) (bd := ctorB) (args := [.int 8, .int col]) (full := [.int 8, .int col, .none, .raw (.ref 29)]) (fs := fs0 col) (gs := fun ρ => (some (.int 8)) >>= fun a => ((getV ρ "column") >>= fun a => (some []) >>= fun l => some (a :: l)) >>= fun l => some (a :: l)) (room0 env) hE gl_diff (by kernel_rfl) (by kernel_rfl) ke_diff
    (denPs_cons (den_int _ _ _) (denPs_cons (den_name "column" _ (by kernel_rfl) (by kernel_rfl)) denPs_nil (fun _ => rfl)) (fun _ => rfl)) (fun _ _ => rfl) (bindS rfl (bindS (bindS g2 rfl) rfl)) cls_diff fn_init' ctor_b ctor_l (by decide) ctor_st (by decide) rfl (init_fs col) (.inl (by kernel_rfl)) sw_sheet st₃ fun s₄ Z₄ α₄ y dy rw₄ => ?_)
  have hpf : fPref (ρ₁.set "sheet" (.val (.raw (.ref y)))) = some (.lst [.str "from_", .str x]) := by
    unfold fPref
    exact bindS (bindS rfl (bindS (bindS (getV_skip rfl g3) rfl) rfl)) (ifP (Nat.le_of_ble_eq_true rfl) rfl)
  refine wpAny_execs_cons (exec_attr (d := 249) ((room0 env).le (by decide)) hE fPref_den hpf cls_diff tk_pref (by kernel_rfl) (by show 4 ≤ 900; decide) (by kernel_rfl) (by kernel_rfl) rw₄ (getV_eq (getV_hit _ _ _)) sw_attr fun s₅ Z₅ st₅ => ?_)
  rw [set_set] at st₅
  generalize hρ₂ : ρ₁.set "sheet" (.val (.inst 113 (fs0 col ++ [(("_prefix" : Str), AV.lst [.str "from_", .str x])]))) = ρ₂ at st₅
  have k1 : getV ρ₂ "rows" = some (.lst R) := by subst hρ₂; exact getV_skip rfl g1
  have k3 : getV ρ₂ "name" = some (.str x) := by subst hρ₂; exact getV_skip rfl g3
  have k4 : getV ρ₂ "part" = some (.bool c) := by subst hρ₂; exact getV_skip rfl g4
  have k5 : getV ρ₂ "around" = some (.int m) := by subst hρ₂; exact getV_skip rfl g5
  have k6 : getV ρ₂ "top" = some (.int E.length) := by subst hρ₂; exact getV_skip rfl g6
  have k7 : getO ρ₂ "starts" = some ⟨none, (sts (E.map fun p => tr p.2.2) 0 false).map intA⟩ := by subst hρ₂; exact getO_skip rfl g7
  have k8 : getV ρ₂ "sheet" = some (.inst 113 (fs1 col x)) := by subst hρ₂; exact getV_hit _ _ _
  clear hρ₂
  have Dn := gden (w := w) (h₀ := s₁.heap) (mg := mg) (mb := mb) (os := s₁.os) (X := fun _ => False) (Z₀ := fun _ => False)
  rw [← sc_gen (w := w) (h₀ := s₁.heap) (mg := mg) (mb := mb) (os := s₁.os) (X := fun _ => False) (Z₀ := fun _ => False)] at Dn
  have hrdy : Rdy2 col (bindA ["self", "diffs"] [.inst 113 (fs1 col x), .lst R]) := ⟨fs1 col x, rfl, hin⟩
  have hlen : (R.flatMap (rowI2 100 col)).length = E.length := by rw [pi.ents, List.length_map]
  have hfew := pi.few
  have hsz : E.length ≤ 1000 := by (first | lia | omega)
  refine wpAny_execs_cons (wpAny_Assign_Name (gives_table (dg := 100) (d := 249) (n1 := "self") (n2 := "diffs") (ρ := ρ₂) (f := fun ρ => getV ρ "sheet") (g := fun ρ => getV ρ "rows") Dn (gabs2 100 col) (fun row hrow => let ⟨it, P, _, e, _⟩ := (gabs2 100 col).row _ row hrdy hrow; ⟨it, P, e⟩) ((room0 env).le (by decide)) (room0 env).lt ((room0 env).le (by decide)) hE gl_list (by kernel_rfl)
    (den_name "sheet" _ (by kernel_rfl) (by kernel_rfl)) k8 hlk (den_name "rows" _ (by kernel_rfl) (by kernel_rfl)) k1 (fun _ => rfl) (fun _ => rfl) mg_get mg_find mg_fn mg_keep (fun _ _ => _) (fun _ => rfl)
    (fdAt_look has_gen) (by rw [← gen_text]; kernel_rfl) (by kernel_rfl) (by kernel_rfl) (by kernel_rfl) (by kernel_rfl) (by rw [sc_gen]; exact no_free _ (by kernel_rfl)) (by kernel_rfl) (by kernel_rfl) (by kernel_rfl) (by
      rw [sc_gen]
      have : (scGen.names.lookup frz == some .cell) = false := by kernel_rfl
      intro e; rw [e] at this; cases this) (fun a b => by kernel_rfl) (fun x hx => .inl (by
      rw [sc_gen]
      have : ((["self", "diffs"] : List Str).all fun x => scGen.names.lookup x == some .local) = true := by kernel_rfl
      exact beq_iff_eq.mp (List.all_eq_true.mp this x hx))) it_eq (by kernel_rfl) (by kernel_rfl) st₅.inv st₅.loc hrdy pi.good (by (first | lia | omega)) _ _ fun v s₆ Z₆ p₆ r₆ => ?_) (sw_table env))
  have st₆ := st₅.step (FStep.pure st₅.loc p₆)
  refine st₆.loc.storeV st₆.inv hE (.inl (by kernel_rfl)) r₆ fun s₇ α₇ p₇ => ?_
  have st₇ := st₆.step p₇
  rw [pi.ents] at st₇
  refine wpAny_execs_nil ?_
  obtain ⟨ρ', hpost⟩ := post_all (ρ := ρ₂.set "table" (.val (.lst (E.map entA)))) (L := E) (x := x) (fs := fs1 col x) (c := c) (m := m) ⟨getV_hit _ _ _, getV_skip rfl k8, getV_skip rfl k3, getV_skip rfl k4, getV_skip rfl k5, getO_skip rfl k7, getV_skip rfl k6⟩ hpin hlk2 hx hsz pi.flags pi.dats (by have := sts_len (E.map fun p => tr p.2.2) 0 false; rw [List.length_map] at this; (first | lia | omega))
  refine fPost_den (spec_link (d := 249)) (spec_conv (d := 249)) _ env _ s₇ _ α₇ _ ρ' (room0 env) hE st₇.inv st₇.loc hpost _ _ fun fl s₈ Z₈ α₈ p₈ r₈ => ?_
  cases fl <;> try exact r₈.elim
  have st₈ := st₇.step p₈
  cases r₈
  exact ⟨.inl ⟨.bool true, .bool true, [], rfl, fun _ => rfl, .bool _, by kernel_rfl, fun _ => ⟨List.nodup_nil, fun _ h => by cases h⟩⟩, .of_keep st₈.keep, st₈.os, st₈.inv.bare⟩
theorem well_lst {P : Params} {h : Heap} {a : Addr} {xs : List WData} {vs : List Value} (w : WellAll P h [.ref a] [.list xs]) (hl : h.IsList a vs.toArray) : IsLst h a vs.toArray := by
  cases w with
  | cons w _ =>
    cases w with
    | list hg _ =>
      obtain ⟨o, ho, hc, n, hd⟩ := hl
      rw [hg] at ho
      cases ho
      exact ⟨_, hg, rfl, rfl, n, hd⟩
end Mine
theorem PySem.Challenge.cw_dm0064_03_holds : PySem.Challenge.rw_dm0064_03.Holds :=
  Mine.hd (by
  intro w s₀ s₁ mg mb G Y fa o pm cd doc dV kV ho hd hcd hD hmg hg args vals as hpre hlay hrd hwl hlo
  have KX : (Mine.kk w.params).In s₁.heap := Y
  have hwl2 := hwl
  refine Ground.open G ?_
  intro T B D TE TW
  try (refine guard_noD D (by decide +kernel) ?_; clear D)
  have TA := at_of_top T
  clear hmg
  wrow_args hpre hlay hrd hwl hlo
  refine enter_call ?_
  w_top on
  have he := Dflts.none hD rfl; subst he
  have he := Dflts.noKw hD; subst he
  exact Mine.fin03 T KX hg (Mine.well_lst hwl2 (by assumption)) (by assumption) (by assumption) ho (fd_plain hd) hcd rfl rfl rfl rfl rfl rfl)
end
