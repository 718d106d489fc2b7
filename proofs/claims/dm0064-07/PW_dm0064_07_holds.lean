import PyProof.Rows.All
import PyProof.AttrMissHeap
import PyProof.ExcStrAll.TypeError
import PyProof.IsInstance
import PyProof.IsiHeapPairs
import PyProof.IsiNone
import Wide.All
import OpenK.AllK
import Wide.FinOn
import KE.KNestM
import Lean
import PySem.Challenge.RW_dm0064_07
open PySem PySem.W PyProof.Rows
set_option Elab.async false
section
namespace Mine
noncomputable def stAt (p : Program) (i : Nat) : Stmt := p.main.body.getD i (.Pass ⟨0, 0, 0, 0⟩)
noncomputable def bodyOf : Stmt → List Stmt
  | .FunctionDef _ _ b _ _ _ _ _ _ _ => b
  | .ClassDef _ _ _ b _ _ _ _ _ _ _ => b
  | _ => []
noncomputable def scopeOf : Stmt → Scope
  | .FunctionDef _ _ _ _ _ _ s _ _ _ => s
  | _ => { kind := .function, names := [], isGenerator := false, isCoroutine := false }
noncomputable def inBody (st : Stmt) (i : Nat) : Stmt := (bodyOf st).getD i (.Pass ⟨0, 0, 0, 0⟩)
noncomputable def argsOf : Stmt → Arguments
  | .FunctionDef _ a _ _ _ _ _ _ _ _ => a
  | _ => ⟨[], [], none, [], [], none, []⟩
noncomputable def posOf : Stmt → Pos
  | .FunctionDef _ _ _ _ _ _ _ _ _ p => p
  | _ => ⟨0, 0, 0, 0⟩
noncomputable def strOf : Stmt → Str
  | .Assign _ (.Constant (.str s) _ _) _ => s
  | _ => Str.empty
noncomputable def ent (P : Params) (x : Str) (n : Nat) (v : Value) : DictEntry := ⟨PyData.keyHash P x, .str x n, v⟩
noncomputable def fnO (s : Stmt) (name qual : Str) (dV kV doc pm cd ct : Value) (cl : List (Str × Addr)) : Obj :=
  ⟨.type "function", none, .func { name := name, qualname := qual, params := argsOf s, body := .stmts (bodyOf s), scope := scopeOf s, globals := mainGlobals, closure := cl, defaults := dV, kwdefaults := kV, doc := doc, pyModule := pm, annotations := none, code := cd, closureTuple := ct, builtins := builtinsNs }, #[]⟩
noncomputable def tupO (vs : List Value) : Obj := ⟨.type "tuple", none, .seq vs.toArray 0, #[]⟩
noncomputable def codeO (vs : List Value) : Obj := ⟨.type "code", none, .fields vs.toArray, #[]⟩
noncomputable def dicO (es : List DictEntry) (n : Nat) : Obj := ⟨.type "dict", none, .dict es.toArray n, #[]⟩
theorem asg_lit {lk : Look} {n : Str} {p q r : Pos} {k : Nat} {l : List Char} (h : (lk.stores [.Name n p] && lk.name n && PySem.W.Fast.tw15029574424589162856 lk ⟨(l.map Char.toNat).toArray⟩) = true) :
    noRoadLS lk (.Assign [.Name n p] (.Constant (.str (Str.ofString (String.ofList l))) k q) r) = true := by
  rw [← PySem.W.Fast.te15029574424589162856, ← PySem.W.Fast.ofString_ofList] at h
  simp only [Bool.and_eq_true] at h
  simp only [noRoadLS, noRoadLs, noRoadL, Bool.and_eq_true]
  exact ⟨⟨h.1.1, h.1.2, trivial⟩, h.2⟩
noncomputable def plainL (l : List Nat) : Bool := !(l.any fun c => c == 123 || c == 125) && (l.any fun c => Nat.ble c 32)
theorem road_no {l : List Nat} (h : plainL l = true) : roadStr ⟨l.toArray⟩ = false := by
  unfold plainL at h
  rw [Bool.and_eq_true, Bool.not_eq_true'] at h
  unfold roadStr
  show ((l.toArray.any fun c => c == 123 || c == 125) || (l.toArray.any (· == 46) && !l.toArray.any (· ≤ 32))) = false
  have e : (fun c : Nat => decide (c ≤ 32)) = fun c => Nat.ble c 32 := by
    funext c
    cases hc : Nat.ble c 32 with
    | true => exact decide_eq_true (Nat.le_of_ble_eq_true hc)
    | false => exact decide_eq_false fun h => by rw [Nat.ble_eq_true_of_le h] at hc; cases hc
  rw [List.any_toArray, List.any_toArray, List.any_toArray, h.1, e, h.2, Bool.not_true, Bool.and_false]; rfl
theorem asg_long {lk : Look} {n : Str} {p q r : Pos} {k : Nat} {l : List Char} (h : (lk.stores [.Name n p] && lk.name n && PySem.W.Fast.tw12870025360856166794 lk ⟨(l.map Char.toNat).toArray⟩ && plainL (l.map Char.toNat)) = true) :
    noRoadLS lk (.Assign [.Name n p] (.Constant (.str (Str.ofString (String.ofList l))) k q) r) = true := by
  rw [← PySem.W.Fast.te12870025360856166794, ← PySem.W.Fast.ofString_ofList] at h
  simp only [Bool.and_eq_true] at h
  have e := road_no h.2
  rw [← PySem.W.Fast.ofString_ofList] at e
  simp only [noRoadLS, noRoadLs, noRoadL, Bool.and_eq_true]
  refine ⟨⟨h.1.1.1, h.1.1.2, trivial⟩, ?_⟩
  unfold Look.str
  rw [e, h.1.2, Bool.or_true]; rfl
theorem road_app (lk : Look) : ∀ a b : List Stmt, noRoadLSs lk (a ++ b) = (noRoadLSs lk a && noRoadLSs lk b)
  | [], b => by simp [noRoadLSs]
  | s :: a, b => by rw [List.cons_append, noRoadLSs, noRoadLSs, road_app lk a b, Bool.and_assoc]
noncomputable def lk0 : Look := { strict := false, foot := none, bare := [] }
theorem road_of {p : Program} {lk : Look} (hl : lk = lk0) (hb : p.main.body = p.main.body.take 3 ++ (stAt p 3 :: stAt p 4 :: stAt p 5 :: stAt p 6 :: p.main.body.drop 7)) (h1 : PySem.W.Fast.tw8326940854005059898 lk0 (p.main.body.take 3) = true)
    (h3 : noRoadLS lk0 (stAt p 3) = true) (h4 : noRoadLS lk0 (stAt p 4) = true) (h5 : noRoadLS lk0 (stAt p 5) = true) (h6 : noRoadLS lk0 (stAt p 6) = true) (h7 : PySem.W.Fast.tw8326940854005059898 lk0 (p.main.body.drop 7) = true) : noRoadLSs lk p.main.body = true := by
  rw [← PySem.W.Fast.te8326940854005059898] at h1 h7
  rw [hl, hb, road_app, h1, noRoadLSs, h3, noRoadLSs, h4, noRoadLSs, h5, noRoadLSs, h6, h7]; rfl
end Mine
end
section
set_option maxRecDepth 100000
set_option maxHeartbeats 8000000
namespace Mine
noncomputable abbrev P07 := PySem.Challenge.pw_dm0064_07
noncomputable def kk (P : Params) : Frag := [
  (55, tabObj #[]),
  (3, dicO [ent P "__name__" 165 (.str "law_dm0064_07" 352),
    ent P "__doc__" 166 .none,
    ent P "__package__" 167 .none,
    ent P "__loader__" 168 (.builtin "__main__.__loader__#opaque"),
    ent P "__spec__" 169 .none,
    ent P "__annotations__" 170 (.ref 6),
    ent P "__builtins__" 171 (.ref 4),
    ent P "__file__" 173 (.str "/claim/cut.py" 172),
    ent P "__cached__" 174 .none,
    ent P "_wall" 193 (.ref 21),
    ent P "IS_CHARACTER_JUNK" 204 (.ref 29),
    ent P "file_template_difflib" 206 (.str (strOf (stAt P07 3)) 205),
    ent P "styles_difflib" 208 (.str (strOf (stAt P07 4)) 207),
    ent P "table_template_difflib" 210 (.str (strOf (stAt P07 5)) 209),
    ent P "legend_difflib" 212 (.str (strOf (stAt P07 6)) 211),
    ent P "HtmlDiff" 351 (.ref 111),
    ent P "_law_words" 362 (.ref 122),
    ent P "_law_filled" 372 (.ref 129),
    ent P "law" 378 (.ref 134)] 19),
  (37, tupO [(.int (8) 231), .none, .none, (.ref 29)]),
  (43, codeO [(.str "__init__" 232), (.str "HtmlDiff.__init__" 233), (.str "/claim/cut.py" 234), (.int (18) 0), (.int (5) 0), (.int (0) 0), (.int (0) 0), (.int (3) 0), (.ref 38), (.bool true), (.int (181) 0), (.ref 39), .none, (.ref 40), (.ref 41), (.ref 42), (.int (240) 0), (.int (18) 0), (.str "/claim/cut.py" 241)]),
  (44, fnO (inBody (stAt P07 7) 5) "__init__" "HtmlDiff.__init__" (.ref 37) .none .none (.str "cpy313.difflib" 194) (.ref 43) .none []),
  (57, codeO [(.str "_tab_newline_replace" 262), (.str "HtmlDiff._tab_newline_replace" 263), (.str "/claim/cut.py" 264), (.int (27) 0), (.int (3) 0), (.int (0) 0), (.int (0) 0), (.int (3) 0), (.ref 54), (.bool true), (.int (181) 0), (.ref 55), .none, .none, .none, (.ref 56), (.int (265) 0), (.int (27) 0), (.str "/claim/cut.py" 266)]),
  (58, fnO (inBody (stAt P07 7) 7) "_tab_newline_replace" "HtmlDiff._tab_newline_replace" .none .none .none (.str "cpy313.difflib" 194) (.ref 57) .none []),
  (110, dicO [ent P "__module__" 220 (.str "cpy313.difflib" 194),
    ent P "__firstlineno__" 224 (.int (11) 223),
    ent P "_file_template" 225 (.str (strOf (stAt P07 3)) 205),
    ent P "_styles" 226 (.str (strOf (stAt P07 4)) 207),
    ent P "_table_template" 227 (.str (strOf (stAt P07 5)) 209),
    ent P "_legend" 228 (.str (strOf (stAt P07 6)) 211),
    ent P "_default_prefix" 230 (.int (0) 229),
    ent P "__init__" 242 (.ref 44),
    ent P "make_file" 261 (.ref 53),
    ent P "_tab_newline_replace" 267 (.ref 58),
    ent P "_split_line" 277 (.ref 65),
    ent P "_line_wrapper" 285 (.ref 72),
    ent P "_collect_lines" 293 (.ref 79),
    ent P "_format_line" 304 (.ref 86),
    ent P "_make_prefix" 311 (.ref 93),
    ent P "_convert_flags" 323 (.ref 100),
    ent P "make_table" 339 (.ref 108),
    ent P "__static_attributes__" 344 (.ref 109),
    ent P "__dict__" 346 (.ref 112),
    ent P "__weakref__" 348 (.ref 113),
    ent P "__doc__" 349 .none] 4),
  (111, ⟨(.type "type"), none, .cls (ClassData.mk "HtmlDiff" [(.type "object")] [(.ref 111), (.type "object")] 110 "HtmlDiff" true [] [] false none false), #[some (.ref 30), none, some (.str "HtmlDiff" 213), some (.str "HtmlDiff" 221), some (.builtin "object.__new__"), some (.bool true)]⟩),
  (121, codeO [(.str "_law_words" 354), (.str "_law_words" 355), (.str "/claim/cut.py" 356), (.int (59) 0), (.int (2) 0), (.int (0) 0), (.int (0) 0), (.int (3) 0), (.ref 116), (.bool true), (.int (181) 0), (.ref 117), .none, (.ref 118), (.ref 119), (.ref 120), (.int (360) 0), (.int (59) 0), (.str "/claim/cut.py" 361)]),
  (122, fnO (stAt P07 9) "_law_words" "_law_words" .none .none .none (.str "law_dm0064_07" 352) (.ref 121) .none []),
  (128, codeO [(.str "_law_filled" 363), (.str "_law_filled" 364), (.str "/claim/cut.py" 365), (.int (66) 0), (.int (2) 0), (.int (0) 0), (.int (0) 0), (.int (3) 0), (.ref 123), (.bool true), (.int (181) 0), (.ref 124), .none, (.ref 125), (.ref 126), (.ref 127), (.int (370) 0), (.int (66) 0), (.str "/claim/cut.py" 371)]),
  (129, fnO (stAt P07 10) "_law_filled" "_law_filled" .none .none .none (.str "law_dm0064_07" 352) (.ref 128) .none [])]
noncomputable def kk0 (P : Params) : Frag := (kk P).tail
noncomputable def kA : List Addr := [55, 3, 37, 43, 44, 57, 58, 110, 111, 121, 122, 128, 129]
theorem kA_eq (P : Params) : kA = (kk P).map (·.1) := rfl
noncomputable def kL : List Str := ["_wall", "IS_CHARACTER_JUNK", "file_template_difflib", "styles_difflib", "table_template_difflib", "legend_difflib", "HtmlDiff", "_law_words", "_law_filled"]
noncomputable def kF (s : Shared) : List (Option Obj) := kA.map s.heap.get?
noncomputable def kV (w : World) : List (Option Obj) := (kk w.params).map fun p => some p.2
theorem left : LeftO P07 (view P07 [11]) kL (fun s => recOk [] s) kF kV 1900 := fun w => by
  unfold openEnds fencedOpening topFrom
  rw [PySem.W.Fast.te10274390034422433532, PySem.W.Fast.te14082659384304107361, PySem.W.Fast.te14364793385576792824, PySem.W.Fast.te4187177175401517315, PySem.W.Fast.te1435165496053646825]
  kernel_rfl
theorem road : noRoadLSs { strict := !(importedModules P07.main.body).all cThrough.contains, foot := none, bare := (["vars", "dir", "locals"] : List Str).filter (readsOut P07 P07.main.body) } P07.main.body = true :=
  road_of (by rw [PySem.W.Fast.te13343964577679436407]; kernel_rfl) (by kernel_rfl) (by kernel_rfl) (asg_long (by kernel_rfl)) (asg_lit (by kernel_rfl)) (asg_long (by kernel_rfl)) (asg_long (by kernel_rfl)) (by kernel_rfl)
theorem road' : noRoadLSs { strict := !(importedModules PySem.Challenge.rw_dm0064_07.row.prog.main.body).all cThrough.contains, foot := none, bare := (["vars", "dir", "locals"] : List Str).filter (readsOut PySem.Challenge.rw_dm0064_07.row.prog PySem.Challenge.rw_dm0064_07.row.prog.main.body) } PySem.Challenge.rw_dm0064_07.row.prog.main.body = true := road
theorem said : PySem.Challenge.rw_dm0064_07.wellSaid = true := by
  unfold OpenLaw.wellSaid OpenRow.wellSaid OpenRow.partSaid looksOpen
  repeat' with_reducible apply look_both
  all_goals first
    | with_reducible exact road'
    | (rw [PySem.W.Fast.te8377067652309620493]; kernel_rfl)
    | (rw [PySem.W.Fast.te17119622794617984870]; kernel_rfl)
    | (rw [PySem.W.Fast.te8179353310426384613]; kernel_rfl)
    | (rw [PySem.W.Fast.te8326940854005059898]; kernel_rfl)
    | (rw [PySem.W.Fast.te16286561074155671207]; kernel_rfl)
    | (rw [PySem.W.Fast.te797321630700447069]; kernel_rfl)
    | (rw [PySem.W.Fast.te18344453789297297638]; kernel_rfl)
    | kernel_rfl
noncomputable def lawD : DefRec := ⟨"law", argsOf (stAt P07 11), bodyOf (stAt P07 11), scopeOf (stAt P07 11), posOf (stAt P07 11)⟩
theorem hd (walk : WalkO (view P07 [11]) kL (fun _ _ => True) (InK kk) PySem.Challenge.rw_dm0064_07.row.toRowW lawD [] fun f vs => call f vs) : PySem.Challenge.rw_dm0064_07.Holds :=
  holds_law said fun k => PySem.W.holds_open (q := view P07 [11]) (loose := kL) (Xt := fun s => recOk [] s) (XP := fun _ _ => True) (Yf := kF) (Ya := kV) (YP := InK kk) (d := lawD) (kwd := []) (N := 1900)
    left (fun w s x => InK.of kA_eq w s x) InK.keeps (fun _ _ => trivial) (fun _ _ _ _ _ => trivial) (by kernel_rfl) (by kernel_rfl) (by kernel_rfl) (fun s e => recFacts_of e) (by kernel_rfl) k (by kernel_rfl) ⟨rfl, rfl, rfl, rfl, rfl, by decide +kernel⟩ ⟨[.list [.int 0]], by decide +kernel, by decide +kernel⟩ walk
end Mine
end
section
namespace Mine
inductive AV where
  | none
  | bool (b : Bool)
  | int (i : Int)
  | str (s : Str)
  | bytes (b : Array UInt8)
  | tup (l : List AV)
  | lst (l : List AV)
  | inst (c : Addr) (fs : List (Str × AV))
  | raw (v : Value)
structure OL where
  place : Option Addr
  items : List AV
inductive SV where
  | val (v : AV)
  | own (l : OL)
noncomputable abbrev Slots := Str → Option SV
noncomputable def Slots.set (ρ : Slots) (x : Str) (v : SV) : Slots := fun y => if y = x then some v else ρ y
noncomputable abbrev AddrSet := Addr → Prop
noncomputable def IsLst (h : Heap) (a : Addr) (items : Array Value) : Prop := ∃ o, h.get? a = some o ∧ o.cls = .type "list" ∧ o.dict = none ∧ ∃ n, o.data = .seq items n
theorem IsLst.list {h : Heap} {a : Addr} {items : Array Value} : IsLst h a items → h.IsList a items := fun ⟨o, ho, hc, _, r⟩ => ⟨o, ho, hc, r⟩
mutual
inductive RepV (Z : AddrSet) (h : Heap) : Value → AV → Prop where
  | none : RepV Z h .none .none
  | bool (b : Bool) : RepV Z h (.bool b) (.bool b)
  | int (i : Int) (t : Tok) : RepV Z h (.int i t) (.int i)
  | str (x : Str) (t : Tok) : RepV Z h (.str x t) (.str x)
  | bytes (b : Array UInt8) (t : Tok) : RepV Z h (.bytes b t) (.bytes b)
  | tup {a : Addr} {vs : List Value} {l : List AV} : Z a → IsTup h a vs.toArray → RepVs Z h vs l → RepV Z h (.ref a) (.tup l)
  | lst {a : Addr} {vs : List Value} {l : List AV} : Z a → IsLst h a vs.toArray → RepVs Z h vs l → RepV Z h (.ref a) (.lst l)
  | inst {x dx c : Addr} {es : List DictEntry} {n : Nat} {fs : List (Str × AV)} : Z x → Z dx → h.get? x = some (instObj c dx) → h.get? dx = some (dictOf es n) →
      RepEs Z h es fs → RepV Z h (.ref x) (.inst c fs)
  | raw (v : Value) : RepV Z h v (.raw v)
inductive RepVs (Z : AddrSet) (h : Heap) : List Value → List AV → Prop where
  | nil : RepVs Z h [] []
  | cons {v : Value} {vs : List Value} {a : AV} {l : List AV} : RepV Z h v a → RepVs Z h vs l → RepVs Z h (v :: vs) (a :: l)
inductive RepEs (Z : AddrSet) (h : Heap) : List DictEntry → List (Str × AV) → Prop where
  | nil : RepEs Z h [] []
  | cons {hs : Int} {x : Str} {t : Tok} {v : Value} {es : List DictEntry} {a : AV} {fs : List (Str × AV)} : RepV Z h v a → RepEs Z h es fs → RepEs Z h (⟨hs, .str x t, v⟩ :: es) ((x, a) :: fs)
end
section
variable {Z Z' : AddrSet} {h h' : Heap}
theorem RepV.mono (hz : ∀ a, Z a → Z' a) (hk : ∀ a o, Z a → h.get? a = some o → h'.get? a = some o) {v : Value} {a : AV} (r : RepV Z h v a) : RepV Z' h' v a :=
  RepV.rec (motive_1 := fun v a _ => RepV Z' h' v a) (motive_2 := fun vs l _ => RepVs Z' h' vs l) (motive_3 := fun es fs _ => RepEs Z' h' es fs)
    .none .bool .int .str .bytes (fun z ho _ rs => .tup (hz _ z) (let ⟨o, ho, r⟩ := ho; ⟨o, hk _ _ z ho, r⟩) rs) (fun z ho _ rs => .lst (hz _ z) (let ⟨o, ho, r⟩ := ho; ⟨o, hk _ _ z ho, r⟩) rs)
    (fun z1 z2 h1 h2 _ rs => .inst (hz _ z1) (hz _ z2) (hk _ _ z1 h1) (hk _ _ z2 h2) rs) .raw .nil (fun _ _ r rs => .cons r rs) .nil (fun _ _ r rs => .cons r rs) r
theorem RepVs.mono (hz : ∀ a, Z a → Z' a) (hk : ∀ a o, Z a → h.get? a = some o → h'.get? a = some o) {vs : List Value} {l : List AV} (r : RepVs Z h vs l) : RepVs Z' h' vs l :=
  RepVs.rec (motive_1 := fun v a _ => RepV Z' h' v a) (motive_2 := fun vs l _ => RepVs Z' h' vs l) (motive_3 := fun es fs _ => RepEs Z' h' es fs)
    .none .bool .int .str .bytes (fun z ho _ rs => .tup (hz _ z) (let ⟨o, ho, r⟩ := ho; ⟨o, hk _ _ z ho, r⟩) rs) (fun z ho _ rs => .lst (hz _ z) (let ⟨o, ho, r⟩ := ho; ⟨o, hk _ _ z ho, r⟩) rs)
    (fun z1 z2 h1 h2 _ rs => .inst (hz _ z1) (hz _ z2) (hk _ _ z1 h1) (hk _ _ z2 h2) rs) .raw .nil (fun _ _ r rs => .cons r rs) .nil (fun _ _ r rs => .cons r rs) r
theorem RepEs.mono (hz : ∀ a, Z a → Z' a) (hk : ∀ a o, Z a → h.get? a = some o → h'.get? a = some o) {vs : List DictEntry} {l : List (Str × AV)} (r : RepEs Z h vs l) : RepEs Z' h' vs l :=
  RepEs.rec (motive_1 := fun v a _ => RepV Z' h' v a) (motive_2 := fun vs l _ => RepVs Z' h' vs l) (motive_3 := fun es fs _ => RepEs Z' h' es fs)
    .none .bool .int .str .bytes (fun z ho _ rs => .tup (hz _ z) (let ⟨o, ho, r⟩ := ho; ⟨o, hk _ _ z ho, r⟩) rs) (fun z ho _ rs => .lst (hz _ z) (let ⟨o, ho, r⟩ := ho; ⟨o, hk _ _ z ho, r⟩) rs)
    (fun z1 z2 h1 h2 _ rs => .inst (hz _ z1) (hz _ z2) (hk _ _ z1 h1) (hk _ _ z2 h2) rs) .raw .nil (fun _ _ r rs => .cons r rs) .nil (fun _ _ r rs => .cons r rs) r
theorem RepV.none' {v : Value} (r : RepV Z h v .none) : v = .none := by cases r; rfl
theorem RepV.bool' {v : Value} {b : Bool} (r : RepV Z h v (.bool b)) : v = .bool b := by cases r; rfl
theorem RepV.int' {v : Value} {i : Int} (r : RepV Z h v (.int i)) : ∃ t, v = .int i t := by cases r; exact ⟨_, rfl⟩
theorem RepV.str' {v : Value} {x : Str} (r : RepV Z h v (.str x)) : ∃ t, v = .str x t := by cases r; exact ⟨_, rfl⟩
theorem RepV.tup' {v : Value} {l : List AV} (r : RepV Z h v (.tup l)) : ∃ a vs, v = .ref a ∧ Z a ∧ IsTup h a vs.toArray ∧ RepVs Z h vs l := by cases r with | tup z i rs => exact ⟨_, _, rfl, z, i, rs⟩
theorem RepV.lst' {v : Value} {l : List AV} (r : RepV Z h v (.lst l)) : ∃ a vs, v = .ref a ∧ Z a ∧ h.IsList a vs.toArray ∧ RepVs Z h vs l := by cases r with | lst z i rs => exact ⟨_, _, rfl, z, i.list, rs⟩
theorem RepV.lstP {v : Value} {l : List AV} (r : RepV Z h v (.lst l)) : ∃ a vs, v = .ref a ∧ Z a ∧ IsLst h a vs.toArray ∧ RepVs Z h vs l := by cases r with | lst z i rs => exact ⟨_, _, rfl, z, i, rs⟩
theorem RepVs.nil' {vs : List Value} (r : RepVs Z h vs []) : vs = [] := by cases r; rfl
theorem RepVs.cons' {vs : List Value} {a : AV} {l : List AV} (r : RepVs Z h vs (a :: l)) : ∃ v ws, vs = v :: ws ∧ RepV Z h v a ∧ RepVs Z h ws l := by cases r with | cons r rs => exact ⟨_, _, rfl, r, rs⟩
theorem RepVs.length {vs : List Value} {l : List AV} (r : RepVs Z h vs l) : vs.length = l.length := by
  induction l generalizing vs with
  | nil => rw [r.nil']; rfl
  | cons a l ih => obtain ⟨v, ws, rfl, _, rs⟩ := r.cons'; exact congrArg (· + 1) (ih rs)
theorem RepVs.get {vs : List Value} {l : List AV} (r : RepVs Z h vs l) {i : Nat} {a : AV} (e : l[i]? = some a) : ∃ v, vs[i]? = some v ∧ RepV Z h v a := by
  induction l generalizing vs i with
  | nil => cases e
  | cons b l ih =>
    obtain ⟨v, ws, rfl, r, rs⟩ := r.cons'
    cases i with
    | zero => cases e; exact ⟨v, rfl, r⟩
    | succ i => exact ih rs e
theorem RepVs.append {vs : List Value} {l : List AV} {ws : List Value} {m : List AV} (r : RepVs Z h vs l) (k : RepVs Z h ws m) : RepVs Z h (vs ++ ws) (l ++ m) := by
  induction l generalizing vs with
  | nil => rw [r.nil']; exact k
  | cons b l ih => obtain ⟨v, us, rfl, r, rs⟩ := r.cons'; exact .cons r (ih rs)
theorem RepVs.snoc {vs : List Value} {l : List AV} {v : Value} {a : AV} (r : RepVs Z h vs l) (q : RepV Z h v a) : RepVs Z h (vs ++ [v]) (l ++ [a]) := r.append (.cons q .nil)
theorem RepVs.take (n : Nat) {vs : List Value} {l : List AV} (r : RepVs Z h vs l) : RepVs Z h (vs.take n) (l.take n) := by
  induction n generalizing vs l with
  | zero => exact .nil
  | succ n ih =>
    cases l with
    | nil => rw [r.nil']; exact .nil
    | cons a l => obtain ⟨v, us, rfl, r, rs⟩ := r.cons'; exact .cons r (ih rs)
theorem RepVs.drop (n : Nat) {vs : List Value} {l : List AV} (r : RepVs Z h vs l) : RepVs Z h (vs.drop n) (l.drop n) := by
  induction n generalizing vs l with
  | zero => exact r
  | succ n ih =>
    cases l with
    | nil => rw [r.nil']; exact .nil
    | cons a l => obtain ⟨v, us, rfl, r, rs⟩ := r.cons'; exact ih rs
end
end Mine
end
section
namespace Mine
structure Wd where
  prog : Program
  w : World
  K : Frag
  h₀ : Heap
  mg : Str → Option Value
  mb : Str → Option Value
  os : OsState
  X : AddrSet
  Z₀ : AddrSet
noncomputable abbrev Wd.M (W : Wd) : Model := model W.prog W.w
structure Wd.Ok (W : Wd) : Prop where
  g : W.h₀.Ns mainGlobals W.mg
  b : W.h₀.Ns builtinsNs W.mb
  nolimit : W.h₀.NoLimit
  nodigits : ∃ mc, W.h₀.Ns cStatics mc ∧ mc "sys.int_max_str_digits" = none
  builtins : ∀ x : Str, x ≠ "__name__" → W.mb x = bootBuiltins x
  kin : W.K.In W.h₀
  xk : ∀ a, W.X a → W.K.lookup a = none ∧ a ≠ mainGlobals ∧ a ≠ builtinsNs ∧ a ≠ cStatics
structure Inv (W : Wd) (Z : AddrSet) (s : Shared) : Prop where
  ok : W.Ok
  base : ∀ b o, W.h₀.get? b = some o → ¬ W.X b → s.heap.get? b = some o
  xs : ∀ b, W.X b → ∃ o, s.heap.get? b = some o
  zin : ∀ a, Z a → ∃ o, s.heap.get? a = some o
  os : s.os = W.os
  bare : AllBare s.gens
  zx : ∀ a, Z a → ¬ W.X a
  z0 : ∀ a, W.Z₀ a → Z a
  tk : 1 ≤ s.toks
namespace Inv
variable {W : Wd} {Z : AddrSet} {s : Shared}
theorem ns_of (I : Inv W Z s) {a : Addr} {m : Str → Option Value} (hn : W.h₀.Ns a m) (hx : ¬ W.X a) : s.heap.Ns a m := by
  obtain ⟨o, es, ep, ho, r⟩ := hn
  exact ⟨o, es, ep, I.base _ _ ho hx, r⟩
theorem g (I : Inv W Z s) : s.heap.Ns mainGlobals W.mg := I.ns_of I.ok.g fun h => (I.ok.xk _ h).2.1 rfl
theorem b (I : Inv W Z s) : s.heap.Ns builtinsNs W.mb := I.ns_of I.ok.b fun h => (I.ok.xk _ h).2.2.1 rfl
theorem nolimit (I : Inv W Z s) : s.heap.NoLimit := by
  obtain ⟨mc, h1, h2⟩ := I.ok.nolimit
  exact ⟨mc, I.ns_of h1 fun h => (I.ok.xk _ h).2.2.2 rfl, h2⟩
theorem kin (I : Inv W Z s) : W.K.In s.heap := fun a o e => I.base _ _ (I.ok.kin a o e) fun h => by rw [(I.ok.xk _ h).1] at e; cases e
theorem fresh_z (I : Inv W Z s) {a : Addr} (h : s.heap.get? a = none) : ¬ Z a := fun z => by obtain ⟨o, e⟩ := I.zin a z; rw [h] at e; cases e
theorem fresh_b (I : Inv W Z s) {a : Addr} (h : s.heap.get? a = none) : W.h₀.get? a = none := by
  cases e : W.h₀.get? a with
  | none => rfl
  | some o =>
    by_cases hx : W.X a
    · obtain ⟨o, e⟩ := I.xs a hx; rw [h] at e; cases e
    · have := I.base a o e hx; rw [h] at this; cases this
theorem fresh_x (I : Inv W Z s) {a : Addr} (h : s.heap.get? a = none) : ¬ W.X a := fun hx => by obtain ⟨o, e⟩ := I.xs a hx; rw [h] at e; cases e
end Inv
structure Own where
  a : Addr → Prop
  g : Nat → Prop
noncomputable def Own.none : Own := ⟨fun _ => False, fun _ => False⟩
noncomputable def Own.addrs (p : Addr → Prop) : Own := ⟨p, fun _ => False⟩
structure Step (W : Wd) (O : Own) (Z : AddrSet) (s : Shared) (Z' : AddrSet) (s' : Shared) : Prop where
  inv : Inv W Z' s'
  keep : ∀ b o, ¬ O.a b → s.heap.get? b = some o → s'.heap.get? b = some o
  zsub : ∀ a, Z a → Z' a
  znew : ∀ a, Z' a → Z a ∨ O.a a ∨ s.heap.get? a = none
  gens : ∀ i x, ¬ O.g i → s.gens[i]? = some x → s'.gens[i]? = some x
namespace Step
variable {W : Wd} {O O₁ : Own} {Z Z₁ Z₂ : AddrSet} {s s₁ s₂ : Shared}
theorem none_back (p : Step W O Z s Z₁ s₁) {a : Addr} (h : s₁.heap.get? a = none) : O.a a ∨ s.heap.get? a = none := by
  by_cases ho : O.a a
  · exact .inl ho
  · refine .inr ?_
    cases e : s.heap.get? a with
    | none => rfl
    | some o => rw [p.keep a o ho e] at h; cases h
theorem id (I : Inv W Z s) : Step W O Z s Z s := ⟨I, fun _ _ _ e => e, fun _ h => h, fun _ h => .inl h, fun _ _ _ e => e⟩
theorem trans (p : Step W O Z s Z₁ s₁) (q : Step W O₁ Z₁ s₁ Z₂ s₂) (ho : ∀ a, O₁.a a → O.a a ∨ s.heap.get? a = none) (hg : ∀ i, O₁.g i → O.g i ∨ s.gens[i]? = none) : Step W O Z s Z₂ s₂ where
  inv := q.inv
  keep b o hb e := q.keep b o (fun h => (ho b h).elim hb fun h' => by rw [h'] at e; cases e) (p.keep b o hb e)
  zsub a h := q.zsub a (p.zsub a h)
  znew a h := by
    rcases q.znew a h with h | h | h
    · exact p.znew a h
    · exact .inr (ho a h)
    · exact .inr (p.none_back h)
  gens i x hi e := q.gens i x (fun h => (hg i h).elim hi fun h' => by rw [h'] at e; cases e) (p.gens i x hi e)
theorem tr (p : Step W .none Z s Z₁ s₁) (q : Step W .none Z₁ s₁ Z₂ s₂) : Step W .none Z s Z₂ s₂ := p.trans q (fun _ h => .inl h) (fun _ h => .inl h)
theorem mono (p : Step W O Z s Z₁ s₁) (ho : ∀ a, O.a a → O₁.a a ∨ s.heap.get? a = none) (hg : ∀ i, O.g i → O₁.g i ∨ s.gens[i]? = none) : Step W O₁ Z s Z₁ s₁ where
  inv := p.inv
  keep b o hb e := p.keep b o (fun h => (ho b h).elim hb fun h' => by rw [h'] at e; cases e) e
  zsub := p.zsub
  znew a h := (p.znew a h).imp (fun h => h) fun h => h.elim (ho a) .inr
  gens i x hi e := p.gens i x (fun h => (hg i h).elim hi fun h' => by rw [h'] at e; cases e) e
theorem weak (p : Step W .none Z s Z₁ s₁) : Step W O Z s Z₁ s₁ := p.mono (fun _ h => h.elim) (fun _ h => h.elim)
theorem toks (I : Inv W Z s) (tk : Nat) (htk : s.toks ≤ tk := by first | exact Nat.le_refl _ | exact Nat.le_add_right _ _ | assumption | (first | lia | omega)) : Step W O Z s Z { s with toks := tk } := ⟨⟨I.ok, I.base, I.xs, I.zin, I.os, I.bare, I.zx, I.z0, Nat.le_trans I.tk htk⟩, fun _ _ _ e => e, fun _ h => h, fun _ h => .inl h, fun _ _ _ e => e⟩
theorem grow (I : Inv W Z s) {h' : Heap} {tk : Nat} (hk : ∀ b o, s.heap.get? b = some o → h'.get? b = some o) (htk : s.toks ≤ tk := by first | exact Nat.le_refl _ | exact Nat.le_add_right _ _ | assumption | (first | lia | omega)) : Step W O Z s Z { s with heap := h', toks := tk } :=
  ⟨⟨I.ok, fun b o e x => hk _ _ (I.base b o e x), fun b x => let ⟨o, e⟩ := I.xs b x; ⟨o, hk _ _ e⟩, fun a z => let ⟨o, e⟩ := I.zin a z; ⟨o, hk _ _ e⟩, I.os, I.bare, I.zx, I.z0, Nat.le_trans I.tk htk⟩, fun b o _ e => hk b o e, fun _ h => h, fun _ h => .inl h, fun _ _ _ e => e⟩
theorem grow1 (I : Inv W Z s) {h' : Heap} {tk : Nat} {a : Addr} {oa : Obj} (hk : ∀ b o, s.heap.get? b = some o → h'.get? b = some o) (hn : s.heap.get? a = none) (ha : h'.get? a = some oa) (htk : s.toks ≤ tk := by first | exact Nat.le_refl _ | exact Nat.le_add_right _ _ | assumption | (first | lia | omega)) :
    Step W O Z s (fun b => Z b ∨ b = a) { s with heap := h', toks := tk } :=
  ⟨⟨I.ok, fun b o e x => hk _ _ (I.base b o e x), fun b x => let ⟨o, e⟩ := I.xs b x; ⟨o, hk _ _ e⟩, fun b z => z.elim (fun z => let ⟨o, e⟩ := I.zin b z; ⟨o, hk _ _ e⟩) fun e => ⟨oa, e ▸ ha⟩, I.os, I.bare, fun b z => z.elim (I.zx b) fun e => e ▸ I.fresh_x hn, fun b h => .inl (I.z0 b h), Nat.le_trans I.tk htk⟩,
    fun b o _ e => hk b o e, fun _ h => .inl h, fun _ h => h.elim .inl fun e => .inr (.inr (e ▸ hn)), fun _ _ _ e => e⟩
theorem rep (p : Step W O Z s Z₁ s₁) (ho : ∀ a, Z a → ¬ O.a a) {v : Value} {a : AV} (r : RepV Z s.heap v a) : RepV Z₁ s₁.heap v a := r.mono p.zsub fun a o z e => p.keep a o (ho a z) e
theorem reps (p : Step W O Z s Z₁ s₁) (ho : ∀ a, Z a → ¬ O.a a) {v : List Value} {a : List AV} (r : RepVs Z s.heap v a) : RepVs Z₁ s₁.heap v a := r.mono p.zsub fun a o z e => p.keep a o (ho a z) e
theorem rep0 (p : Step W .none Z s Z₁ s₁) {v : Value} {a : AV} (r : RepV Z s.heap v a) : RepV Z₁ s₁.heap v a := p.rep (fun _ _ h => h) r
theorem reps0 (p : Step W .none Z s Z₁ s₁) {v : List Value} {a : List AV} (r : RepVs Z s.heap v a) : RepVs Z₁ s₁.heap v a := p.reps (fun _ _ h => h) r
end Step
structure Room (A : Around) (d : Nat) : Prop where
  handled : A.handled = none
  depth : A.depth + 2 * d + 10 < recursionLimit
  units : A.units + 30 * d + 100 < cLine
theorem Room.deeper {A : Around} {d : Nat} (r : Room A (d + 1)) (env : Env) : Room (A.deeper env) d := ⟨r.handled, by have h : A.depth + 2 * (d + 1) + 10 < recursionLimit := r.depth; show A.depth + 1 + 2 * d + 10 < recursionLimit; (first | lia | omega), by have h : A.units + 30 * (d + 1) + 100 < cLine := r.units; show A.units + 3 + 30 * d + 100 < cLine; (first | lia | omega)⟩
theorem Room.lt {A : Around} {d : Nat} (r : Room A d) : A.depth < recursionLimit := by have := r.depth; (first | lia | omega)
theorem Room.ult {A : Around} {d : Nat} (r : Room A d) : A.units + 50 < cLine := by have := r.units; (first | lia | omega)
structure EnvOk (env : Env) (sc : Scope) : Prop where
  scope : env.scope = sc
  globals : env.globals = mainGlobals
  builtins : env.builtins = builtinsNs
  fn : sc.kind = .function
  cells : ∀ x, sc.names.lookup x = some .cell ∨ sc.names.lookup x = some .free → ∃ c, env.cells.lookup x = some c
noncomputable def isPh (x : Str) : Bool := x == ("__classdict__" : Str) || x == ("#0" : Str) || x == ("#1" : Str)
theorem isPh_cd {x : Str} (h : isPh x = false) : (x == ("__classdict__" : Str)) = false := (Bool.or_eq_false_iff.mp (Bool.or_eq_false_iff.mp h).1).1
noncomputable def At (h : Heap) (env : Env) (m : Str → Option Value) (x : Str) (v : Value) : Prop :=
  (env.kindOf x = some .local ∧ m x = some v) ∨ ((env.kindOf x = some .cell ∨ env.kindOf x = some .free) ∧ ∃ c, env.cells.lookup x = some c ∧ h.IsCell c (some v)) ∨ (env.kindOf x = none ∧ isPh x = true)
noncomputable def SRep (Z : AddrSet) (h : Heap) (a : Addr) (v : Value) : SV → Prop
  | .val av => RepV Z h v av
  | .own l => v = .ref a ∧ ∃ vs : List Value, h.PlainList a vs.toArray ∧ RepVs Z h vs l.items
noncomputable def frz : Str := "self"
noncomputable abbrev Kd (sc : Scope) (x : Str) : Prop := sc.names.lookup x = some .local ∨ (sc.names.lookup x = some .cell ∧ x ≠ frz)
noncomputable def FOwn (env : Env) (ρ : Slots) (α : Str → Addr) (a : Addr) : Prop := a = env.locals ∨ (∃ x, x ≠ frz ∧ env.cells.lookup x = some a) ∨ ∃ x l, ρ x = some (.own l) ∧ α x = a
structure Loc (W : Wd) (Z : AddrSet) (h : Heap) (env : Env) (ρ : Slots) (α : Str → Addr) : Prop where
  ns : ∃ m, h.Ns env.locals m ∧ ∀ x sv, ρ x = some sv → ∃ v, At h env m x v ∧ SRep Z h (α x) v sv
  nz : ∀ a, FOwn env ρ α a → ¬ Z a
  nb : ∀ a, FOwn env ρ α a → W.h₀.get? a = none ∧ ¬ W.X a
  fix : ∀ x l b, ρ x = some (.own l) → l.place = some b → α x = b
  inj : ∀ x y l l', ρ x = some (.own l) → ρ y = some (.own l') → α x = α y → x = y
  cell : ∀ x c, env.cells.lookup x = some c → ∃ v, h.IsCell c v
  cinj : ∀ x y c, env.cells.lookup x = some c → env.cells.lookup y = some c → x = y
  slf : ∀ c, env.cells.lookup frz = some c → Z c
end Mine
end
section
namespace Mine
section
variable {W : Wd} {Z Z' Z₁ : AddrSet} {s s' s₁ : Shared} {h h' : Heap} {env : Env} {sc : Scope} {ρ ρ' ρ₁ : Slots} {α α' α₁ : Str → Addr} {A : Around} {E' : Value → Shared → Prop}
theorem EnvOk.kind (E : EnvOk env sc) (x : Str) : env.kindOf x = sc.names.lookup x := by unfold Env.kindOf; rw [E.scope]
theorem EnvOk.kfn (E : EnvOk env sc) : env.scope.kind = .function := by rw [E.scope]; exact E.fn
theorem At.mono {m : Str → Option Value} {x : Str} {v : Value} (a : At h env m x v) (hk : ∀ x c o, env.cells.lookup x = some c → h.get? c = some o → h'.get? c = some o) : At h' env m x v := by
  rcases a with a | ⟨k, c, hc, o, ho, hd⟩ | a
  · exact .inl a
  · exact .inr (.inl ⟨k, c, hc, o, hk _ _ _ hc ho, hd⟩)
  · exact .inr (.inr a)
theorem Loc.alive (L : Loc W Z h env ρ α) {a : Addr} (ha : FOwn env ρ α a) : ∃ o, h.get? a = some o := by
  obtain ⟨m, ⟨o, es, ep, ho, _⟩, hv⟩ := L.ns
  rcases ha with rfl | ⟨x, _, hx⟩ | ⟨x, l, hx, rfl⟩
  · exact ⟨o, ho⟩
  · obtain ⟨v, o, ho, _⟩ := L.cell _ _ hx; exact ⟨o, ho⟩
  · obtain ⟨v, _, _, vs, ⟨n, hn⟩, _⟩ := hv x _ hx; exact ⟨_, hn⟩
theorem Loc.step {O : Own} (L : Loc W Z s.heap env ρ α) (p : Step W O Z s Z' s') (ho : ∀ a, O.a a → ¬ FOwn env ρ α a ∧ ¬ Z a) : Loc W Z' s'.heap env ρ α := by
  have hk : ∀ a o, FOwn env ρ α a → s.heap.get? a = some o → s'.heap.get? a = some o := fun a o f e => p.keep a o (fun h => (ho a h).1 f) e
  have hz : ∀ a o, Z a → s.heap.get? a = some o → s'.heap.get? a = some o := fun a o f e => p.keep a o (fun h => (ho a h).2 f) e
  have hcl : ∀ x c o, env.cells.lookup x = some c → s.heap.get? c = some o → s'.heap.get? c = some o := fun x c o hc e => by
    by_cases q : x = frz
    · exact hz c o (L.slf c (q ▸ hc)) e
    · exact hk c o (.inr (.inl ⟨x, q, hc⟩)) e
  refine ⟨?_, fun a f z => ?_, L.nb, L.fix, L.inj, fun x c hc => ?_, L.cinj, fun c hc => p.zsub c (L.slf c hc)⟩
  · obtain ⟨m, ⟨o, es, ep, e, r⟩, hv⟩ := L.ns
    refine ⟨m, ⟨o, es, ep, hk _ _ (.inl rfl) e, r⟩, fun x sv hx => ?_⟩
    obtain ⟨v, at', r⟩ := hv x sv hx
    refine ⟨v, at'.mono fun y c o hc e => hcl y c o hc e, ?_⟩
    cases sv with
    | val av => exact r.mono p.zsub hz
    | own l => obtain ⟨e, vs, ⟨n, hn⟩, rs⟩ := r; exact ⟨e, vs, ⟨n, hk _ _ (.inr (.inr ⟨x, l, hx, rfl⟩)) hn⟩, rs.mono p.zsub hz⟩
  · obtain ⟨o, e⟩ := L.alive f
    rcases p.znew a z with z | z | z
    · exact L.nz a f z
    · exact (ho a z).1 f
    · rw [e] at z; cases z
  · obtain ⟨v, o, e, d⟩ := L.cell x c hc; exact ⟨v, o, hcl x c o hc e, d⟩
theorem Loc.step0 (L : Loc W Z s.heap env ρ α) (p : Step W .none Z s Z' s') : Loc W Z' s'.heap env ρ α := L.step p fun _ h => h.elim
theorem Loc.load {x : Str} {sv : SV} {Q : Value → Shared → Prop} (L : Loc W Z s.heap env ρ α) (E : EnvOk env sc) (hx : ρ x = some sv) (h : ∀ v, SRep Z s.heap (α x) v sv → Q v s)
    (hn : isPh x = false) : wpAny W.M A (loadName env x) Q E' s := by
  obtain ⟨m, ns, hv⟩ := L.ns
  obtain ⟨v, at', r⟩ := hv x sv hx
  rcases at' with ⟨k, e⟩ | ⟨k | k, c, hc, e⟩ | ⟨_, hp⟩
  · exact wpAny_loadName_local E.kfn k ns e (h v r)
  · exact wpAny_loadName_cell E.kfn k hc e (h v r)
  · exact wpAny_loadName_free E.kfn k hc e (h v r) (isPh_cd hn)
  · rw [hn] at hp; cases hp
structure FStep (W : Wd) (env : Env) (Z : AddrSet) (s : Shared) (ρ : Slots) (α : Str → Addr) (Z' : AddrSet) (s' : Shared) (ρ' : Slots) (α' : Str → Addr) : Prop where
  step : Step W (.addrs (FOwn env ρ α)) Z s Z' s'
  fo : ∀ a, FOwn env ρ' α' a → FOwn env ρ α a ∨ s.heap.get? a = none
  loc : Loc W Z' s'.heap env ρ' α'
theorem FStep.id (I : Inv W Z s) (L : Loc W Z s.heap env ρ α) : FStep W env Z s ρ α Z s ρ α := ⟨.id I, fun _ h => .inl h, L⟩
theorem FStep.trans (p : FStep W env Z s ρ α Z₁ s₁ ρ₁ α₁) (q : FStep W env Z₁ s₁ ρ₁ α₁ Z' s' ρ' α') : FStep W env Z s ρ α Z' s' ρ' α' where
  step := p.step.trans q.step (fun a h => p.fo a h) (fun _ h => h.elim)
  fo a h := by
    rcases q.fo a h with h | h
    · exact p.fo a h
    · exact p.step.none_back h
  loc := q.loc
theorem FStep.pure (L : Loc W Z s.heap env ρ α) (p : Step W .none Z s Z' s') : FStep W env Z s ρ α Z' s' ρ α := ⟨p.weak, fun _ h => .inl h, L.step0 p⟩
noncomputable def setA (α : Str → Addr) (x : Str) (a : Addr) : Str → Addr := fun y => if y = x then a else α y
theorem store_fo {x : Str} {sv : SV} {a : Addr} : ∀ b, FOwn env (ρ.set x sv) (setA α x a) b → FOwn env ρ α b ∨ ((∃ l, sv = .own l) ∧ b = a) := by
  rintro b (rfl | ⟨y, hn, hy⟩ | ⟨y, l, hy, rfl⟩)
  · exact .inl (.inl rfl)
  · exact .inl (.inr (.inl ⟨y, hn, hy⟩))
  · unfold Slots.set at hy
    unfold setA
    by_cases e : y = x
    · rw [if_pos e] at hy ⊢; exact .inr ⟨⟨l, Option.some.inj hy⟩, rfl⟩
    · rw [if_neg e] at hy ⊢; exact .inl (.inr (.inr ⟨y, l, hy, rfl⟩))
noncomputable def StoreOk (W : Wd) (Z : AddrSet) (ρ : Slots) (α : Str → Addr) (x : Str) (a : Addr) (sv : SV) : Prop := ∀ l, sv = .own l → ¬ Z a ∧ W.h₀.get? a = none ∧ ¬ W.X a ∧ (∀ b, l.place = some b → a = b) ∧ ∀ y l', y ≠ x → ρ y = some (.own l') → α y ≠ a
theorem store_loc {x : Str} {v : Value} {sv : SV} {a b : Addr} {h' : Heap} {m m' : Str → Option Value} (L : Loc W Z h env ρ α) (fb : FOwn env ρ α b) (hm : ∀ x sv, ρ x = some sv → ∃ v, At h env m x v ∧ SRep Z h (α x) v sv) (r : SRep Z h a v sv) (hf : StoreOk W Z ρ α x a sv) (hs : Heap.SameBut b h h')
    (hns : h'.Ns env.locals m') (hat : ∀ y w, y ≠ x → At h env m y w → At h' env m' y w) (hatx : At h' env m' x v) (hc : ∀ y c, env.cells.lookup y = some c → ∃ w, h'.IsCell c w) (hnl : ∀ vs, ¬ h.PlainList b vs) : Loc W Z h' env (ρ.set x sv) (setA α x a) := by
  have kz : ∀ c o, Z c → h.get? c = some o → h'.get? c = some o := fun c o z e => (hs.2 c (fun q => L.nz b fb (q ▸ z))).trans e
  have ks : ∀ {c : Addr} {w : Value} {sv : SV}, SRep Z h c w sv → SRep Z h' c w sv := fun {c w sv} r => by
    cases sv with
    | val av => exact RepV.mono (fun _ z => z) kz r
    | own l => obtain ⟨e, vs, ⟨n, hn⟩, rs⟩ := r; exact ⟨e, vs, ⟨n, (hs.2 c (fun q => hnl vs.toArray ⟨n, by rw [← q]; exact hn⟩)).trans hn⟩, rs.mono (fun _ z => z) kz⟩
  refine ⟨⟨m', hns, fun y sv' hy => ?_⟩, fun b f => ?_, fun b f => ?_, fun y l b hy hb => ?_, fun y z l l' hy hz e => ?_, hc, L.cinj, L.slf⟩
  · unfold Slots.set at hy
    unfold setA
    by_cases e : y = x
    · rw [if_pos e] at hy ⊢
      exact ⟨v, e ▸ hatx, Option.some.inj hy ▸ ks r⟩
    · rw [if_neg e] at hy ⊢
      obtain ⟨w, aw, rw'⟩ := hm y sv' hy
      exact ⟨w, hat y w e aw, ks rw'⟩
  · rcases store_fo b f with f | ⟨⟨l, e⟩, rfl⟩
    · exact L.nz b f
    · exact (hf l e).1
  · rcases store_fo b f with f | ⟨⟨l, e⟩, rfl⟩
    · exact L.nb b f
    · exact ⟨(hf l e).2.1, (hf l e).2.2.1⟩
  · unfold Slots.set at hy
    unfold setA
    by_cases e : y = x
    · rw [if_pos e] at hy ⊢; exact (hf l (Option.some.inj hy)).2.2.2.1 b hb
    · rw [if_neg e] at hy ⊢; exact L.fix y l b hy hb
  · unfold Slots.set at hy hz
    unfold setA at e
    by_cases ey : y = x <;> by_cases ez : z = x
    · rw [ey, ez]
    · rw [if_pos ey] at hy e; rw [if_neg ez] at hz e
      exact ((hf l (Option.some.inj hy)).2.2.2.2 z l' ez hz e.symm).elim
    · rw [if_neg ey] at hy e; rw [if_pos ez] at hz e
      exact ((hf l' (Option.some.inj hz)).2.2.2.2 y l ey hy e).elim
    · rw [if_neg ey] at hy e; rw [if_neg ez] at hz e
      exact L.inj y z l l' hy hz e
theorem store_step {b : Addr} {h' : Heap} {tk : Nat} (I : Inv W Z s) (L : Loc W Z s.heap env ρ α) (fb : FOwn env ρ α b) (hs : Heap.SameBut b s.heap h') (htk : s.toks ≤ tk := by first | exact Nat.le_refl _ | exact Nat.le_add_right _ _ | assumption | (first | lia | omega)) : Step W (.addrs (· = b)) Z s Z { s with heap := h', toks := tk } := by
  have kz : ∀ c o, Z c → s.heap.get? c = some o → h'.get? c = some o := fun c o z e => (hs.2 c (fun q => L.nz b fb (q ▸ z))).trans e
  refine ⟨⟨I.ok, fun c o e x => ?_, fun c x => ?_, fun c z => let ⟨o, e⟩ := I.zin c z; ⟨o, kz c o z e⟩, I.os, I.bare, I.zx, I.z0, Nat.le_trans I.tk htk⟩, fun c o hc e => (hs.2 c hc).trans e, fun _ z => z, fun _ z => .inl z, fun _ _ _ e => e⟩
  · exact (hs.2 c (fun q => by rw [q, (L.nb b fb).1] at e; cases e)).trans (I.base c o e x)
  · by_cases q : c = b
    · exact absurd (q ▸ x) (L.nb b fb).2
    · obtain ⟨o, e⟩ := I.xs c x; exact ⟨o, (hs.2 c q).trans e⟩
theorem ns_cell {c : Addr} {w : Option Value} {m : Str → Option Value} (hc : h.IsCell c w) (ns : h.Ns env.locals m) : c ≠ env.locals := fun q => by
  obtain ⟨o, e1, d1⟩ := hc
  obtain ⟨o', es, ep, e2, d2, _⟩ := ns
  rw [q, e2] at e1; cases e1; rw [d1] at d2; cases d2
theorem Loc.store' {x : Str} {v : Value} {sv : SV} {a : Addr} (I : Inv W Z s) (L : Loc W Z s.heap env ρ α) (E : EnvOk env sc) (hk : Kd sc x)
    (r : SRep Z s.heap a v sv) (hf : ∀ l, sv = .own l → ¬ Z a ∧ W.h₀.get? a = none ∧ ¬ W.X a ∧ (∀ b, l.place = some b → a = b) ∧ ∀ y l', y ≠ x → ρ y = some (.own l') → α y ≠ a)
    {Q : Unit → Shared → Prop} (h : ∀ s' c, FOwn env ρ α c → (sc.names.lookup x = some .local → c = env.locals) → Step W (.addrs (· = c)) Z s Z s' → (∀ b, FOwn env (ρ.set x sv) (setA α x a) b → FOwn env ρ α b ∨ ((∃ l, sv = .own l) ∧ b = a)) → Loc W Z s'.heap env (ρ.set x sv) (setA α x a) → Q () s') :
    wpAny W.M A (storeName env x v) Q E' s := by
  obtain ⟨m, ns, hv⟩ := L.ns
  rcases hk with hk | ⟨hk, hne⟩
  · have k : env.kindOf x = some .local := (E.kind x).trans hk
    refine wpAny_storeName_local k ns (fun h' ns' hs => h _ env.locals (.inl rfl) (fun _ => rfl) (store_step I L (.inl rfl) hs) store_fo (store_loc L (.inl rfl) hv r hf hs ns' (fun y w hy aw => ?_) (.inl ⟨k, by simp⟩) (fun y c hc => ?_) ?_)) (by rw [E.kfn]; rfl)
    · rcases aw with ⟨k', e⟩ | ⟨k', c, hc, e⟩ | aw
      · exact .inl ⟨k', by simpa [hy] using e⟩
      · exact .inr (.inl ⟨k', c, hc, e.sameBut hs (ns_cell e ns)⟩)
      · exact .inr (.inr aw)
    · obtain ⟨w, hw⟩ := L.cell y c hc; exact ⟨w, hw.sameBut hs (ns_cell hw ns)⟩
    · rintro vs ⟨n, e⟩; obtain ⟨o', es, ep, e2, d2, _⟩ := ns; rw [e2] at e; cases e; cases d2
  · have k : env.kindOf x = some .cell := (E.kind x).trans hk
    obtain ⟨c, hc⟩ := E.cells x (.inl hk)
    obtain ⟨v₀, hv₀⟩ := L.cell x c hc
    refine wpAny_storeName_cell E.kfn k hc hv₀ (fun h' hc' hs => h _ c (.inr (.inl ⟨x, hne, hc⟩)) (fun q => by rw [hk] at q; cases q) (store_step (tk := s.toks) I L (.inr (.inl ⟨x, hne, hc⟩)) hs) store_fo (store_loc L (.inr (.inl ⟨x, hne, hc⟩)) hv r hf hs (ns.sameBut hs (ns_cell hv₀ ns).symm) (fun y w hy aw => ?_) (.inr (.inl ⟨.inl k, c, hc, hc'⟩)) (fun y c' hy => ?_) ?_))
    · rcases aw with ⟨k', e⟩ | ⟨k', c', hc'', e⟩ | aw
      · exact .inl ⟨k', e⟩
      · exact .inr (.inl ⟨k', c', hc'', e.sameBut hs fun q => hy (L.cinj y x c (q ▸ hc'') hc)⟩)
      · exact .inr (.inr aw)
    · by_cases q : c' = c
      · exact ⟨_, q ▸ hc'⟩
      · obtain ⟨w, hw⟩ := L.cell y c' hy; exact ⟨w, hw.sameBut hs q⟩
    · rintro vs ⟨n, e⟩; obtain ⟨o, e1, d1⟩ := hv₀; rw [e1] at e; cases e; cases d1
theorem Loc.store {x : Str} {v : Value} {sv : SV} {a : Addr} (I : Inv W Z s) (L : Loc W Z s.heap env ρ α) (E : EnvOk env sc) (hk : Kd sc x)
    (r : SRep Z s.heap a v sv) (hf : ∀ l, sv = .own l → ¬ Z a ∧ W.h₀.get? a = none ∧ ¬ W.X a ∧ (∀ b, l.place = some b → a = b) ∧ ∀ y l', y ≠ x → ρ y = some (.own l') → α y ≠ a)
    {Q : Unit → Shared → Prop} (h : ∀ s', Step W (.addrs (FOwn env ρ α)) Z s Z s' → (∀ b, FOwn env (ρ.set x sv) (setA α x a) b → FOwn env ρ α b ∨ ((∃ l, sv = .own l) ∧ b = a)) → Loc W Z s'.heap env (ρ.set x sv) (setA α x a) → Q () s') :
    wpAny W.M A (storeName env x v) Q E' s :=
  L.store' I E hk r hf fun s' c fc _ p fo l => h s' (p.mono (fun b e => .inl (by rw [show b = c from e]; exact fc)) fun _ h => h.elim) fo l
end
end Mine
end
section
set_option linter.unusedVariables false
namespace Mine
section
variable {W : Wd} {Z Z' Z₁ : AddrSet} {s s' s₁ : Shared} {env : Env} {sc : Scope} {ρ : Slots} {α : Str → Addr} {A : Around} {d : Nat}
noncomputable def Gives (W : Wd) (A : Around) (Z : AddrSet) (s : Shared) (t : Sem Value) (av : AV) : Prop :=
  ∀ (Q : Value → Shared → Prop) (E' : Value → Shared → Prop), (∀ rv s' Z', Step W .none Z s Z' s' → RepV Z' s'.heap rv av → Q rv s') → wpAny W.M A t Q E' s
noncomputable def GivesB (W : Wd) (A : Around) (Z : AddrSet) (s : Shared) (t : Sem Bool) (b : Bool) : Prop :=
  ∀ (Q : Bool → Shared → Prop) (E' : Value → Shared → Prop), (∀ s' Z', Step W .none Z s Z' s' → Q b s') → wpAny W.M A t Q E' s
noncomputable def DenP (W : Wd) (d : Nat) (sc : Scope) (e : Expr) (f : Slots → Option AV) : Prop :=
  ∀ (A : Around) (env : Env) (Z : AddrSet) (s : Shared) (ρ : Slots) (α : Str → Addr) (av : AV), Room A d → EnvOk env sc → Inv W Z s → Loc W Z s.heap env ρ α → f ρ = some av → Gives W A Z s (eval e env) av
noncomputable def DenT (W : Wd) (d : Nat) (sc : Scope) (e : Expr) (f : Slots → Option Bool) : Prop :=
  ∀ (A : Around) (env : Env) (Z : AddrSet) (s : Shared) (ρ : Slots) (α : Str → Addr) (b : Bool), Room A d → EnvOk env sc → Inv W Z s → Loc W Z s.heap env ρ α → f ρ = some b → GivesB W A Z s (isTrue e env (eval e env)) b
theorem bindO {β γ : Type} {x : Option β} {f : β → Option γ} {c : γ} (h : (x >>= f) = some c) : ∃ b, x = some b ∧ f b = some c := by
  cases x with
  | none => cases h
  | some b => exact ⟨b, rfl, h⟩
theorem Gives.val (I : Inv W Z s) {t : Sem Value} {av : AV} (h : ∀ (Q : Value → Shared → Prop) E', (∀ v tk, RepV Z s.heap v av → Q v { s with toks := tk }) → wpAny W.M A t Q E' s) : Gives W A Z s t av :=
  fun Q E' q => wpAny_with_toks (Nat.le_refl _) (h _ _ fun v tk r htk => q v _ Z (.toks I tk htk) r)
theorem den_int (i : Int) (k : Nat) (pos : Pos) : DenP W d sc (.Constant (.int i) k pos) fun _ => some (.int i) := by
  intro A env Z s ρ α av hr hE I L hf; cases hf
  exact .val I fun Q E' q => wpAny_Constant_int (q _ _ (.int _ _))
theorem den_str (x : Str) (k : Nat) (pos : Pos) : DenP W d sc (.Constant (.str x) k pos) fun _ => some (.str x) := by
  intro A env Z s ρ α av hr hE I L hf; cases hf
  exact .val I fun Q E' q => wpAny_Constant_str (q _ _ (.str _ _))
theorem den_bytes (x : List UInt8) (k : Nat) (pos : Pos) : DenP W d sc (.Constant (.bytes x) k pos) fun _ => some (.bytes x.toArray) := by
  intro A env Z s ρ α av hr hE I L hf; cases hf
  exact .val I fun Q E' q => (show wpAny _ _ (mkTextBytes x.toArray) _ _ _ from fun _ _ _ => q _ _ (.bytes _ _))
theorem den_none (k : Nat) (pos : Pos) : DenP W d sc (.Constant .none k pos) fun _ => some .none := by
  intro A env Z s ρ α av hr hE I L hf; cases hf
  exact .val I fun Q E' q => wpAny_Constant_none (q _ s.toks .none)
theorem den_bool (b : Bool) (k : Nat) (pos : Pos) : DenP W d sc (.Constant (.bool b) k pos) fun _ => some (.bool b) := by
  intro A env Z s ρ α av hr hE I L hf; cases hf
  exact .val I fun Q E' q => wpAny_Constant_bool (q _ s.toks (.bool b))
-- names
noncomputable def getV (ρ : Slots) (x : Str) : Option AV := match ρ x with | some (.val v) => some v | _ => none
theorem getV_eq {x : Str} {av : AV} (h : getV ρ x = some av) : ρ x = some (.val av) := by
  unfold getV at h
  split at h
  · cases h; assumption
  · cases h
theorem den_name (x : Str) (pos : Pos) (h1 : (x == ("__debug__" : Str)) = false) (h2 : isPh x = false) : DenP W d sc (.Name x pos) fun ρ => getV ρ x := by
  intro A env Z s ρ α av hr hE I L hf
  exact .val I fun Q E' q => wpAny_Name (L.load hE (getV_eq hf) (fun v r => q v s.toks r) h2) h1
noncomputable def Wd.Glob (W : Wd) (x : Str) (v : Value) : Prop := nsIn W.K mainGlobals x = some (some v) ∨ (nsIn W.K mainGlobals x = some none ∧ bootBuiltins x = some v ∧ x ≠ "__name__")
theorem load_glob {x : Str} {pos : Pos} {v : Value} {Q : Value → Shared → Prop} {E' : Value → Shared → Prop} (hE : EnvOk env sc) (I : Inv W Z s) (hg : W.Glob x v) (hk : sc.names.lookup x = some .globalImplicit) (h1 : (x == ("__debug__" : Str)) = false) (q : Q v s) :
    wpAny W.M A (eval (.Name x pos) env) Q E' s := by
  refine Calls.Name_function_global hE.kfn ((hE.kind x).trans hk) ?_ h1
  rcases hg with e | ⟨e, hb, hn⟩
  · exact Calls.loadGlobal_global (hE.globals ▸ I.g) (mg_of I.ok.kin I.ok.g e) q
  · exact Calls.loadGlobal_builtin (hE.globals ▸ I.g) (mg_none_of I.ok.kin I.ok.g e) (hE.builtins ▸ I.b) ((I.ok.builtins x hn).trans hb) q
theorem den_glob {x : Str} {pos : Pos} {v : Value} (hg : W.Glob x v) (hk : sc.names.lookup x = some .globalImplicit) (h1 : (x == ("__debug__" : Str)) = false) : DenP W d sc (.Name x pos) fun _ => some (.raw v) := by
  intro A env Z s ρ α av hr hE I L hf; cases hf
  exact .val I fun Q E' q => load_glob hE I hg hk h1 (q v s.toks (.raw v))
-- operators
noncomputable def repStr (x : Str) (n : Int) : Str := ⟨(List.replicate n.toNat x.cps.toList).flatten.toArray⟩
noncomputable def AV.int? : AV → Option Int
  | .int i => some i
  | _ => Option.none
noncomputable def AV.str? : AV → Option Str
  | .str i => some i
  | _ => Option.none
noncomputable def AV.lst? : AV → Option (List AV)
  | .lst i => some i
  | _ => Option.none
theorem int?_eq {a : AV} {i : Int} (e : a.int? = some i) : a = .int i := by cases a <;> cases e; rfl
theorem str?_eq {a : AV} {i : Str} (e : a.str? = some i) : a = .str i := by cases a <;> cases e; rfl
theorem lst?_eq {a : AV} {i : List AV} (e : a.lst? = some i) : a = .lst i := by cases a <;> cases e; rfl
theorem int?_rep {h : Heap} {v : Value} {a : AV} {i : Int} (e : a.int? = some i) (r : RepV Z h v a) : ∃ t, v = .int i t := (int?_eq e ▸ r).int'
theorem str?_rep {h : Heap} {v : Value} {a : AV} {i : Str} (e : a.str? = some i) (r : RepV Z h v a) : ∃ t, v = .str i t := (str?_eq e ▸ r).str'
theorem lst?_rep {h : Heap} {v : Value} {a : AV} {l : List AV} (e : a.lst? = some l) (r : RepV Z h v a) : ∃ a vs, v = .ref a ∧ Z a ∧ h.IsList a vs.toArray ∧ RepVs Z h vs l := (lst?_eq e ▸ r).lst'
theorem iteO {β : Type} {p : Prop} [Decidable p] {x : Option β} {c : β} (h : (if p then x else none) = some c) : p ∧ x = some c := by
  by_cases hp : p
  · rw [if_pos hp] at h; exact ⟨hp, h⟩
  · rw [if_neg hp] at h; cases h
noncomputable def addA : AV → AV → Option AV
  | .int a, y => y.int? >>= fun b => some (.int (a + b))
  | .str x, y => y.str? >>= fun y => if x.length + y.length ≤ 16777216 then some (.str (x ++ y)) else none
  | .lst x, y => y.lst? >>= fun y => if x.length + y.length ≤ 16777216 then some (.lst (x ++ y)) else none
  | _, _ => none
noncomputable def multA : AV → AV → Option AV
  | .int a, y => y.int? >>= fun b => if a.natAbs < 1073741824 ∧ b.natAbs < 1073741824 then some (.int (a * b)) else none
  | .str x, y => y.int? >>= fun n => if n < 16777216 ∧ -16777216 < n ∧ x.length * n.toNat ≤ 16777216 then some (.str (repStr x n)) else none
  | .lst x, y => y.int? >>= fun n => if n < 16777216 ∧ -16777216 < n ∧ x.length * n.toNat ≤ 16777216 then some (.lst (List.replicate n.toNat x).flatten) else none
  | _, _ => none
noncomputable def binA : Operator → AV → AV → Option AV
  | .Add, x, y => addA x y
  | .Sub, x, y => x.int? >>= fun a => y.int? >>= fun b => some (.int (a - b))
  | .FloorDiv, x, y => x.int? >>= fun a => y.int? >>= fun b => if b ≠ 0 ∧ b.natAbs < 1073741824 then some (.int (a.fdiv b)) else none
  | .Mod, x, y => x.int? >>= fun a => y.int? >>= fun b => if b ≠ 0 then some (.int (a.fmod b)) else none
  | .Mult, x, y => multA x y
  | _, _, _ => none
end
end Mine
end
section
set_option linter.unusedVariables false
namespace Mine
section
variable {W : Wd} {Z Z' Z₁ : AddrSet} {s s' s₁ : Shared} {env : Env} {sc : Scope} {ρ : Slots} {α : Str → Addr} {A : Around} {d : Nat}
theorem push_keep (h : Heap) (o : Obj) : ∀ b o', h.get? b = some o' → (h.push o).get? b = some o' := fun _ _ e => Heap.get?_push_of_some o e
theorem push_none (h : Heap) : h.get? h.objs.size = none := by
  cases e : h.get? h.objs.size with
  | none => rfl
  | some o => exact absurd (Heap.lt_size e) (Nat.lt_irrefl _)
theorem Gives.newLst (I : Inv W Z s) {t : Sem Value} {vs : List Value} {l : List AV} {n : Nat} (r : RepVs Z s.heap vs l)
    (h : ∀ (Q : Value → Shared → Prop) E', (∀ tk, Q (.ref s.heap.objs.size) { s with heap := s.heap.push { cls := .type "list", data := .seq vs.toArray n }, toks := tk }) → wpAny W.M A t Q E' s) : Gives W A Z s t (.lst l) :=
  fun Q E' q => wpAny_with_toks (Nat.le_refl _) (h _ _ fun tk (htk : s.toks ≤ tk) => by
    have hg := Heap.get?_push_size s.heap (o := { cls := .type "list", data := .seq vs.toArray n }) rfl
    exact q _ _ _ (.grow1 I (push_keep _ _) (push_none _) hg) (.lst (.inr rfl) ⟨_, hg, rfl, rfl, n, rfl⟩ (r.mono (fun _ z => .inl z) fun a o _ e => push_keep _ _ _ _ e)))
theorem Gives.newTup (I : Inv W Z s) {t : Sem Value} {vs : List Value} {l : List AV} {n : Nat} (r : RepVs Z s.heap vs l)
    (h : ∀ (Q : Value → Shared → Prop) E', (∀ tk, Q (.ref s.heap.objs.size) { s with heap := s.heap.push { cls := .type "tuple", data := .seq vs.toArray n }, toks := tk }) → wpAny W.M A t Q E' s) : Gives W A Z s t (.tup l) :=
  fun Q E' q => wpAny_with_toks (Nat.le_refl _) (h _ _ fun tk (htk : s.toks ≤ tk) => by
    have hg := Heap.get?_push_size s.heap (o := { cls := .type "tuple", data := .seq vs.toArray n }) rfl
    exact q _ _ _ (.grow1 I (push_keep _ _) (push_none _) hg) (.tup (.inr rfl) ⟨_, hg, rfl, n, rfl⟩ (r.mono (fun _ z => .inl z) fun a o _ e => push_keep _ _ _ _ e)))
theorem intBits_small {a : Int} (h : a.natAbs < 1073741824) : Builtin.Int.intBits a ≤ 64 := by
  unfold Builtin.Int.intBits
  split
  · (first | lia | omega)
  · have : a.natAbs.log2 < 30 := by
      rw [Nat.log2_lt (by rename_i q; intro e; exact q (by simpa using e))]; (first | lia | omega)
    (first | lia | omega)
theorem repStr_one (x : Str) : repStr x 1 = x := by
  obtain ⟨c⟩ := x
  simp [repStr]
theorem foldl_app (l : List (Array Nat)) (acc : Array Nat) : l.foldl (· ++ ·) acc = acc ++ (l.map Array.toList).flatten.toArray := by
  induction l generalizing acc with
  | nil => simp
  | cons a r ih => rw [List.foldl_cons, ih]; apply Array.toList_inj.mp; simp
theorem repStr_eq (x : Str) (n : Int) : (⟨(List.replicate n.toNat x.cps).foldl (· ++ ·) #[]⟩ : Str) = repStr x n := by
  rw [foldl_app]; simp [repStr]
theorem repStr_length (x : Str) (n : Int) : (repStr x n).length = n.toNat * x.length := by
  simp [repStr, Str.length]
theorem repStr_neg (x : Str) {n : Int} (h : n < 1) : repStr x n = Str.empty := by
  have : n.toNat = 0 := by (first | lia | omega)
  simp [repStr, this, Str.empty]
theorem foldl_appV (l : List (Array Value)) (acc : Array Value) : l.foldl (· ++ ·) acc = acc ++ (l.map Array.toList).flatten.toArray := by
  induction l generalizing acc with
  | nil => simp
  | cons a r ih => rw [List.foldl_cons, ih]; apply Array.toList_inj.mp; simp
theorem RepVs.rep {h : Heap} {vs : List Value} {l : List AV} (r : RepVs Z h vs l) : ∀ n : Nat, RepVs Z h (List.replicate n vs).flatten (List.replicate n l).flatten
  | 0 => .nil
  | n + 1 => by simp only [List.replicate_succ, List.flatten_cons]; exact r.append (r.rep n)
theorem mul_list_raw {a : Addr} {vs : List Value} {n : Int} {u : Tok} (hl : s.heap.IsList a vs.toArray) (h1 : n < 16777216) (h2 : -16777216 < n) (h3 : vs.length * n.toNat ≤ 16777216) {Q : Value → Shared → Prop} {E' : Value → Shared → Prop}
    (q : ∀ tk, Q (.ref s.heap.objs.size) { s with heap := s.heap.push { cls := .type "list", data := .seq (List.replicate n.toNat vs).flatten.toArray 0 }, toks := tk }) : wpAny W.M A (binaryOp .Mult (.ref a) (.int n u)) Q E' s := by
  obtain ⟨⟨cls, dd, data, sl⟩, ho, hc, k, hd⟩ := hl
  simp only at hc hd
  subst hc hd
  refine wpAny_binaryOp_repeat_ref (T := "list") (U := "int") (by decide) ⟨_, ho, rfl⟩ (fun s' => typeIs_int s' n u) noFill_list_mul F.fills_int_mul F.slot_int_rmul repeat_list F.slot_int_index.lookup
    (call_meets F.slot_int_rmul (typeIs_int s n u) F.entry_int_rmul (F.args_int_rmul_2 _ _) (lm_int_rmul_list_any n u a vs.toArray k dd sl)
      ⟨ho, rfl, ⟨_, ho, rfl⟩, call_meets F.slot_list_mul ⟨_, ho, rfl⟩ F.entry_list_mul (F.args_list_mul_2 _ _)
        (lm_list_mul_any a vs.toArray k dd sl n u (by simp [Builtin.List.listFitsIndex]; (first | lia | omega)) (by simp only [List.size_toArray]; (first | lia | omega)) (by simp only [Builtin.List.listTooLong, sizeLine, List.size_toArray]; simp; (first | lia | omega))) ⟨ho, ?_⟩⟩)
  have e : List.foldl (fun x1 x2 => x1 ++ x2) #[] (List.replicate (if vs.toArray.isEmpty = true then 0 else n.toNat) vs.toArray) = (List.replicate n.toNat vs).flatten.toArray := by
    rw [foldl_appV]
    cases vs with
    | nil => simp
    | cons v r => simp
  rw [e]
  exact q _
theorem mul_list_gives (I : Inv W Z s) {a : Addr} {vs : List Value} {l : List AV} {n : Int} {u : Tok} (hl : s.heap.IsList a vs.toArray) (r : RepVs Z s.heap vs l) (h1 : n < 16777216) (h2 : -16777216 < n) (h3 : vs.length * n.toNat ≤ 16777216) :
    Gives W A Z s (binaryOp .Mult (.ref a) (.int n u)) (.lst (List.replicate n.toNat l).flatten) :=
  .newLst (vs := (List.replicate n.toNat vs).flatten) (n := 0) I (r.rep _) fun Q E' q => mul_list_raw hl h1 h2 h3 q
theorem add_list_gives (I : Inv W Z s) {a b : Addr} {vs ws : List Value} {l m : List AV} (hl : s.heap.IsList a vs.toArray) (hb : s.heap.IsList b ws.toArray) (r : RepVs Z s.heap vs l) (r' : RepVs Z s.heap ws m) (hz : vs.length + ws.length ≤ 16777216) :
    Gives W A Z s (binaryOp .Add (.ref a) (.ref b)) (.lst (l ++ m)) := by
  obtain ⟨⟨cls, dd, data, sl⟩, ho, hc, k, hd⟩ := hl
  obtain ⟨⟨cls2, dd2, data2, sl2⟩, ho2, hc2, k2, hd2⟩ := hb
  simp only at hc hd hc2 hd2
  subst hc hd hc2 hd2
  refine .newLst (vs := vs ++ ws) (n := 0) I (r.append r') fun Q E' q => ?_
  refine concat_meets ⟨_, ho, rfl⟩ ⟨_, ho2, rfl⟩ noFill_list_add seq_list_add F.slot_list_add F.entry_list_add (F.args_list_add_2 _ _) (list_addW a b vs.toArray ws.toArray k k2 dd dd2 sl sl2 (by simpa [sizeLine] using hz)) ⟨ho, ho2, ?_⟩
  have e : vs.toArray ++ ws.toArray = (vs ++ ws).toArray := by simp
  rw [e]
  exact q _
theorem mul_str_gives (I : Inv W Z s) {x : Str} {n : Int} {t t' : Tok} (h1 : n < 16777216) (h2 : -16777216 < n) (h3 : x.length * n.toNat ≤ 16777216) : Gives W A Z s (binaryOp .Mult (.str x t) (.int n t')) (.str (repStr x n)) := by
  refine .val I fun Q E' q => P.mul_str (by rw [decide_eq_false (by (first | lia | omega)), decide_eq_false (by (first | lia | omega))]; rfl) (fun p1 p2 => ?_) (fun p1 p2 => ?_) ?_
  · have hx : (x.length : Int) * n ≤ 16777216 := by
      have hn : (n.toNat : Int) = n := by (first | lia | omega)
      have := Int.ofNat_le.mpr h3
      rw [Int.natCast_mul, hn] at this
      exact this
    have : (x.length : Int) ≤ (2 ^ 63 - 1) / n := by
      rw [Int.le_ediv_iff_mul_le (by (first | lia | omega))]; (first | lia | omega)
    (first | lia | omega)
  · unfold Builtin.Str.tooLong; exact decide_eq_false (by unfold sizeLine; (first | lia | omega))
  · split
    · rename_i hn; rw [repStr_neg x hn] at q; exact ⟨by decide, q _ _ (.str _ _)⟩
    · split
      · rename_i hn ho
        have e : repStr x n = x := by
          rcases Bool.or_eq_true_iff.mp ho with ho | ho
          · rw [show n = 1 by simpa using ho]; exact repStr_one x
          · have hx : x.cps = #[] := by simpa [Str.length] using ho
            obtain ⟨c⟩ := x
            simp at hx
            subst hx
            simp [repStr]
        rw [e] at q; exact q _ s.toks (.str _ _)
      · rw [repStr_eq]
        exact ⟨by rw [repStr_length]; unfold sizeLine; rw [Nat.mul_comm]; exact h3, q _ _ (.str _ _)⟩
theorem addA_ok (I : Inv W Z s) {a b c : AV} {va vb : Value} (ra : RepV Z s.heap va a) (rb : RepV Z s.heap vb b) (h : addA a b = some c) : Gives W A Z s (binaryOp .Add va vb) c := by
  cases a with
  | int i =>
    obtain ⟨j, hj, h⟩ := bindO h; cases h
    obtain ⟨t, rfl⟩ := ra.int'; obtain ⟨t', rfl⟩ := int?_rep hj rb
    exact .val I fun Q E' q => add_int (q _ _ (.int _ _))
  | str x =>
    obtain ⟨y, hj, h⟩ := bindO h; obtain ⟨hc, h⟩ := iteO h; cases h
    obtain ⟨t, rfl⟩ := ra.str'; obtain ⟨t', rfl⟩ := str?_rep hj rb
    exact .val I fun Q E' q => add_str (fun t' tk => q _ _ (.str _ _)) hc
  | lst x =>
    obtain ⟨y, hj, h⟩ := bindO h; obtain ⟨hc, h⟩ := iteO h; cases h
    obtain ⟨a, vs, rfl, z1, hl, rl⟩ := ra.lst'; obtain ⟨a', vs', rfl, z2, hm, rm⟩ := lst?_rep hj rb
    exact add_list_gives I hl hm rl rm (by rw [rl.length, rm.length]; exact hc)
  | _ => cases h
theorem multA_ok (I : Inv W Z s) {a b c : AV} {va vb : Value} (ra : RepV Z s.heap va a) (rb : RepV Z s.heap vb b) (h : multA a b = some c) : Gives W A Z s (binaryOp .Mult va vb) c := by
  cases a with
  | int i =>
    obtain ⟨j, hj, h⟩ := bindO h; obtain ⟨hc, h⟩ := iteO h; cases h
    obtain ⟨t, rfl⟩ := ra.int'; obtain ⟨t', rfl⟩ := int?_rep hj rb
    exact .val I fun Q E' q => mul_int (q _ _ (.int _ _)) (.of_left (intBits_small hc.1))
  | str x =>
    obtain ⟨y, hj, h⟩ := bindO h; obtain ⟨hc, h⟩ := iteO h; cases h
    obtain ⟨t, rfl⟩ := ra.str'; obtain ⟨t', rfl⟩ := int?_rep hj rb
    exact mul_str_gives I hc.1 hc.2.1 hc.2.2
  | lst x =>
    obtain ⟨y, hj, h⟩ := bindO h; obtain ⟨hc, h⟩ := iteO h; cases h
    obtain ⟨a, vs, rfl, z1, hl, rl⟩ := ra.lst'; obtain ⟨t', rfl⟩ := int?_rep hj rb
    exact mul_list_gives I hl rl hc.1 hc.2.1 (by rw [rl.length]; exact hc.2.2)
  | _ => cases h
theorem binA_ok (I : Inv W Z s) {op : Operator} {a b c : AV} {va vb : Value} (ra : RepV Z s.heap va a) (rb : RepV Z s.heap vb b) (h : binA op a b = some c) : Gives W A Z s (binaryOp op va vb) c := by
  have two : ∀ {f : Int → Int → Option AV}, (a.int? >>= fun i => b.int? >>= fun j => f i j) = some c → ∃ i j t t', va = .int i t ∧ vb = .int j t' ∧ f i j = some c := fun h => by
    obtain ⟨i, hi, h⟩ := bindO h
    obtain ⟨j, hj, h⟩ := bindO h
    obtain ⟨t, e⟩ := int?_rep hi ra
    obtain ⟨t', e'⟩ := int?_rep hj rb
    exact ⟨i, j, t, t', e, e', h⟩
  cases op with
  | Add => exact addA_ok I ra rb h
  | Mult => exact multA_ok I ra rb h
  | Sub => obtain ⟨i, j, t, t', rfl, rfl, h⟩ := two h; cases h; exact .val I fun Q E' q => sub_int (q _ _ (.int _ _))
  | FloorDiv => obtain ⟨i, j, t, t', rfl, rfl, h⟩ := two h; obtain ⟨hc, h⟩ := iteO h; cases h; exact .val I fun Q E' q => floordiv_int hc.1 (q _ _ (.int _ _)) (.inl (PyProof.noPylong_small hc.2))
  | Mod => obtain ⟨i, j, t, t', rfl, rfl, h⟩ := two h; obtain ⟨hc, h⟩ := iteO h; cases h; exact .val I fun Q E' q => mod_int' hc (q _ _ (.int _ _))
  | _ => cases h
theorem den_bin {l r : Expr} {op : Operator} {pos : Pos} {f g : Slots → Option AV} (hl : DenP W d sc l f) (hr : DenP W d sc r g) :
    DenP W d sc (.BinOp l op r pos) fun ρ => f ρ >>= fun a => g ρ >>= fun b => binA op a b := by
  intro A env Z s ρ α av R hE I L hf Q E' q
  obtain ⟨a, ha, hf⟩ := bindO hf
  obtain ⟨b, hb, hf⟩ := bindO hf
  exact wpAny_BinOp (hl A env Z s ρ α a R hE I L ha _ _ fun va s₁ Z₁ p₁ r₁ => hr A env Z₁ s₁ ρ α b R hE p₁.inv (L.step0 p₁) hb _ _ fun vb s₂ Z₂ p₂ r₂ =>
    binA_ok p₂.inv (p₂.rep0 r₁) r₂ hf _ _ fun v s₃ Z₃ p₃ r₃ => q v s₃ Z₃ (p₁.tr (p₂.tr p₃)) r₃)
end
end Mine
end
section
open PySem PySem.W PyProof.Rows PySem.SeqAt
set_option linter.unusedVariables false
namespace Mine
section
variable {W : Wd} {Z Z' Z₁ : AddrSet} {s s' s₁ : Shared} {env : Env} {sc : Scope} {ρ : Slots} {α : Str → Addr} {A : Around} {d : Nat}
noncomputable def baseA : AV → Bool
  | .none => true
  | .bool _ => true
  | .int _ => true
  | .str _ => true
  | _ => false
noncomputable def dat : Nat → AV → Bool
  | 0, a => baseA a
  | n + 1, a => match a with
    | .tup l => l.all (dat n)
    | .lst l => l.all (dat n)
    | a => baseA a
theorem RepVs.get2 {h : Heap} {vs ws : List Value} {l : List AV} (r : RepVs Z h vs l) (q : RepVs Z h ws l) {j : Nat} (h1 : j < vs.length) (h2 : j < ws.length) : ∃ a ∈ l, RepV Z h vs[j] a ∧ RepV Z h ws[j] a := by
  have hj : j < l.length := by rw [← r.length]; exact h1
  obtain ⟨v, e1, r1⟩ := r.get (List.getElem?_eq_getElem hj)
  obtain ⟨w, e2, r2⟩ := q.get (List.getElem?_eq_getElem hj)
  rw [List.getElem?_eq_getElem h1] at e1
  rw [List.getElem?_eq_getElem h2] at e2
  cases e1; cases e2
  exact ⟨_, List.getElem_mem hj, r1, r2⟩
theorem all_true (n : Nat) : (List.range n).all (fun _ => true) = true := by rw [List.all_eq_true]; exact fun _ _ => rfl
structure Same3 (A : Around) (s : Shared) (v w : Value) : Prop where
  eq : EqAt A s v w true
  rc : RcAt A s v w true
  ne : RcNeAt A s v w false
theorem base3 {A : Around} {a : AV} {v w : Value} (hd : baseA a = true) (r : RepV Z s.heap v a) (q : RepV Z s.heap w a) : Same3 A s v w := by
  cases a with
  | none => rw [r.none', q.none']; exact ⟨EqAt.same _, RcAt.none_none, RcNeAt.none_none⟩
  | bool b =>
    rw [r.bool', q.bool']
    have h1 := RcAt.bool_bool (A := A) (s := s) b b; have h2 := RcNeAt.bool_bool (A := A) (s := s) b b
    rw [beq_self_eq_true] at h1 h2
    exact ⟨EqAt.same _, h1, h2⟩
  | int i =>
    obtain ⟨t, rfl⟩ := r.int'; obtain ⟨u, rfl⟩ := q.int'
    have h0 := EqAt.int_int (A := A) (s := s) i t i u; have h1 := RcAt.int_int (A := A) (s := s) i t i u; have h2 := RcNeAt.int_int (A := A) (s := s) i t i u
    rw [beq_self_eq_true] at h0 h1 h2
    exact ⟨h0, h1, h2⟩
  | str i =>
    obtain ⟨t, rfl⟩ := r.str'; obtain ⟨u, rfl⟩ := q.str'
    have h0 := EqAt.str_str (A := A) (s := s) i t i u; have h1 := RcAt.str_str (A := A) (s := s) i t i u; have h2 := RcNeAt.str_str (A := A) (s := s) i t i u
    rw [beq_self_eq_true] at h0 h1 h2
    exact ⟨h0, h1, h2⟩
  | _ => cases hd
theorem tup3 {a1 a2 : Addr} {vs ws : List Value} (h1 : IsTup s.heap a1 vs.toArray) (h2 : IsTup s.heap a2 ws.toArray) (hl : vs.length = ws.length) (hu : A.units < cLine)
    (he : ∀ j, (g1 : j < vs.toArray.size) → (g2 : j < ws.toArray.size) → EqAt A.in1 s vs.toArray[j] ws.toArray[j] true) : Same3 A s (.ref a1) (.ref a2) := by
  have q1 := RcAt.tuples (A := A) (e := fun _ => true) h1 h2 hu he
  have q2 := RcNeAt.tuples (A := A) (e := fun _ => true) h1 h2 hu he
  simp only [List.size_toArray, hl, all_true, beq_self_eq_true, Bool.and_self, Bool.and_true, Nat.min_self, Bool.not_true] at q1 q2
  refine ⟨?_, q1, q2⟩
  by_cases e : a1 = a2
  · subst e; exact EqAt.same _
  · exact EqAt.of_refs e q1
theorem lst3 {a1 a2 : Addr} {vs ws : List Value} (h1 : s.heap.IsList a1 vs.toArray) (h2 : s.heap.IsList a2 ws.toArray) (hl : vs.toArray.size = ws.toArray.size) (hu : A.units < cLine)
    (he : ∀ j, (g1 : j < vs.toArray.size) → (g2 : j < ws.toArray.size) → EqAt A.in1 s vs.toArray[j] ws.toArray[j] true) : Same3 A s (.ref a1) (.ref a2) := by
  have q1 := RcAt.lists (A := A) (e := fun _ => true) h1 h2 hl hu he
  have q2 := RcNeAt.lists (A := A) (e := fun _ => true) h1 h2 hl hu he
  simp only [all_true, Bool.not_true] at q1 q2
  refine ⟨?_, q1, q2⟩
  by_cases e : a1 = a2
  · subst e; exact EqAt.same _
  · exact EqAt.of_refs e q1
theorem same3 (n : Nat) {A : Around} {a : AV} {v w : Value} (hd : dat n a = true) (r : RepV Z s.heap v a) (q : RepV Z s.heap w a) (hu : A.units + n + 1 < cLine) : Same3 A s v w := by
  induction n generalizing A a v w with
  | zero => exact base3 hd r q
  | succ n ih =>
    have el : ∀ {l : List AV} {vs ws : List Value}, l.all (dat n) = true → RepVs Z s.heap vs l → RepVs Z s.heap ws l → ∀ j, (g1 : j < vs.toArray.size) → (g2 : j < ws.toArray.size) → EqAt A.in1 s vs.toArray[j] ws.toArray[j] true := fun hd r1 r2 j g1 g2 => by
      obtain ⟨a, ha, ra, qa⟩ := r1.get2 r2 g1 g2
      exact (ih (List.all_eq_true.mp hd a ha) ra qa (by show A.units + 1 + n + 1 < cLine; (first | lia | omega))).eq
    cases a with
    | tup l =>
      obtain ⟨a1, vs, rfl, _, h1, r1⟩ := r.tup'
      obtain ⟨a2, ws, rfl, _, h2, r2⟩ := q.tup'
      exact tup3 h1 h2 (r1.length.trans r2.length.symm) (by (first | lia | omega)) (el hd r1 r2)
    | lst l =>
      obtain ⟨a1, vs, rfl, _, h1, r1⟩ := r.lst'
      obtain ⟨a2, ws, rfl, _, h2, r2⟩ := q.lst'
      exact lst3 h1 h2 (r1.length.trans r2.length.symm) (by (first | lia | omega)) (el hd r1 r2)
    | _ => refine base3 ?_ r q; exact hd
end
end Mine
end
section
open PySem PySem.W PyProof.Rows PySem.SeqAt
set_option linter.unusedVariables false
namespace Mine
section
variable {W : Wd} {Z Z' Z₁ : AddrSet} {s s' s₁ : Shared} {env : Env} {sc : Scope} {ρ : Slots} {α : Str → Addr} {A : Around} {d : Nat}
noncomputable def inStr (y x : Str) : Bool := !(Builtin.Str.occurrences x y 0 x.length 1).isEmpty
noncomputable def intsOf : List AV → Option (List Int)
  | [] => some []
  | .int i :: r => (intsOf r).map (i :: ·)
  | _ :: _ => none
noncomputable def isNoneA : AV → Option Bool
  | .none => some true
  | .bool _ => some false
  | .int _ => some false
  | .str _ => some false
  | .lst _ => some false
  | _ => none
noncomputable def eqI (i : Int) : AV → Option Bool
  | .int j => some (i == j)
  | .str _ => some false
  | .none => some false
  | _ => none
noncomputable def eqS (x : Str) : AV → Option Bool
  | .int _ => some false
  | .str y => some (x == y)
  | .none => some false
  | _ => none
noncomputable def eqN : AV → Option Bool
  | .int _ => some false
  | .str _ => some false
  | .none => some true
  | _ => none
noncomputable def eqB (p : Bool) : AV → Option Bool
  | .bool q => some (p == q)
  | _ => none
open Classical in
noncomputable def eqL (a : List AV) (y : AV) : Option Bool := y.lst? >>= fun b => if a = b ∧ dat 8 (.lst a) = true then some true else if a.length ≠ b.length then some false else none
open Classical in
noncomputable def sameA (a b : AV) : Option Bool := if a = b ∧ dat 8 a = true then some true else none
noncomputable def eqA : AV → AV → Option Bool
  | .int a, y => eqI a y
  | .str a, y => eqS a y
  | .bool a, y => eqB a y
  | .none, y => eqN y
  | .lst a, y => eqL a y
  | a, b => sameA a b
noncomputable def inA : AV → AV → Option Bool
  | .str y, b => b.str? >>= fun x => some (inStr y x)
  | .int i, b => b.lst? >>= fun l => (intsOf l).map fun ns => decide (i ∈ ns)
  | _, _ => none
noncomputable def ofNone (r : Option Bool) : AV → Option Bool
  | .none => r
  | _ => none
noncomputable def int2 (a b : AV) (f : Int → Int → Bool) : Option Bool := a.int? >>= fun i => b.int? >>= fun j => some (f i j)
noncomputable def cmpA : CmpOp → AV → AV → Option Bool
  | .Eq, a, b => eqA a b
  | .NotEq, a, b => (eqA a b).map (!·)
  | .Lt, a, b => int2 a b fun a b => decide (a < b)
  | .LtE, a, b => int2 a b fun a b => decide (a ≤ b)
  | .Gt, a, b => int2 a b fun a b => decide (b < a)
  | .GtE, a, b => int2 a b fun a b => decide (b ≤ a)
  | .Is, a, b => ofNone (isNoneA a) b
  | .IsNot, a, b => ofNone ((isNoneA a).map (!·)) b
  | .In, a, b => inA a b
  | .NotIn, a, b => a.str? >>= fun y => b.str? >>= fun x => some (!inStr y x)
theorem eq_rc {Q : Value → Shared → Prop} {E' : Value → Shared → Prop} {v w : Value} {b : Bool} (h : RcAt A s v w b) (q : Q (.bool b) s) : wpAny W.M A (compareOp .Eq v w) Q E' s := h _ _ _ _ q
theorem ne_rc {Q : Value → Shared → Prop} {E' : Value → Shared → Prop} {v w : Value} {b : Bool} (h : RcNeAt A s v w b) (q : Q (.bool b) s) : wpAny W.M A (compareOp .NotEq v w) Q E' s := h _ _ _ _ q
noncomputable def Rc2 (A : Around) (s : Shared) (v w : Value) (c : Bool) : Prop := RcAt A s v w c ∧ RcNeAt A s v w (!c)
theorem eqI_rc {i : Int} {t : Tok} {b : AV} {vb : Value} {c : Bool} (rb : RepV Z s.heap vb b) (h : eqI i b = some c) : Rc2 A s (.int i t) vb c := by
  cases b with
  | int j => cases h; obtain ⟨t', rfl⟩ := rb.int'; exact ⟨RcAt.int_int _ _ _ _, RcNeAt.int_int _ _ _ _⟩
  | str y => cases h; obtain ⟨t', rfl⟩ := rb.str'; exact ⟨RcAt.int_str _ _ _ _, RcNeAt.int_str _ _ _ _⟩
  | none => cases h; rw [rb.none']; exact ⟨RcAt.int_none _ _, RcNeAt.int_none _ _⟩
  | _ => cases h
theorem eqS_rc {i : Str} {t : Tok} {b : AV} {vb : Value} {c : Bool} (rb : RepV Z s.heap vb b) (h : eqS i b = some c) : Rc2 A s (.str i t) vb c := by
  cases b with
  | int j => cases h; obtain ⟨t', rfl⟩ := rb.int'; exact ⟨RcAt.str_int _ _ _ _, RcNeAt.str_int _ _ _ _⟩
  | str y => cases h; obtain ⟨t', rfl⟩ := rb.str'; exact ⟨RcAt.str_str _ _ _ _, RcNeAt.str_str _ _ _ _⟩
  | none => cases h; rw [rb.none']; exact ⟨RcAt.str_none _ _, RcNeAt.str_none _ _⟩
  | _ => cases h
theorem eqN_rc {b : AV} {vb : Value} {c : Bool} (rb : RepV Z s.heap vb b) (h : eqN b = some c) : Rc2 A s .none vb c := by
  cases b with
  | int j => cases h; obtain ⟨t', rfl⟩ := rb.int'; exact ⟨RcAt.none_int _ _, RcNeAt.none_int _ _⟩
  | str y => cases h; obtain ⟨t', rfl⟩ := rb.str'; exact ⟨RcAt.none_str _ _, RcNeAt.none_str _ _⟩
  | none => cases h; rw [rb.none']; exact ⟨RcAt.none_none, RcNeAt.none_none⟩
  | _ => cases h
theorem eqB_rc {p : Bool} {b : AV} {vb : Value} {c : Bool} (rb : RepV Z s.heap vb b) (h : eqB p b = some c) : Rc2 A s (.bool p) vb c := by
  cases b with
  | bool q => cases h; rw [rb.bool']; exact ⟨RcAt.bool_bool _ _, RcNeAt.bool_bool _ _⟩
  | _ => cases h
theorem same_rc {a : AV} {va vb : Value} (hu : A.units + 50 < cLine) (hd : dat 8 a = true) (ra : RepV Z s.heap va a) (rb : RepV Z s.heap vb a) : Rc2 A s va vb true :=
  have h := same3 8 hd ra rb (A := A) (by (first | lia | omega))
  ⟨h.rc, h.ne⟩
theorem eqL_rc {l : List AV} {b : AV} {va vb : Value} {c : Bool} (hu : A.units + 50 < cLine) (ra : RepV Z s.heap va (.lst l)) (rb : RepV Z s.heap vb b) (h : eqL l b = some c) : Rc2 A s va vb c := by
  obtain ⟨m, hm, h⟩ := bindO h
  by_cases hc : l = m ∧ dat 8 (.lst l) = true
  · rw [if_pos hc] at h; cases h
    have := lst?_eq hm
    subst this
    exact same_rc hu hc.2 ra (hc.1 ▸ rb)
  · rw [if_neg hc] at h
    obtain ⟨hl, h⟩ := iteO h; cases h
    obtain ⟨a1, vs, rfl, _, h1, r1⟩ := ra.lst'
    obtain ⟨a2, ws, rfl, _, h2, r2⟩ := lst?_rep hm rb
    have hn : (vs.toArray.size != ws.toArray.size) = true := by rw [List.size_toArray, List.size_toArray, r1.length, r2.length]; exact bne_iff_ne.mpr hl
    exact ⟨RcAt.lists_lengths h1 h2 hn (by (first | lia | omega)), RcNeAt.lists_lengths h1 h2 hn (by (first | lia | omega))⟩
theorem sameA_rc {a b : AV} {va vb : Value} {c : Bool} (hu : A.units + 50 < cLine) (ra : RepV Z s.heap va a) (rb : RepV Z s.heap vb b) (h : sameA a b = some c) : Rc2 A s va vb c := by
  by_cases hc : a = b ∧ dat 8 a = true
  · rw [sameA, if_pos hc] at h; cases h
    exact same_rc hu hc.2 ra (hc.1 ▸ rb)
  · rw [sameA, if_neg hc] at h; cases h
theorem eqA_rc {a b : AV} {va vb : Value} {c : Bool} (hu : A.units + 50 < cLine) (ra : RepV Z s.heap va a) (rb : RepV Z s.heap vb b) (h : eqA a b = some c) : RcAt A s va vb c ∧ RcNeAt A s va vb (!c) := by
  cases a with
  | int i => obtain ⟨t, rfl⟩ := ra.int'; exact eqI_rc rb h
  | str i => obtain ⟨t, rfl⟩ := ra.str'; exact eqS_rc rb h
  | none => rw [ra.none']; exact eqN_rc rb h
  | bool i => rw [ra.bool']; exact eqB_rc rb h
  | lst l => exact eqL_rc hu ra rb h
  | _ => exact sameA_rc hu ra rb h
theorem isNone_rep {a : AV} {v : Value} {b : Bool} {h : Heap} (r : RepV Z h v a) (e : isNoneA a = some b) : (v == .none) = b := by
  cases a with
  | none => cases e; rw [r.none']; rfl
  | bool => cases e; rw [r.bool']; rfl
  | int => cases e; obtain ⟨t, rfl⟩ := r.int'; rfl
  | str => cases e; obtain ⟨t, rfl⟩ := r.str'; rfl
  | lst => cases e; obtain ⟨a, vs, rfl, _⟩ := r.lst'; rfl
  | _ => cases e
theorem ints_rep {h : Heap} {vs : List Value} {l : List AV} {ns : List Int} (r : RepVs Z h vs l) (e : intsOf l = some ns) : IntsAre vs ns := by
  induction l generalizing vs ns with
  | nil => cases e; rw [r.nil']; exact .nil
  | cons a l ih =>
    obtain ⟨v, ws, rfl, r, rs⟩ := r.cons'
    cases a with
    | int i =>
      obtain ⟨ns, hn, rfl⟩ := Option.map_eq_some_iff.mp e
      obtain ⟨t, rfl⟩ := r.int'
      exact .cons _ _ (ih rs hn)
    | _ => cases e
theorem in_ints {a : Addr} {vs : List Value} {ns : List Int} {i : Int} {t : Tok} {Q : Value → Shared → Prop} {E' : Value → Shared → Prop} (hl : s.heap.IsList a vs.toArray) (hi : IntsAre vs ns) (q : Q (.bool (decide (i ∈ ns))) s) :
    wpAny W.M A (compareOp .In (.int i t) (.ref a)) Q E' s := by
  have key : ∀ {vs : List Value} {ns : List Int}, IntsAre vs ns → vs.any (fun v => match v with | .int k _ => k == i | _ => false) = decide (i ∈ ns) := by
    intro vs ns h
    induction h with
    | nil => rfl
    | cons n t _ ih =>
      rw [List.any_cons, ih]
      by_cases e : n = i
      · subst e; simp
      · have e' : ¬ i = n := fun c => e c.symm
        simp [e, e']
  refine in_listAt (fun v => match v with | .int k _ => k == i | _ => false) hl (fun y hy => ?_) ?_
  · have hy' : y ∈ vs := by simpa using hy
    have : ∃ k u, y = .int k u := by
      clear hl q hy
      induction hi with
      | nil => cases hy'
      | cons n t _ ih =>
        rcases List.mem_cons.mp hy' with e | e
        · exact ⟨n, t, e⟩
        · exact ih e
    obtain ⟨k, u, rfl⟩ := this
    exact EqAt.int_int _ _ _ _
  · have := key hi
    simp only [List.any_toArray]
    rw [this]; exact q
theorem cmp_ints {op : CmpOp} {f : Int → Int → Bool} (hop : ∀ (i j : Int) (t t' : Tok) (Q : Value → Shared → Prop) (E' : Value → Shared → Prop), Q (.bool (f i j)) s → wpAny W.M A (compareOp op (.int i t) (.int j t')) Q E' s) {a b : AV} {c : Bool} {va vb : Value} (ra : RepV Z s.heap va a) (rb : RepV Z s.heap vb b) (h : int2 a b f = some c) {Q : Value → Shared → Prop} {E' : Value → Shared → Prop} (q : Q (.bool c) s) : wpAny W.M A (compareOp op va vb) Q E' s := by
  obtain ⟨i, hi, h⟩ := bindO h
  obtain ⟨j, hj, h⟩ := bindO h
  obtain ⟨t, e⟩ := int?_rep hi ra
  obtain ⟨t', e'⟩ := int?_rep hj rb
  rw [e, e']
  exact hop i j t t' Q E' (Option.some.inj h ▸ q)
theorem ofNone_rep {r : Option Bool} {b : AV} {c : Bool} {vb : Value} {h : Heap} (rb : RepV Z h vb b) (e : ofNone r b = some c) : vb = .none ∧ r = some c := by
  cases b with
  | none => exact ⟨rb.none', e⟩
  | _ => cases e
theorem inA_ok {a b : AV} {c : Bool} {va vb : Value} (ra : RepV Z s.heap va a) (rb : RepV Z s.heap vb b) (h : inA a b = some c) {Q : Value → Shared → Prop} {E' : Value → Shared → Prop} (q : Q (.bool c) s) : wpAny W.M A (compareOp .In va vb) Q E' s := by
  cases a with
  | str y =>
    obtain ⟨x, hx, h⟩ := bindO h
    obtain ⟨t, e⟩ := ra.str'; obtain ⟨t', e'⟩ := str?_rep hx rb
    rw [e, e']
    cases h
    exact in_str q
  | int i =>
    obtain ⟨l, hl, h⟩ := bindO h
    obtain ⟨ns, hn, hc⟩ := Option.map_eq_some_iff.mp h
    obtain ⟨t, e⟩ := ra.int'; obtain ⟨a, vs, e', _, hl, rl⟩ := lst?_rep hl rb
    rw [e, e']
    exact in_ints hl (ints_rep rl hn) (hc ▸ q)
  | _ => cases h
theorem cmpA_ok (hr : Room A d) (I : Inv W Z s) {op : CmpOp} {a b : AV} {c : Bool} {va vb : Value} (ra : RepV Z s.heap va a) (rb : RepV Z s.heap vb b) (h : cmpA op a b = some c) {Q : Value → Shared → Prop} {E' : Value → Shared → Prop} (q : Q (.bool c) s) :
    wpAny W.M A (compareOp op va vb) Q E' s := by
  have hu := hr.ult
  cases op with
  | Eq => exact eq_rc (eqA_rc hu ra rb h).1 q
  | NotEq =>
    obtain ⟨c', hc, e⟩ := Option.map_eq_some_iff.mp h
    exact ne_rc (eqA_rc hu ra rb hc).2 (e ▸ q)
  | Lt => exact cmp_ints (fun _ _ _ _ _ _ q => lt_int q) ra rb h q
  | LtE => exact cmp_ints (fun _ _ _ _ _ _ q => le_int q) ra rb h q
  | Gt => exact cmp_ints (fun _ _ _ _ _ _ q => gt_int q) ra rb h q
  | GtE => exact cmp_ints (fun _ _ _ _ _ _ q => ge_int q) ra rb h q
  | Is => obtain ⟨e, h⟩ := ofNone_rep rb h; rw [e]; exact is_none (by rw [isNone_rep ra h]; exact q)
  | IsNot =>
    obtain ⟨e, h⟩ := ofNone_rep rb h
    obtain ⟨c', hc, e'⟩ := Option.map_eq_some_iff.mp h
    rw [e]
    subst e'
    exact isNot_none (by rw [isNone_rep ra hc]; exact q)
  | NotIn =>
    obtain ⟨y, hy, h⟩ := bindO h
    obtain ⟨x, hx, h⟩ := bindO h
    obtain ⟨t, e⟩ := str?_rep hy ra; obtain ⟨t', e'⟩ := str?_rep hx rb
    rw [e, e']
    cases h
    exact notIn_str q
  | In => exact inA_ok ra rb h q
theorem denT_cmp {l r : Expr} {op : CmpOp} {pos : Pos} {f g : Slots → Option AV} (hl : DenP W d sc l f) (hr : DenP W d sc r g) (hm : behindInMarks op r = false) :
    DenT W d sc (.Compare l [op] [r] pos) fun ρ => f ρ >>= fun a => g ρ >>= fun b => cmpA op a b := by
  intro A env Z s ρ α av R hE I L hf Q E' q
  obtain ⟨a, ha, hf⟩ := bindO hf
  obtain ⟨b, hb, hf⟩ := bindO hf
  exact wpAny_isTrue_Compare1 (hl A env Z s ρ α a R hE I L ha _ _ fun va s₁ Z₁ p₁ r₁ => hr A env Z₁ s₁ ρ α b R hE p₁.inv (L.step0 p₁) hb _ _ fun vb s₂ Z₂ p₂ r₂ =>
    cmpA_ok R p₂.inv (p₂.rep0 r₁) r₂ hf (wpAny_truthy_bool (q s₂ Z₂ (p₁.tr p₂)))) hm
noncomputable def truthA : AV → Option Bool
  | .none => some false
  | .bool b => some b
  | .int i => some (i != 0)
  | .str x => if x.length ≤ 16777216 then some (x.length != 0) else none
  | .lst l => if l.length ≤ 16777216 then some (!l.isEmpty) else none
  | _ => none
theorem truthA_ok (I : Inv W Z s) {a : AV} {v : Value} {b : Bool} (r : RepV Z s.heap v a) (h : truthA a = some b) : GivesB W A Z s (truthy v) b := by
  intro Q E' q
  cases a with
  | none => cases h; rw [r.none']; exact fun _ _ _ => q s Z (.id I)
  | bool b => cases h; rw [r.bool']; exact wpAny_truthy_bool (q s Z (.id I))
  | int i => cases h; obtain ⟨t, rfl⟩ := r.int'; exact truthy_int (q s Z (.id I))
  | str x =>
    obtain ⟨hx, h⟩ := iteO h; cases h
    obtain ⟨t, rfl⟩ := r.str'
    refine P.truthy_str (by (first | lia | omega)) ?_
    have : ((x.length : Int) != 0) = (x.length != 0) := by
      rw [Bool.eq_iff_iff]; simp
    rw [this]; exact q _ Z (.toks I _)
  | lst l =>
    obtain ⟨hl, h⟩ := iteO h; cases h
    obtain ⟨a, vs, rfl, z, hl', rl⟩ := r.lst'
    refine wpAny_truthy_list hl' (by rw [List.size_toArray, rl.length]; (first | lia | omega)) ?_
    have e : vs.toArray.isEmpty = l.isEmpty := by
      cases l with
      | nil => rw [rl.nil']; rfl
      | cons a l => obtain ⟨v, ws, rfl, _⟩ := rl.cons'; rfl
    rw [e]; exact q _ Z (.toks I _)
  | _ => cases h
theorem denT_val {e : Expr} {f : Slots → Option AV} (hl : DenP W d sc e f) (he : ∀ env whole, isTrue e env whole = (do let v ← whole; standAt e.pos; holding [v] (truthy v))) :
    DenT W d sc e fun ρ => f ρ >>= truthA := by
  intro A env Z s ρ α av R hE I L hf Q E' q
  obtain ⟨a, ha, hf⟩ := bindO hf
  exact wpAny_isTrue_value (hl A env Z s ρ α a R hE I L ha _ _ fun va s₁ Z₁ p₁ r₁ => truthA_ok p₁.inv r₁ hf _ _ fun s₂ Z₂ p₂ => q s₂ Z₂ (p₁.tr p₂)) (he _ _)
noncomputable def DenTs (W : Wd) (d : Nat) (sc : Scope) (op : BoolOp) (es : List Expr) (f : Slots → Option Bool) : Prop :=
  ∀ (A : Around) (env : Env) (Z : AddrSet) (s : Shared) (ρ : Slots) (α : Str → Addr) (b : Bool), Room A d → EnvOk env sc → Inv W Z s → Loc W Z s.heap env ρ α → f ρ = some b → GivesB W A Z s (allTrue op es env) b
theorem denTs_and0 : DenTs W d sc .And [] fun _ => some true := by
  intro A env Z s ρ α av R hE I L hf Q E' q; cases hf; exact wpAny_allTrue_And_nil (q s Z (.id I))
theorem denTs_and {x : Expr} {rest : List Expr} {f g : Slots → Option Bool} (hx : DenT W d sc x f) (hr : DenTs W d sc .And rest g) : DenTs W d sc .And (x :: rest) fun ρ => f ρ >>= fun b => if b = true then g ρ else some false := by
  intro A env Z s ρ α av R hE I L hf Q E' q
  obtain ⟨b, hb, hf⟩ := bindO hf
  refine wpAny_allTrue_And_cons (hx A env Z s ρ α b R hE I L hb _ _ fun s₁ Z₁ p₁ => ?_)
  cases b with
  | true => exact hr A env Z₁ s₁ ρ α av R hE p₁.inv (L.step0 p₁) hf _ _ fun s₂ Z₂ p₂ => q s₂ Z₂ (p₁.tr p₂)
  | false => cases hf; exact q s₁ Z₁ p₁
theorem denT_bool {op : BoolOp} {es : List Expr} {pos : Pos} {f : Slots → Option Bool} (h : DenTs W d sc op es f) : DenT W d sc (.BoolOp op es pos) f := by
  intro A env Z s ρ α av R hE I L hf Q E' q
  exact wpAny_isTrue_BoolOp (h A env Z s ρ α av R hE I L hf _ _ q)
theorem den_ite {t b o : Expr} {pos : Pos} {c : Slots → Option Bool} {f g : Slots → Option AV} (ht : DenT W d sc t c) (hb : DenP W d sc b f) (ho : DenP W d sc o g) :
    DenP W d sc (.IfExp t b o pos) fun ρ => c ρ >>= fun x => if x = true then f ρ else g ρ := by
  intro A env Z s ρ α av R hE I L hf Q E' q
  obtain ⟨x, hx, hf⟩ := bindO hf
  refine wpAny_IfExp (ht A env Z s ρ α x R hE I L hx _ _ fun s₁ Z₁ p₁ => ?_)
  cases x with
  | true => exact hb A env Z₁ s₁ ρ α av R hE p₁.inv (L.step0 p₁) hf _ _ fun v s₂ Z₂ p₂ r₂ => q v s₂ Z₂ (p₁.tr p₂) r₂
  | false => exact ho A env Z₁ s₁ ρ α av R hE p₁.inv (L.step0 p₁) hf _ _ fun v s₂ Z₂ p₂ r₂ => q v s₂ Z₂ (p₁.tr p₂) r₂
noncomputable def negA (a : AV) : Option AV := a.int? >>= fun i => some (.int (-i))
theorem den_neg {x : Expr} {pos : Pos} {f : Slots → Option AV} (hx : DenP W d sc x f) : DenP W d sc (.UnaryOp .USub x pos) fun ρ => f ρ >>= negA := by
  intro A env Z s ρ α av R hE I L hf Q E' q
  obtain ⟨a, ha, hf⟩ := bindO hf
  refine wpAny_UnaryOp (hx A env Z s ρ α a R hE I L ha _ _ fun va s₁ Z₁ p₁ r₁ => ?_)
  obtain ⟨i, hi, hf⟩ := bindO hf
  cases hf; obtain ⟨t, rfl⟩ := int?_rep hi r₁; exact neg_int (q _ _ Z₁ (p₁.tr (.toks p₁.inv _)) (.int _ _))
end
end Mine
end
section
set_option linter.unusedVariables false
namespace Mine
section
variable {W : Wd} {Z Z' Z₁ : AddrSet} {s s' s₁ : Shared} {env : Env} {sc : Scope} {ρ : Slots} {α : Str → Addr} {A : Around} {d : Nat}
noncomputable def itemL {β : Type} (l : List β) (k : Int) : Option β := if 0 ≤ k then l[k.toNat]? else if -(l.length : Int) ≤ k then l[(k + l.length).toNat]? else none
noncomputable def sign1 (c : Nat) : Str := ⟨#[c]⟩
noncomputable def idxA : AV → AV → Option AV
  | .lst l, i => i.int? >>= fun k => if -1000000000 < k ∧ k < 1000000000 then itemL l k else none
  | .tup l, i => i.int? >>= fun k => if -1000000000 < k ∧ k < 1000000000 then itemL l k else none
  | .str x, i => i.int? >>= fun k => if -1000000000 < k ∧ k < 1000000000 then (itemL x.cps.toList k).map fun c => .str (sign1 c) else none
  | _, _ => none
theorem itemL_seq {β : Type} {l : List β} {k : Int} {b : β} (h : itemL l k = some b) : ∃ j, seqIndex? k l.length = some j ∧ l[j]? = some b := by
  unfold itemL at h
  unfold seqIndex?
  split at h
  · rename_i h0
    have hlt : k.toNat < l.length := by
      rcases Nat.lt_or_ge k.toNat l.length with e | e
      · exact e
      · rw [List.getElem?_eq_none e] at h; cases h
    refine ⟨k.toNat, ?_, h⟩
    have n0 : ¬ k < 0 := by (first | lia | omega)
    simp only [n0, if_false]
    have : (decide (0 ≤ k) && decide (k < (l.length : Int))) = true := by simp; (first | lia | omega)
    rw [if_pos this]
  · split at h
    · rename_i h0 h1
      have n0 : k < 0 := by (first | lia | omega)
      have hlt : (k + l.length).toNat < l.length := by (first | lia | omega)
      refine ⟨(k + l.length).toNat, ?_, h⟩
      simp only [n0, if_true]
      have : (decide (0 ≤ k + (l.length : Int)) && decide (k + (l.length : Int) < (l.length : Int))) = true := by simp; (first | lia | omega)
      rw [if_pos this]
    · cases h
theorem list_item_gives (I : Inv W Z s) {a : Addr} {vs : List Value} {l : List AV} {k : Int} {t : Tok} {av : AV} (hl : s.heap.IsList a vs.toArray) (rl : RepVs Z s.heap vs l) (hk : -1000000000 < k ∧ k < 1000000000) (h : itemL l k = some av) :
    ∃ v, RepV Z s.heap v av ∧ ∀ (Q : Value → Shared → Prop) E', Q v s → wpAny W.M A (getItem (.ref a) (.int k t)) Q E' s := by
  unfold itemL at h
  split at h
  · rename_i h0
    obtain ⟨v, hv, r⟩ := rl.get h
    exact ⟨v, r, fun Q E' q => wpAny_getItem_list hl h0 (by (first | lia | omega)) (by simpa using hv) q⟩
  · split at h
    · rename_i h0 h1
      obtain ⟨v, hv, r⟩ := rl.get h
      refine ⟨v, r, fun Q E' q => wpAny_getItem_list_neg hl (by (first | lia | omega)) (by simp only [List.size_toArray, rl.length]; exact h1) (by (first | lia | omega)) ?_ q⟩
      simp only [List.size_toArray, rl.length]
      simpa using hv
    · cases h
theorem idxA_ok (I : Inv W Z s) {value slice : Expr} {o i r : AV} {vo vi : Value} (ro : RepV Z s.heap vo o) (ri : RepV Z s.heap vi i) (h : idxA o i = some r)
    (hs : ∀ o i, subscripted slice false o i = operate [o, i] (getItem o i)) : Gives W A Z s (subscriptTail value slice vo vi) r := by
  intro Q E' q
  cases o with
  | lst l =>
    obtain ⟨k, hk', h⟩ := bindO h; obtain ⟨hk, h⟩ := iteO h
    obtain ⟨a, vs, rfl, z, hl, rl⟩ := ro.lst'; obtain ⟨t, rfl⟩ := int?_rep hk' ri
    obtain ⟨v, rv, g⟩ := list_item_gives (W := W) (A := A) I hl rl hk h
    exact tail_any hl.typeIs slot_list_getitem.lookup (g _ _ (q v s Z (.id I) rv)) (hs _ _)
  | tup l =>
    obtain ⟨k, hk', h⟩ := bindO h; obtain ⟨hk, h⟩ := iteO h
    obtain ⟨a, vs, rfl, z, ht, rl⟩ := ro.tup'; obtain ⟨t, rfl⟩ := int?_rep hk' ri
    obtain ⟨j, hj, hx⟩ := itemL_seq h
    obtain ⟨v, hv, rv⟩ := rl.get hx
    exact tail_any (T := "tuple") (let ⟨o, e, c, _⟩ := ht; ⟨o, e, c⟩) slot_tuple_getitem.lookup (PyProof.Rows.getItem_tuple ht (by (first | lia | omega)) (by (first | lia | omega)) (by rw [List.size_toArray, rl.length]; exact hj) (by rw [List.getElem?_toArray]; exact hv) (q v s Z (.id I) rv)) (hs _ _)
  | str x =>
    obtain ⟨k, hk', h⟩ := bindO h; obtain ⟨hk, h⟩ := iteO h
    obtain ⟨t, rfl⟩ := ro.str'; obtain ⟨u, rfl⟩ := int?_rep hk' ri
    obtain ⟨c, hc, rfl⟩ := Option.map_eq_some_iff.mp h
    obtain ⟨j, hj, hx⟩ := itemL_seq hc
    have e : Txt.charAt x k = some c := by
      unfold Txt.charAt
      rw [Array.length_toList] at hj
      show Option.bind (seqIndex? k x.cps.size) _ = _
      rw [hj]; rw [Array.getElem?_toList] at hx; exact hx
    have hf : fitsSsize k = true := by unfold fitsSsize; simp; (first | lia | omega)
    obtain ⟨T, id, hl, hT, hg⟩ := SB.item (prog := W.prog) (w := W.w) (A := A) (E := E') (s := s) (t := t) (u := u) hf (by rw [e]; rfl) (q _ _ Z (.toks I _) (by unfold Txt.item; rw [e]; exact .str _ _))
    exact tail_any hT hl hg (hs _ _)
  | _ => cases h
theorem den_idx {value slice : Expr} {pos : Pos} {f g : Slots → Option AV} (hv : DenP W d sc value f) (hi : DenP W d sc slice g) (hs : ∀ o i, subscripted slice false o i = operate [o, i] (getItem o i)) :
    DenP W d sc (.Subscript value slice pos) fun ρ => f ρ >>= fun o => g ρ >>= fun i => idxA o i := by
  intro A env Z s ρ α av R hE I L hf Q E' q
  obtain ⟨a, ha, hf⟩ := bindO hf
  obtain ⟨b, hb, hf⟩ := bindO hf
  exact Subscript_ (hv A env Z s ρ α a R hE I L ha _ _ fun va s₁ Z₁ p₁ r₁ => hi A env Z₁ s₁ ρ α b R hE p₁.inv (L.step0 p₁) hb _ _ fun vb s₂ Z₂ p₂ r₂ =>
    idxA_ok p₂.inv (p₂.rep0 r₁) r₂ hf hs _ _ fun v s₃ Z₃ p₃ r₃ => q v s₃ Z₃ (p₁.tr (p₂.tr p₃)) r₃)
-- slices
noncomputable def cutL {β : Type} (l : List β) (lo hi : Option Int) : List β := (l.drop (lo.elim 0 (clipAt l.length))).take (hi.elim l.length (clipAt l.length) - lo.elim 0 (clipAt l.length))
noncomputable def cutS (x : Str) (lo hi : Option Int) : Str := ⟨(cutL x.cps.toList lo hi).toArray⟩
noncomputable def asInt : AV → Option Int
  | .int i => some i
  | _ => none
noncomputable def cutA : AV → Option Int → Option Int → Option AV
  | .lst l, lo, hi => if l.length ≤ 16777216 then some (.lst (cutL l lo hi)) else none
  | .str x, lo, hi => if x.length ≤ 16777216 then some (.str (cutS x lo hi)) else none
  | _, _, _ => none
noncomputable def DenPart (W : Wd) (d : Nat) (sc : Scope) (x : Option Expr) (g : Slots → Option (Option Int)) : Prop :=
  ∀ (A : Around) (env : Env) (Z : AddrSet) (s : Shared) (ρ : Slots) (α : Str → Addr) (oi : Option Int), Room A d → EnvOk env sc → Inv W Z s → Loc W Z s.heap env ρ α → g ρ = some oi →
    ∀ (Q : Value → Shared → Prop) E', (∀ v s' Z', Step W .none Z s Z' s' → IsPart v oi → Q v s') → wpAny W.M A (evalPart x env) Q E' s
theorem part_none : DenPart W d sc none fun _ => some none := by
  intro A env Z s ρ α oi R hE I L hf Q E' q; cases hf; exact wpAny_pure (q _ s Z (.id I) .none)
theorem part_some {e : Expr} {f : Slots → Option AV} (h : DenP W d sc e f) : DenPart W d sc (some e) fun ρ => f ρ >>= fun a => (asInt a).map some := by
  intro A env Z s ρ α oi R hE I L hf Q E' q
  obtain ⟨a, ha, hf⟩ := bindO hf
  obtain ⟨i, hi, rfl⟩ := Option.map_eq_some_iff.mp hf
  refine h A env Z s ρ α a R hE I L ha _ _ fun v s₁ Z₁ p r => q v s₁ Z₁ p ?_
  unfold asInt at hi
  split at hi
  · cases hi; cases r; exact .int _ _
  · cases hi
theorem part_of {v : Value} {oi : Option Int} (p : IsPart v oi) : ∃ l : Option (Int × Tok), v = partValue l ∧ l.map (·.1) = oi := by
  cases p with
  | none => exact ⟨none, rfl, rfl⟩
  | int i t => exact ⟨some (i, t), rfl, rfl⟩
theorem strSlice_plain (x : Str) (lo hi : Option Int) : ((Builtin.Str.strSliceIndices lo hi 1 x.length).filterMap (x.cps[·]?)) = cutL x.cps.toList lo hi := by
  have h : Builtin.Str.strSliceIndices lo hi 1 x.length = sliceRange (sliceBounds lo hi none x.length).1 (sliceBounds lo hi none x.length).2.1 (sliceBounds lo hi none x.length).2.2 := by
    unfold Builtin.Str.strSliceIndices sliceBounds
    rfl
  rw [h, sliceBounds_plain]
  simp only [sliceRange_one, pick_run]
  unfold cutL
  simp [Str.length]
theorem cutL_length_le {β : Type} (l : List β) (lo hi : Option Int) : (cutL l lo hi).length ≤ l.length := by
  unfold cutL; exact Nat.le_trans (List.length_take_le' _ _) (by rw [List.length_drop]; exact Nat.sub_le _ _)
theorem RepVs.cut {h : Heap} {vs : List Value} {l : List AV} (r : RepVs Z h vs l) (lo hi : Option Int) : RepVs Z h (cutL vs lo hi) (cutL l lo hi) := by
  unfold cutL; rw [r.length]; exact (r.drop _).take _
theorem cut_all {x : Str} {lo hi : Option Int} (hlen : (Builtin.Str.strSliceIndices lo hi 1 x.length).length = x.length) : cutS x lo hi = x := by
  have hb : Builtin.Str.strSliceIndices lo hi 1 x.length = (List.range (hi.elim x.length (clipAt x.length) - lo.elim 0 (clipAt x.length))).map (lo.elim 0 (clipAt x.length) + ·) := by
    have h : Builtin.Str.strSliceIndices lo hi 1 x.length = sliceRange (sliceBounds lo hi none x.length).1 (sliceBounds lo hi none x.length).2.1 (sliceBounds lo hi none x.length).2.2 := by
      unfold Builtin.Str.strSliceIndices sliceBounds; rfl
    rw [h, sliceBounds_plain]
    simp only [sliceRange_one]
  rw [hb, List.length_map, List.length_range] at hlen
  have hcl : ∀ i, clipAt x.length i ≤ x.length := fun i => Int.toNat_le.mpr (Int.max_le.mpr ⟨Int.natCast_nonneg _, Int.min_le_right _ _⟩)
  have hhi : hi.elim x.length (clipAt x.length) ≤ x.length := by
    cases hi with
    | none => exact Nat.le_refl _
    | some i => exact hcl i
  have hL : x.cps.toList.length = x.length := rfl
  unfold cutS cutL
  rw [hL]
  generalize hi.elim x.length (clipAt x.length) = u at *
  generalize lo.elim 0 (clipAt x.length) = l at *
  have h0 : l = 0 ∨ x.length = 0 := by
    rcases Nat.eq_zero_or_pos l with h | h
    · exact .inl h
    · rcases Nat.eq_zero_or_pos u with hu | hu
      · exact .inr (by rw [← hlen, hu, Nat.zero_sub])
      · exact absurd hlen (Nat.ne_of_lt (Nat.lt_of_lt_of_le (Nat.sub_lt hu h) hhi))
  rcases h0 with h0 | h0
  · rw [h0, List.drop_zero, List.take_of_length_le (by rw [hL]; (first | lia | omega))]
  · have : x.cps.toList = [] := List.length_eq_zero_iff.mp (hL.trans h0)
    rw [this, List.drop_nil, List.take_nil, ← this]
theorem cut_gives (I : Inv W Z s) {o r : AV} {vo : Value} {lo hi : Option Int} {sl : Addr} {vl vu : Value} {value slice : Expr} (ro : RepV Z s.heap vo o) (h : cutA o lo hi = some r) (pl : IsPart vl lo) (pu : IsPart vu hi) (hsl : s.heap.IsSliceOf sl vl vu .none)
    (hs : ∀ o i, subscripted slice false o i = operate [i, o] (getItem o i)) : Gives W A Z s (subscriptTail value slice vo (.ref sl)) r := by
  cases o with
  | lst l =>
    obtain ⟨hz, h⟩ := iteO h; cases h
    obtain ⟨a, vs, rfl, z, hl, rl⟩ := ro.lst'
    have e : slicePick vs.toArray lo hi none = (cutL vs lo hi).toArray := by
      rw [slicePick_plain]; unfold cutL; simp
    refine .newLst (n := 0) I (rl.cut lo hi) fun Q E' q => tail_any hl.typeIs slot_list_getitem.lookup (wpAny_getItem_list_slice hl hsl pl pu .none (by intro c; cases c) ?_ (by rw [List.size_toArray, rl.length, sizeLine]; exact hz)) (hs _ _)
    rw [e]; exact q s.toks
  | str x =>
    obtain ⟨hz, h⟩ := iteO h; cases h
    obtain ⟨t, rfl⟩ := ro.str'
    obtain ⟨l, rfl, e1⟩ := part_of pl
    obtain ⟨u, rfl, e2⟩ := part_of pu
    refine .val I fun Q E' q => tail_any (T := "str") (typeIs_str s x t) F.slot_str_getitem.lookup (wpAny_getItem_str_slice (st := none) hsl rfl ?_) (hs _ _)
    unfold sliceMade slicePicked
    rw [e1, e2]
    simp only [Option.map_none, Option.getD_none]
    rw [strSlice_plain x lo hi]
    split
    · rename_i hc
      rw [cut_all (by simpa using hc)] at q
      exact q _ s.toks (.str _ _)
    · refine ⟨?_, q _ _ (.str _ _)⟩
      have : (cutL x.cps.toList lo hi).length ≤ x.length := cutL_length_le x.cps.toList lo hi
      exact Nat.le_trans this hz
  | _ => cases h
theorem den_cut {value : Expr} {lo hi : Option Expr} {p pos : Pos} {f : Slots → Option AV} {g h : Slots → Option (Option Int)} (hv : DenP W d sc value f) (hl : DenPart W d sc lo g) (hh : DenPart W d sc hi h) :
    DenP W d sc (.Subscript value (.Slice lo hi none p) pos) fun ρ => f ρ >>= fun o => g ρ >>= fun i => h ρ >>= fun j => cutA o i j := by
  intro A env Z s ρ α av R hE I L hf Q E' q
  obtain ⟨a, ha, hf⟩ := bindO hf
  obtain ⟨i, hi, hf⟩ := bindO hf
  obtain ⟨j, hj, hf⟩ := bindO hf
  refine Subscript_ (hv A env Z s ρ α a R hE I L ha _ _ fun va s₁ Z₁ p₁ r₁ => wpAny_Slice (hl A env Z₁ s₁ ρ α i R hE p₁.inv (L.step0 p₁) hi _ _ fun vl s₂ Z₂ p₂ q₂ =>
    hh A env Z₂ s₂ ρ α j R hE p₂.inv ((L.step0 p₁).step0 p₂) hj _ _ fun vu s₃ Z₃ p₃ q₃ => ?_))
  have p₄ : Step W .none Z₃ s₃ Z₃ { s₃ with heap := s₃.heap.push { cls := .type "slice", data := .fields #[vl, vu, .none] } } := .grow p₃.inv (tk := s₃.toks) (push_keep _ _)
  refine wpAny_pure ?_
  exact cut_gives p₄.inv (p₄.rep0 (p₃.rep0 (p₂.rep0 r₁))) hf q₂ q₃ (Heap.IsSliceOf.new _ _ _ _) (fun _ _ => rfl) _ _ fun v s₅ Z₅ p₅ r₅ => q v s₅ Z₅ (p₁.tr (p₂.tr (p₃.tr (p₄.tr p₅)))) r₅
noncomputable def DenPs (W : Wd) (d : Nat) (sc : Scope) (es : List Expr) (f : Slots → Option (List AV)) : Prop :=
  ∀ (A : Around) (env : Env) (Z : AddrSet) (s : Shared) (ρ : Slots) (α : Str → Addr) (l : List AV), Room A d → EnvOk env sc → Inv W Z s → Loc W Z s.heap env ρ α → f ρ = some l →
    ∀ (pos : Pos) (Q : List Value → Shared → Prop) E', (∀ vs s' Z', Step W .none Z s Z' s' → RepVs Z' s'.heap vs l → Q vs s') → wpAny W.M A (spliced (backTo pos (starEach es env))) Q E' s
theorem denPs_nil : DenPs W d sc [] fun _ => some [] := by
  intro A env Z s ρ α l R hE I L hf pos Q E' q; cases hf; exact wpAny_items_nil (q [] s Z (.id I) .nil)
theorem denPs_cons {e : Expr} {rest : List Expr} {f : Slots → Option AV} {g : Slots → Option (List AV)} (he : DenP W d sc e f) (hr : DenPs W d sc rest g) (hs : ∀ env, starEach (e :: rest) env = (false, eval e env) :: starEach rest env) :
    DenPs W d sc (e :: rest) fun ρ => f ρ >>= fun a => g ρ >>= fun l => some (a :: l) := by
  intro A env Z s ρ α l R hE I L hf pos Q E' q
  obtain ⟨a, ha, hf⟩ := bindO hf
  obtain ⟨m, hm, hf⟩ := bindO hf
  cases hf
  exact wpAny_items_cons (he A env Z s ρ α a R hE I L ha _ _ fun v s₁ Z₁ p₁ r₁ => hr A env Z₁ s₁ ρ α m R hE p₁.inv (L.step0 p₁) hm pos _ _ fun vs s₂ Z₂ p₂ r₂ => q _ s₂ Z₂ (p₁.tr p₂) (.cons (p₂.rep0 r₁) r₂)) (hs env)
theorem den_list {es : List Expr} {pos : Pos} {f : Slots → Option (List AV)} (h : DenPs W d sc es f) : DenP W d sc (.List es pos) fun ρ => f ρ >>= fun l => if l.length ≤ 1000000 then some (.lst l) else none := by
  intro A env Z s ρ α av R hE I L hf Q E' q
  obtain ⟨l, hl, hf⟩ := bindO hf
  split at hf
  · cases hf
    refine List_ (h A env Z s ρ α l R hE I L hl pos _ _ fun vs s₁ Z₁ p₁ r₁ => ?_)
    refine (Gives.newLst (n := 0) p₁.inv r₁ fun Q E' q => wpAny_newObj_type (q _) ?_) _ _ fun v s₂ Z₂ p₂ r₂ => q v s₂ Z₂ (p₁.tr p₂) r₂
    show vs.toArray.size ≤ sizeLine
    rw [List.size_toArray, r₁.length]; unfold sizeLine; (first | lia | omega)
  · cases hf
theorem den_tuple {es : List Expr} {k : Nat} {pos : Pos} {f : Slots → Option (List AV)} (h : DenPs W d sc es f) : DenP W d sc (.Tuple es k pos) fun ρ => f ρ >>= fun l => if l.length ≤ 1000000 then some (.tup l) else none := by
  intro A env Z s ρ α av R hE I L hf Q E' q
  obtain ⟨l, hl, hf⟩ := bindO hf
  split at hf
  · cases hf
    refine Tuple_ (h A env Z s ρ α l R hE I L hl pos _ _ fun vs s₁ Z₁ p₁ r₁ => ?_)
    refine (Gives.newTup (n := 0) p₁.inv r₁ fun Q E' q => wpAny_newObj_type (q _) ?_) _ _ fun v s₂ Z₂ p₂ r₂ => q v s₂ Z₂ (p₁.tr p₂) r₂
    show vs.toArray.size ≤ sizeLine
    rw [List.size_toArray, r₁.length]; unfold sizeLine; (first | lia | omega)
  · cases hf
end
end Mine
end
section
set_option linter.unusedVariables false
namespace Mine
section
variable {W : Wd} {Z Z' Z₁ : AddrSet} {s s' s₁ : Shared} {env : Env} {sc : Scope} {ρ : Slots} {α : Str → Addr} {A : Around} {d : Nat}
noncomputable def FSpec (W : Wd) (d : Nat) (f : Value) (F : List AV → Option AV) : Prop :=
  ∀ (A : Around) (Z : AddrSet) (s : Shared) (vals : List Value) (args : List AV) (av : AV), Room A d → Inv W Z s → RepVs Z s.heap vals args → F args = some av → Gives W A Z s (call f vals) av
theorem RepVs.one {h : Heap} {vals : List Value} {a : AV} (r : RepVs Z h vals [a]) : ∃ v, vals = [v] ∧ RepV Z h v a := by
  cases r with | cons r1 r2 => cases r2; exact ⟨_, rfl, r1⟩
noncomputable def KeepOk (W : Wd) (f : Value) : Prop := ∀ h, W.K.In h → ∃ k, (k = Keeper.frame ∨ k = Keeper.machine ∨ k = Keeper.boundFrame) ∧ Looks W.M h (keeperOf f) k
theorem keep_builtin (id : String) : KeepOk W (.builtin id) := fun _ _ => ⟨.machine, .inr (.inl rfl), .of_pure rfl⟩
theorem keep_type (T : String) : KeepOk W (.type T) := fun _ _ => ⟨.machine, .inr (.inl rfl), .of_pure rfl⟩
theorem keep_K {f : Value} (h : keepIn W.K f = true) : KeepOk W f := fun g X => keeps_K h g X
theorem evalArgs_ns {M : Model} {E' : Value → Shared → Prop} {f : Value} {args : List (Bool × Sem Value)} {Q : Args → Shared → Prop} (hn : args.any (·.1) = false)
    (h : wpAny M A (spliced args) (fun vs s' => Q ⟨vs, []⟩ s') E' s) : wpAny M A (evalArgs f true args []) Q E' s := by
  cases args with
  | nil =>
    unfold evalArgs
    show wpAny M A (spliced [] >>= _) Q E' s
    refine wpAny_bind (wpAny_mono h (fun vs s' h' => wpAny_bind (wpAny_pure ?_)) fun _ _ x => x)
    refine wpAny_holding ?_
    exact wpAny_bind (wpAny_pure (wpAny_bind (wpAny_pure (wpAny_pure h'))))
  | cons x r =>
    obtain ⟨b, x⟩ := x
    have hb : b = false := by
      cases b with
      | false => rfl
      | true => simp at hn
    subst hb
    exact Calls.evalArgs_plain h
theorem callWith_den {f : Value} {first : List Value} {pos : Pos} {es : List Expr} {fs : Slots → Option (List AV)} {l : List AV} (hk : KeepOk W f) (ha : DenPs W d sc es fs) (hn : ∀ env pos, (backTo pos (starEach es env)).any (·.1) = false)
    (R : Room A d) (hE : EnvOk env sc) (I : Inv W Z s) (L : Loc W Z s.heap env ρ α) (hl : fs ρ = some l) {Q : Value → Shared → Prop} {E' : Value → Shared → Prop}
    (q : ∀ vs s₁ Z₁, Step W .none Z s Z₁ s₁ → RepVs Z₁ s₁.heap vs l → wpAny W.M A (call f (first ++ vs)) Q E' s₁) :
    wpAny W.M A (callWith pos f first (backTo pos (starEach es env)) []) Q E' s := by
  refine callWith_of (P := W.K.In) (by rw [hn]; rfl) hk (evalArgs_ns (hn _ _) (ha A env Z s ρ α l R hE I L hl pos _ _ fun vs s₁ Z₁ p r => ⟨p.inv.kin, q vs s₁ Z₁ p r⟩))
theorem den_call {x : Str} {np pos : Pos} {es : List Expr} {v : Value} {fs : Slots → Option (List AV)} {F : List AV → Option AV} (hg : W.Glob x v) (hk : sc.names.lookup x = some .globalImplicit) (h1 : (x == ("__debug__" : Str)) = false)
    (hko : KeepOk W v) (ha : DenPs W d sc es fs) (hn : ∀ env pos, (backTo pos (starEach es env)).any (·.1) = false) (hF : FSpec W d v F) : DenP W d sc (.Call (.Name x np) es [] pos) fun ρ => fs ρ >>= F := by
  intro A env Z s ρ α av R hE I L hf Q E' q
  obtain ⟨l, hl, hf⟩ := bindO hf
  show wpAny _ _ (do callWith pos (← eval (.Name x np) env) [] (backTo pos (starEach es env)) (backToKw pos (keywordEach [] env))) _ _ _
  refine wpAny_bind (load_glob hE I hg hk h1 (callWith_den hko ha hn R hE I L hl fun vs s₁ Z₁ p r => hF A Z₁ s₁ vs l av R p.inv r hf _ _ fun v s₂ Z₂ p₂ r₂ => q v s₂ Z₂ (p.tr p₂) r₂))
-- built-in functions
noncomputable def arg1 (l : List AV) (f : AV → Option AV) : Option AV := match l with | [a] => f a | _ => none
noncomputable def arg2 (l : List AV) (f : AV → AV → Option AV) : Option AV := match l with | [a, b] => f a b | _ => none
theorem arg1_rep {h : Heap} {vals : List Value} {l : List AV} {f : AV → Option AV} {c : AV} (e : arg1 l f = some c) (r : RepVs Z h vals l) : ∃ a v, vals = [v] ∧ RepV Z h v a ∧ f a = some c := by
  cases l with
  | nil => cases e
  | cons a l =>
    cases l with
    | nil => obtain ⟨v, ws, rfl, r1, rs⟩ := r.cons'; rw [rs.nil']; exact ⟨a, v, rfl, r1, e⟩
    | cons => cases e
theorem arg2_rep {h : Heap} {vals : List Value} {l : List AV} {f : AV → AV → Option AV} {c : AV} (e : arg2 l f = some c) (r : RepVs Z h vals l) : ∃ a b v w, vals = [v, w] ∧ RepV Z h v a ∧ RepV Z h w b ∧ f a b = some c := by
  cases l with
  | nil => cases e
  | cons a l =>
    cases l with
    | nil => cases e
    | cons b l =>
      cases l with
      | nil => obtain ⟨v, ws, rfl, r1, rs⟩ := r.cons'; obtain ⟨w, ws, rfl, r2, rs⟩ := rs.cons'; rw [rs.nil']; exact ⟨a, b, v, w, rfl, r1, r2, e⟩
      | cons => cases e
noncomputable def len1 : AV → Option AV
  | .str x => if x.length ≤ 16777216 then some (.int x.length) else none
  | .lst l => if l.length ≤ 16777216 then some (.int l.length) else none
  | _ => none
noncomputable def lenF (l : List AV) : Option AV := arg1 l len1
theorem spec_len : FSpec W d (.builtin "len") lenF := by
  intro A Z s vals args av R I r h
  obtain ⟨a, v, rfl, r1, h⟩ := arg1_rep h r
  cases a with
  | str x =>
    obtain ⟨hx, h⟩ := iteO h; cases h
    obtain ⟨t, rfl⟩ := r1.str'
    exact .val I fun Q E' q => len_str (by (first | lia | omega)) (q _ _ (.int _ _))
  | lst l =>
    obtain ⟨hx, h⟩ := iteO h; cases h
    obtain ⟨a, vs, rfl, z, hl, rl⟩ := r1.lst'
    have e : vs.toArray.size = l.length := rl.length
    refine .val I fun Q E' q => len_list hl (by (first | lia | omega)) ?_
    rw [e]
    exact q _ _ (.int _ _)
  | _ => cases h
noncomputable def absF (l : List AV) : Option AV := arg1 l fun a => a.int? >>= fun i => some (.int (if i < 0 then -i else i))
theorem spec_abs : FSpec W d (.builtin "abs") absF := by
  intro A Z s vals args av R I r h
  obtain ⟨a, v, rfl, r1, h⟩ := arg1_rep h r
  obtain ⟨i, hi, h⟩ := bindO h
  cases h
  obtain ⟨t, rfl⟩ := int?_rep hi r1
  exact .val I fun Q E' q => call_abs_int fun u tk => q _ _ (.int _ _)
noncomputable def strArg : AV → Option Str
  | .str x => some x
  | _ => none
theorem den_meth_str {o : Expr} {name : Str} {apos pos : Pos} {es : List Expr} {f : Slots → Option AV} {fs : Slots → Option (List AV)} {id : String} {F : List AV → Option AV} (ho : DenP W d sc o f)
    (hbase : ∀ env, attributeBase o name env (eval o env) = eval o env)
    (hfew : ∀ env, ((backTo pos (starEach es env)).all (fun x => !x.1) && (backToKw pos (keywordEach [] env)).all (fun x => x.1.isSome) && decide (es.length + ([] : List Keyword).length + (if ([] : List Keyword).isEmpty then 0 else 1) < 30)) = true)
    (hline : (apos.endLine == pos.line) = true) (slot : Slot "str" name id) (hty : typeOf (.builtin id) = pure (.type "method_descriptor")) (ha : DenPs W d sc es fs) (hn : ∀ env pos, (backTo pos (starEach es env)).any (·.1) = false)
    (hF : FSpec W d (.builtin id) F) : DenP W d sc (.Call (.Attribute o name apos) es [] pos) fun ρ => f ρ >>= fun a => strArg a >>= fun x => fs ρ >>= fun l => F (.str x :: l) := by
  intro A env Z s ρ α av R hE I L hf Q E' q
  obtain ⟨a, ha', hf⟩ := bindO hf
  obtain ⟨x, hx, hf'⟩ := bindO hf
  obtain ⟨l, hl, hf''⟩ := bindO hf'
  have : a = .str x := by unfold strArg at hx; split at hx <;> cases hx; rfl
  subst this
  refine wpAny_Call_method (hbase env) (hfew env) hline PySem.F.plainAttrs_str slot hty (ho A env Z s ρ α _ R hE I L ha' _ _ fun ov s₁ Z₁ p₁ r₁ => ?_)
  cases r₁
  rename_i t
  refine ⟨typeIs_str _ _ _, fun a e => (by cases e), ?_⟩
  exact callWith_den (first := [.str x t]) (keep_builtin id) ha hn R hE p₁.inv (L.step0 p₁) hl fun vs s₂ Z₂ p₂ r₂ => hF A Z₂ s₂ (.str x t :: vs) (.str x :: l) av R p₂.inv (.cons (.str x t) r₂) hf'' _ _ fun v s₃ Z₃ p₃ r₃ => q v s₃ Z₃ (p₁.tr (p₂.tr p₃)) r₃
theorem strs2_rep {h : Heap} {vals : List Value} {l : List AV} {f : Str → Str → Option AV} {c : AV} (e : (arg2 l fun a b => a.str? >>= fun x => b.str? >>= fun y => f x y) = some c) (r : RepVs Z h vals l) : ∃ x y t u, vals = [.str x t, .str y u] ∧ f x y = some c := by
  obtain ⟨a, b, v, w, rfl, r1, r2, h⟩ := arg2_rep e r
  obtain ⟨i, hi, h⟩ := bindO h
  obtain ⟨j, hj, h⟩ := bindO h
  obtain ⟨t, rfl⟩ := str?_rep hi r1
  obtain ⟨u, rfl⟩ := str?_rep hj r2
  exact ⟨i, j, t, u, rfl, h⟩
end
end Mine
end
section
set_option linter.unusedVariables false
namespace Mine
section
variable {W : Wd} {Z Z' Z₁ : AddrSet} {s s' s₁ : Shared} {env : Env} {sc : Scope} {ρ ρ' : Slots} {α α' : Str → Addr} {A : Around} {d : Nat}
theorem Loc.swap {y : Str} {l : OL} {l' : List AV} {vs' : List Value} (L : Loc W Z s.heap env ρ α) (hx : ρ y = some (.own l)) (p : Step W (.addrs (· = α y)) Z s Z' s') (hz : ¬ Z' (α y)) (hp : s'.heap.PlainList (α y) vs'.toArray) (r : RepVs Z' s'.heap vs' l') :
    FStep W env Z s ρ α Z' s' (ρ.set y (.own ⟨l.place, l'⟩)) α := by
  have fb : FOwn env ρ α (α y) := .inr (.inr ⟨y, l, hx, rfl⟩)
  have kz : ∀ c o, Z c → s.heap.get? c = some o → s'.heap.get? c = some o := fun c o z e => p.keep c o (fun q => L.nz _ fb (by rw [← show c = α y from q]; exact z)) e
  obtain ⟨m, ns, hv⟩ := L.ns
  obtain ⟨n₀, vs₀, hn₀⟩ : ∃ n vs, s.heap.get? (α y) = some { cls := .type "list", data := .seq vs n } := by
    obtain ⟨v, _, _, vs, ⟨n, hn⟩, _⟩ := hv y _ hx
    exact ⟨n, _, hn⟩
  have hloc : env.locals ≠ α y := fun q => by
    obtain ⟨o, es, ep, e, dd, _⟩ := ns
    rw [q, hn₀] at e; cases e; cases dd
  have hcell : ∀ c w, s.heap.IsCell c w → c ≠ α y := fun c w hc q => by
    obtain ⟨o, e, dd⟩ := hc
    rw [q, hn₀] at e; cases e; cases dd
  have hfo : ∀ b, FOwn env (ρ.set y (.own ⟨l.place, l'⟩)) α b → FOwn env ρ α b := by
    rintro b (rfl | ⟨z, hn, hz⟩ | ⟨z, m, hz, rfl⟩)
    · exact .inl rfl
    · exact .inr (.inl ⟨z, hn, hz⟩)
    · unfold Slots.set at hz
      by_cases e : z = y
      · rw [e]; exact fb
      · rw [if_neg e] at hz; exact .inr (.inr ⟨z, m, hz, rfl⟩)
  have sub : ∀ z m, (ρ.set y (.own ⟨l.place, l'⟩)) z = some (.own m) → ∃ m', ρ z = some (.own m') ∧ m.place = m'.place := fun z m hz => by
    unfold Slots.set at hz
    by_cases e : z = y
    · rw [if_pos e] at hz; cases hz; rw [e]; exact ⟨l, hx, rfl⟩
    · rw [if_neg e] at hz; exact ⟨m, hz, rfl⟩
  refine ⟨p.mono (fun a h => .inl (by rw [show a = α y from h]; exact fb)) fun _ h => h.elim, fun b f => .inl (hfo b f), ⟨⟨m, ?_, fun z sv hz => ?_⟩, fun b f z => ?_, fun b f => L.nb b (hfo b f), fun z m b hz hb => ?_, fun x z a b hx hz e => ?_, fun z c hc => ?_, L.cinj, fun c hc => p.zsub c (L.slf c hc)⟩⟩
  · obtain ⟨o, es, ep, e, rest⟩ := ns
    exact ⟨o, es, ep, p.keep _ _ (fun q => hloc q) e, rest⟩
  · unfold Slots.set at hz
    have am : ∀ v, At s.heap env m z v → At s'.heap env m z v := fun v a => a.mono fun w c o hc e => by
      obtain ⟨w, o', e', dd⟩ := L.cell w c hc
      exact p.keep c o (fun q => hcell c w ⟨o', e', dd⟩ q) e
    by_cases e : z = y
    · rw [if_pos e] at hz
      cases hz
      obtain ⟨v, a, hv', _⟩ := hv y _ hx
      subst e
      exact ⟨v, am v a, hv', vs', hp, r⟩
    · rw [if_neg e] at hz
      obtain ⟨v, a, rv⟩ := hv z sv hz
      refine ⟨v, am v a, ?_⟩
      cases sv with
      | val av => exact rv.mono p.zsub kz
      | own l'' =>
        obtain ⟨e1, vs, ⟨n, hn⟩, rs⟩ := rv
        exact ⟨e1, vs, ⟨n, p.keep _ _ (fun q => e (L.inj z y l'' l hz hx q)) hn⟩, rs.mono p.zsub kz⟩
  · by_cases hb : b = α y
    · exact hz (hb ▸ z)
    · rcases p.znew b z with h | h | h
      · exact L.nz b (hfo b f) h
      · exact hb h
      · obtain ⟨o, e⟩ := L.alive (hfo b f); rw [h] at e; cases e
  · obtain ⟨m1, h1, h2⟩ := sub z m hz
    exact L.fix z m1 b h1 (h2 ▸ hb)
  · obtain ⟨m1, h1, _⟩ := sub x a hx
    obtain ⟨m2, h2, _⟩ := sub z b hz
    exact L.inj x z m1 m2 h1 h2 e
  · obtain ⟨w, o, e, dd⟩ := L.cell z c hc; exact ⟨w, o, p.keep c o (fun q => hcell c w ⟨o, e, dd⟩ q) e, dd⟩
theorem Loc.upd {x : Str} {l : OL} {l' : List AV} {vs' : List Value} {h' : Heap} {tk : Nat} (I : Inv W Z s) (L : Loc W Z s.heap env ρ α) (hx : ρ x = some (.own l)) (hs : Heap.SameBut (α x) s.heap h') (hp : h'.PlainList (α x) vs'.toArray) (r : RepVs Z s.heap vs' l') (htk : s.toks ≤ tk := by first | exact Nat.le_refl _ | exact Nat.le_add_right _ _ | assumption | (first | lia | omega)) :
    FStep W env Z s ρ α Z { s with heap := h', toks := tk } (ρ.set x (.own ⟨l.place, l'⟩)) α :=
  have fb : FOwn env ρ α (α x) := .inr (.inr ⟨x, l, hx, rfl⟩)
  have p : Step W (.addrs (· = α x)) Z s Z { s with heap := h', toks := tk } := store_step I L fb hs htk
  L.swap hx p (L.nz _ fb) hp (p.reps (fun b z q => L.nz _ fb (by rw [← show b = α x from q]; exact z)) r)
noncomputable def freeze (x : Str) (ρ : Slots) : Slots := match ρ x with
  | some (.own l) => ρ.set x (.val (.lst l.items))
  | _ => ρ
theorem Loc.freezeR (x : Str) (I : Inv W Z s) (L : Loc W Z s.heap env ρ α) : ∃ Z', FStep W env Z s ρ α Z' s (freeze x ρ) α ∧ ∀ l, ρ x = some (.own l) → RepV Z' s.heap (.ref (α x)) (.lst l.items) := by
  unfold Mine.freeze
  split
  · rename_i l hx
    have fb : FOwn env ρ α (α x) := .inr (.inr ⟨x, l, hx, rfl⟩)
    obtain ⟨m, ns, hv⟩ := L.ns
    obtain ⟨v, a, hv', vs, ⟨n, hn⟩, rs⟩ := hv x _ hx
    have hloc : env.locals ≠ α x := fun q => by
      obtain ⟨o, es, ep, e, dd, _⟩ := ns
      rw [q, hn] at e; cases e; cases dd
    have hcell : ∀ c w, s.heap.IsCell c w → c ≠ α x := fun c w hc q => by
      obtain ⟨o, e, dd⟩ := hc
      rw [q, hn] at e; cases e; cases dd
    have hfo : ∀ b, FOwn env (ρ.set x (.val (.lst l.items))) α b → FOwn env ρ α b ∧ b ≠ α x := by
      rintro b (rfl | ⟨y, hn', hy⟩ | ⟨y, m, hy, rfl⟩)
      · exact ⟨.inl rfl, hloc⟩
      · obtain ⟨w, hw⟩ := L.cell y _ hy; exact ⟨.inr (.inl ⟨y, hn', hy⟩), hcell _ w hw⟩
      · unfold Slots.set at hy
        by_cases e : y = x
        · rw [if_pos e] at hy; cases hy
        · rw [if_neg e] at hy; exact ⟨.inr (.inr ⟨y, m, hy, rfl⟩), fun q => e (L.inj y x m l hy hx q)⟩
    have sub : ∀ y m, (ρ.set x (.val (.lst l.items))) y = some (.own m) → ρ y = some (.own m) := fun y m hy => by
      unfold Slots.set at hy
      by_cases e : y = x
      · rw [if_pos e] at hy; cases hy
      · rwa [if_neg e] at hy
    refine ⟨fun b => Z b ∨ b = α x, ⟨⟨⟨I.ok, I.base, I.xs, fun b z => z.elim (I.zin b) fun e => ⟨_, e ▸ hn⟩, I.os, I.bare, fun b z => z.elim (I.zx b) fun e => e ▸ (L.nb _ fb).2, fun b h => .inl (I.z0 b h), I.tk⟩, fun _ _ _ e => e, fun _ z => .inl z, fun b z => z.elim .inl fun e => .inr (.inl (e ▸ fb)), fun _ _ _ e => e⟩, fun b f => .inl (hfo b f).1,
      ⟨⟨m, ns, fun y sv hy => ?_⟩, fun b f z => z.elim (L.nz b (hfo b f).1) (hfo b f).2, fun b f => L.nb b (hfo b f).1, fun y m b hy hb => L.fix y m b (sub y m hy) hb, fun y z a b hy hz e => L.inj y z a b (sub y a hy) (sub z b hz) e, L.cell, L.cinj, fun c hc => .inl (L.slf c hc)⟩⟩, fun l' hl' => (by rw [hx] at hl'; cases hl'; exact .lst (.inr rfl) ⟨_, hn, rfl, rfl, n, rfl⟩ (rs.mono (fun _ z => .inl z) fun _ _ _ e => e))⟩
    unfold Slots.set at hy
    by_cases e : y = x
    · rw [if_pos e] at hy
      cases hy
      subst e
      exact ⟨v, a, by rw [hv']; exact .lst (.inr rfl) ⟨_, hn, rfl, rfl, n, rfl⟩ (rs.mono (fun _ z => .inl z) fun _ _ _ e => e)⟩
    · rw [if_neg e] at hy
      obtain ⟨v, a, rv⟩ := hv y sv hy
      refine ⟨v, a, ?_⟩
      cases sv with
      | val av => exact rv.mono (fun _ z => .inl z) fun _ _ _ e => e
      | own l'' => obtain ⟨e1, vs, hn, rs⟩ := rv; exact ⟨e1, vs, hn, rs.mono (fun _ z => .inl z) fun _ _ _ e => e⟩
  · rename_i hno
    exact ⟨Z, .id I L, fun l hl => (hno l hl).elim⟩
theorem Loc.freeze (x : Str) (I : Inv W Z s) (L : Loc W Z s.heap env ρ α) : ∃ Z', FStep W env Z s ρ α Z' s (freeze x ρ) α := let ⟨Z', p, _⟩ := L.freezeR x I; ⟨Z', p⟩
inductive AFlow where
  | next | brk | cont
  | ret (v : AV)
noncomputable def FlowRep (Z : AddrSet) (h : Heap) : Flow → AFlow → Prop
  | .next, .next => True
  | .brk, .brk => True
  | .cont, .cont => True
  | .ret v, .ret a => RepV Z h v a
  | _, _ => False
theorem flow_cases {Z : AddrSet} {h : Heap} {P : Flow → AFlow → Prop} {f : Flow} {fl : AFlow} (r : FlowRep Z h f fl) (h1 : P .next .next) (h2 : P .brk .brk) (h3 : P .cont .cont) (h4 : ∀ v a, RepV Z h v a → P (.ret v) (.ret a)) : P f fl := by
  cases fl <;> cases f <;> first | exact r.elim | assumption | exact h4 _ _ r
noncomputable def Run (W : Wd) (A : Around) (env : Env) (Z : AddrSet) (s : Shared) (ρ : Slots) (α : Str → Addr) (t : Sem Flow) (fl : AFlow) (ρ' : Slots) : Prop :=
  ∀ (Q : Flow → Shared → Prop) (E' : Value → Shared → Prop), (∀ f s' Z' α', FStep W env Z s ρ α Z' s' ρ' α' → FlowRep Z' s'.heap f fl → Q f s') → wpAny W.M A t Q E' s
noncomputable def DenS (W : Wd) (d : Nat) (sc : Scope) (st : Stmt) (F : Slots → Option (AFlow × Slots)) : Prop :=
  ∀ (A : Around) (env : Env) (Z : AddrSet) (s : Shared) (ρ : Slots) (α : Str → Addr) (fl : AFlow) (ρ' : Slots), Room A d → EnvOk env sc → Inv W Z s → Loc W Z s.heap env ρ α → F ρ = some (fl, ρ') → Run W A env Z s ρ α (exec st env) fl ρ'
noncomputable def DenSs (W : Wd) (d : Nat) (sc : Scope) (sts : List Stmt) (F : Slots → Option (AFlow × Slots)) : Prop :=
  ∀ (A : Around) (env : Env) (Z : AddrSet) (s : Shared) (ρ : Slots) (α : Str → Addr) (fl : AFlow) (ρ' : Slots), Room A d → EnvOk env sc → Inv W Z s → Loc W Z s.heap env ρ α → F ρ = some (fl, ρ') → Run W A env Z s ρ α (execs sts env) fl ρ'
theorem dens_nil : DenSs W d sc [] fun ρ => some (.next, ρ) := by
  intro A env Z s ρ α fl ρ' R hE I L hf Q E' q
  cases hf
  exact wpAny_execs_nil (q .next s Z α (.id I L) trivial)
noncomputable def thenA (G : Slots → Option (AFlow × Slots)) : AFlow × Slots → Option (AFlow × Slots)
  | (.next, ρ) => G ρ
  | r => some r
theorem dens_cons {st : Stmt} {rest : List Stmt} {F G : Slots → Option (AFlow × Slots)} (h : DenS W d sc st F) (hr : DenSs W d sc rest G) : DenSs W d sc (st :: rest) fun ρ => F ρ >>= thenA G := by
  intro A env Z s ρ α fl ρ' R hE I L hf Q E' q
  obtain ⟨⟨fl₁, ρ₁⟩, h₁, hf⟩ := bindO hf
  refine wpAny_execs_cons (h A env Z s ρ α fl₁ ρ₁ R hE I L h₁ _ _ fun f s₁ Z₁ α₁ p₁ r₁ => ?_)
  clear h₁
  revert hf
  apply flow_cases r₁
  · exact fun hf => hr A env Z₁ s₁ ρ₁ α₁ fl ρ' R hE p₁.step.inv p₁.loc hf _ _ fun f s₂ Z₂ α₂ p₂ r₂ => q f s₂ Z₂ α₂ (p₁.trans p₂) r₂
  · intro hf; cases hf; exact q _ s₁ Z₁ α₁ p₁ trivial
  · intro hf; cases hf; exact q _ s₁ Z₁ α₁ p₁ trivial
  · intro v a r hf; cases hf; exact q _ s₁ Z₁ α₁ p₁ r
theorem dens_freeze (x : Str) {sts : List Stmt} {F : Slots → Option (AFlow × Slots)} (h : DenSs W d sc sts F) : DenSs W d sc sts fun ρ => F (freeze x ρ) := by
  intro A env Z s ρ α fl ρ' R hE I L hf Q E' q
  obtain ⟨Z₁, p⟩ := L.freeze x I
  exact h A env Z₁ s (freeze x ρ) α fl ρ' R hE p.step.inv p.loc hf _ _ fun f s₂ Z₂ α₂ p₂ r₂ => q f s₂ Z₂ α₂ (p.trans p₂) r₂
theorem den_return {e : Expr} {pos : Pos} {f : Slots → Option AV} (h : DenP W d sc e f) : DenS W d sc (.Return (some e) pos) fun ρ => f ρ >>= fun a => some (.ret a, ρ) := by
  intro A env Z s ρ α fl ρ' R hE I L hf Q E' q
  obtain ⟨a, ha, hf⟩ := bindO hf
  cases hf
  exact wpAny_Return_some (h A env Z s ρ α a R hE I L ha _ _ fun v s₁ Z₁ p r => q (.ret v) s₁ Z₁ α (.pure L p) r)
theorem den_if {test : Expr} {body orelse : List Stmt} {pos : Pos} {c : Slots → Option Bool} {F G : Slots → Option (AFlow × Slots)} (ht : DenT W d sc test c) (hb : DenSs W d sc body F) (ho : DenSs W d sc orelse G) :
    DenS W d sc (.If test body orelse pos) fun ρ => c ρ >>= fun b => if b = true then F ρ else G ρ := by
  intro A env Z s ρ α fl ρ' R hE I L hf Q E' q
  obtain ⟨b, hb', hf⟩ := bindO hf
  refine wpAny_If (ht A env Z s ρ α b R hE I L hb' _ _ fun s₁ Z₁ p₁ => ?_)
  cases b with
  | true => exact hb A env Z₁ s₁ ρ α fl ρ' R hE p₁.inv (L.step0 p₁) hf _ _ fun f s₂ Z₂ α₂ p₂ r₂ => q f s₂ Z₂ α₂ ((FStep.pure L p₁).trans p₂) r₂
  | false => exact ho A env Z₁ s₁ ρ α fl ρ' R hE p₁.inv (L.step0 p₁) hf _ _ fun f s₂ Z₂ α₂ p₂ r₂ => q f s₂ Z₂ α₂ ((FStep.pure L p₁).trans p₂) r₂
theorem Loc.storeV {x : Str} {v : Value} {av : AV} (I : Inv W Z s) (L : Loc W Z s.heap env ρ α) (hE : EnvOk env sc) (hk : Kd sc x) (r : RepV Z s.heap v av)
    {Q : Unit → Shared → Prop} {E' : Value → Shared → Prop} (h : ∀ s' α', FStep W env Z s ρ α Z s' (ρ.set x (.val av)) α' → Q () s') : wpAny W.M A (storeName env x v) Q E' s :=
  L.store (sv := .val av) (a := α x) I hE hk r (fun l e => by cases e) fun s' p fo l => h s' _ ⟨p, fun b f => (fo b f).elim .inl (fun ⟨⟨l, e⟩, _⟩ => by cases e), l⟩
theorem den_assign {x : Str} {p pos : Pos} {e : Expr} {f : Slots → Option AV} (h : DenP W d sc e f) (hk : Kd sc x) (hs : ∀ env, swapsWith e (some (.Name x p)) pos.line env = pure false) :
    DenS W d sc (.Assign [.Name x p] e pos) fun ρ => f ρ >>= fun a => some (.next, ρ.set x (.val a)) := by
  intro A env Z s ρ α fl ρ' R hE I L hf Q E' q
  obtain ⟨a, ha, hf⟩ := bindO hf
  cases hf
  exact wpAny_Assign_Name (h A env Z s ρ α a R hE I L ha _ _ fun v s₁ Z₁ p₁ r₁ => (L.step0 p₁).storeV p₁.inv hE hk r₁ fun s₂ α₂ p₂ => q .next s₂ Z₁ α₂ ((FStep.pure L p₁).trans p₂) trivial) (hs env)
noncomputable def augA (op : Operator) (a b : AV) : Option AV := match op with
  | .Add => (match a with
    | .int a => b.int? >>= fun b => some (.int (a + b))
    | .str x => b.str? >>= fun y => if x.length + y.length ≤ 16777216 then some (.str (x ++ y)) else none
    | _ => none)
  | _ => none
theorem augA_ok (I : Inv W Z s) {op : Operator} {a b c : AV} {va vb : Value} (ra : RepV Z s.heap va a) (rb : RepV Z s.heap vb b) (h : augA op a b = some c) : Gives W A Z s (inplaceOp op va vb) c := by
  cases op with
  | Add =>
    cases a with
    | int i =>
      obtain ⟨j, hj, h⟩ := bindO h; cases h
      obtain ⟨t, rfl⟩ := ra.int'; obtain ⟨t', rfl⟩ := int?_rep hj rb
      exact .val I fun Q E' q => iadd_int (q _ _ (.int _ _))
    | str x =>
      obtain ⟨y, hj, h⟩ := bindO h; obtain ⟨hc, h⟩ := iteO h; cases h
      obtain ⟨t, rfl⟩ := ra.str'; obtain ⟨t', rfl⟩ := str?_rep hj rb
      exact .val I fun Q E' q => iadd_str (fun t' tk => q _ _ (.str _ _)) hc
    | _ => cases h
  | _ => cases h
theorem den_aug {x : Str} {p pos : Pos} {op : Operator} {e : Expr} {f : Slots → Option AV} (h : DenP W d sc e f) (hk : Kd sc x) (hn : isPh x = false) :
    DenS W d sc (.AugAssign (.Name x p) op e pos) fun ρ => getV ρ x >>= fun a => f ρ >>= fun b => augA op a b >>= fun c => some (.next, ρ.set x (.val c)) := by
  intro A env Z s ρ α fl ρ' R hE I L hf Q E' q
  obtain ⟨a, ha, hf⟩ := bindO hf
  obtain ⟨b, hb, hf⟩ := bindO hf
  obtain ⟨c, hc, hf⟩ := bindO hf
  cases hf
  refine wpAny_AugAssign_Name (L.load hE (getV_eq ha) (fun va ra => h A env Z s ρ α b R hE I L hb _ _ fun vb s₁ Z₁ p₁ r₁ => augA_ok p₁.inv (p₁.rep0 ra) r₁ hc _ _ fun v s₂ Z₂ p₂ r₂ =>
    ((L.step0 p₁).step0 p₂).storeV p₂.inv hE hk r₂ fun s₃ α₃ p₃ => q .next s₃ Z₂ α₃ ((FStep.pure L (p₁.tr p₂)).trans p₃) trivial) hn)
end
end Mine
end
section
set_option linter.unusedVariables false
namespace Mine
section
variable {W : Wd} {Z Z' Z₁ : AddrSet} {s s' s₁ : Shared} {env : Env} {sc : Scope} {ρ ρ' : Slots} {α α' : Str → Addr} {A : Around} {d : Nat}
-- lists of the frame's own
noncomputable def GivesO (W : Wd) (A : Around) (Z : AddrSet) (s : Shared) (t : Sem Value) (l : List AV) : Prop :=
  ∀ (Q : Value → Shared → Prop) (E' : Value → Shared → Prop), (∀ a vs s' Z', Step W .none Z s Z' s' → s.heap.get? a = none → ¬ Z' a → s'.heap.PlainList a vs.toArray → RepVs Z' s'.heap vs l → Q (.ref a) s') → wpAny W.M A t Q E' s
noncomputable def DenO (W : Wd) (d : Nat) (sc : Scope) (e : Expr) (f : Slots → Option (List AV)) : Prop :=
  ∀ (A : Around) (env : Env) (Z : AddrSet) (s : Shared) (ρ : Slots) (α : Str → Addr) (l : List AV), Room A d → EnvOk env sc → Inv W Z s → Loc W Z s.heap env ρ α → f ρ = some l → GivesO W A Z s (eval e env) l
theorem GivesO.newLst (I : Inv W Z s) {t : Sem Value} {vs : List Value} {l : List AV} {n : Nat} (r : RepVs Z s.heap vs l)
    (h : ∀ (Q : Value → Shared → Prop) E', (∀ tk, Q (.ref s.heap.objs.size) { s with heap := s.heap.push { cls := .type "list", data := .seq vs.toArray n }, toks := tk }) → wpAny W.M A t Q E' s) : GivesO W A Z s t l :=
  fun Q E' q => wpAny_with_toks (Nat.le_refl _) (h _ _ fun tk (htk : s.toks ≤ tk) => by
    have hg := Heap.get?_push_size s.heap (o := { cls := .type "list", data := .seq vs.toArray n }) rfl
    exact q _ _ _ _ (.grow I (push_keep _ _)) (push_none _) (I.fresh_z (push_none _)) ⟨n, hg⟩ (r.mono (fun _ z => z) fun a o _ e => push_keep _ _ _ _ e))
theorem deno_list {es : List Expr} {pos : Pos} {f : Slots → Option (List AV)} (h : DenPs W d sc es f) : DenO W d sc (.List es pos) fun ρ => f ρ >>= fun l => if l.length ≤ 1000000 then some l else none := by
  intro A env Z s ρ α l' R hE I L hf Q E' q
  obtain ⟨l, hl, hf⟩ := bindO hf
  split at hf
  · cases hf
    refine List_ (h A env Z s ρ α _ R hE I L hl pos _ _ fun vs s₁ Z₁ p₁ r₁ => ?_)
    refine (GivesO.newLst (n := 0) p₁.inv r₁ fun Q E' q => wpAny_newObj_type (q _) ?_) _ _ fun a vs s₂ Z₂ p₂ hn hz hp r₂ => q a vs s₂ Z₂ (p₁.tr p₂) ((p₁.none_back hn).resolve_left id) hz hp r₂
    show vs.toArray.size ≤ sizeLine
    rw [List.size_toArray, r₁.length]; unfold sizeLine; (first | lia | omega)
  · cases hf
theorem den_ofO {e : Expr} {f : Slots → Option (List AV)} (h : DenO W d sc e f) : DenP W d sc e fun ρ => (f ρ).map .lst := by
  intro A env Z s ρ α av R hE I L hf Q E' q
  obtain ⟨l, hl, rfl⟩ := Option.map_eq_some_iff.mp hf
  refine h A env Z s ρ α l R hE I L hl _ _ fun a vs s' Z' p hn hz hp r => ?_
  obtain ⟨n, hp⟩ := hp
  refine q _ s' (fun b => Z' b ∨ b = a) ⟨⟨p.inv.ok, p.inv.base, p.inv.xs, fun b z => z.elim (p.inv.zin b) fun e => ⟨_, e ▸ hp⟩, p.inv.os, p.inv.bare, fun b z => z.elim (p.inv.zx b) fun e => e ▸ I.fresh_x hn, fun b h => .inl (p.inv.z0 b h), p.inv.tk⟩, p.keep, fun b z => .inl (p.zsub b z), fun b z => z.elim (p.znew b) fun e => .inr (.inr (e ▸ hn)), p.gens⟩
    (.lst (.inr rfl) ⟨_, hp, rfl, rfl, n, rfl⟩ (r.mono (fun _ z => .inl z) fun _ _ _ e => e))
theorem den_assignO {x : Str} {p pos : Pos} {e : Expr} {f : Slots → Option (List AV)} (h : DenO W d sc e f) (hk : Kd sc x) (hs : ∀ env, swapsWith e (some (.Name x p)) pos.line env = pure false) :
    DenS W d sc (.Assign [.Name x p] e pos) fun ρ => f ρ >>= fun l => some (.next, ρ.set x (.own ⟨none, l⟩)) := by
  intro A env Z s ρ α fl ρ' R hE I L hf Q E' q
  obtain ⟨l, hl, hf⟩ := bindO hf
  cases hf
  refine wpAny_Assign_Name (h A env Z s ρ α l R hE I L hl _ _ fun a vs s₁ Z₁ p₁ hn hz hp r => ?_) (hs env)
  have L₁ := L.step0 p₁
  refine L₁.store (sv := .own ⟨none, l⟩) (a := a) p₁.inv hE hk ⟨rfl, vs, hp, r⟩ (fun l₀ e₀ => ⟨hz, I.fresh_b hn, I.fresh_x hn, (fun b h => by cases e₀; cases h), fun y l' _ hy e => ?_⟩) fun s₂ p₂ fo L₂ => q .next s₂ Z₁ _ ⟨p₁.weak.trans p₂ (fun _ h => .inl h) (fun _ h => h.elim), fun b f => (fo b f).imp id fun ⟨_, e⟩ => e ▸ hn, L₂⟩ trivial
  obtain ⟨o, ho⟩ := L.alive (.inr (.inr ⟨y, l', hy, rfl⟩))
  rw [e, hn] at ho; cases ho
noncomputable def getO (ρ : Slots) (x : Str) : Option OL := match ρ x with | some (.own l) => some l | _ => none
theorem getO_eq {x : Str} {l : OL} (h : getO ρ x = some l) : ρ x = some (.own l) := by
  unfold getO at h
  split at h
  · cases h; assumption
  · cases h
noncomputable def getL (ρ : Slots) (x : Str) : Option (List AV) := match ρ x with | some (.own l) => some l.items | some (.val (.lst l)) => some l | _ => none
theorem getL_load {x : Str} {l : List AV} (L : Loc W Z s.heap env ρ α) (hE : EnvOk env sc) (h : getL ρ x = some l) (hn : isPh x = false) {Q : Value → Shared → Prop} {E' : Value → Shared → Prop}
    (q : ∀ a vs, s.heap.IsList a vs.toArray → RepVs Z s.heap vs l → Q (.ref a) s) : wpAny W.M A (loadName env x) Q E' s := by
  unfold getL at h
  split at h
  · rename_i e; cases h
    refine L.load hE e (fun v r => ?_) hn
    obtain ⟨rfl, vs, hp, rs⟩ := r
    exact q _ vs hp.isList rs
  · rename_i e; cases h
    refine L.load hE e (fun v r => ?_) hn
    cases r with | lst z hl rl => exact q _ _ hl.list rl
  · cases h
theorem den_len_name {x : Str} {np p pos : Pos} (hg : W.Glob "len" (.builtin "len")) (hk : sc.names.lookup ("len" : Str) = some .globalImplicit) (h1 : (x == ("__debug__" : Str)) = false) (hn : isPh x = false) :
    DenP W d sc (.Call (.Name "len" np) [.Name x p] [] pos) fun ρ => getL ρ x >>= fun l => if l.length ≤ 16777216 then some (.int l.length) else none := by
  intro A env Z s ρ α av R hE I L hf Q E' q
  obtain ⟨l, hl, hf⟩ := bindO hf
  obtain ⟨hz, hf⟩ := iteO hf
  · skip
    cases hf
    show wpAny _ _ (do callWith pos (← eval (.Name "len" np) env) [] (backTo pos (starEach [.Name x p] env)) (backToKw pos (keywordEach [] env))) _ _ _
    refine wpAny_bind (load_glob hE I hg hk (by decide) (callWith_of (P := W.K.In) rfl (keep_builtin "len") (evalArgs_ns rfl (wpAny_items_cons (wpAny_Name (getL_load L hE hl hn fun a vs hl' rl => wpAny_items_nil ⟨I.kin, ?_⟩) h1)))))
    refine len_list hl' (by simp only [List.size_toArray, rl.length]; (first | lia | omega)) ?_
    simp only [List.size_toArray, rl.length]
    exact q _ _ Z (.toks I _) (.int _ _)
theorem den_idx_name {x : Str} {p pos : Pos} {slice : Expr} {g : Slots → Option AV} (hi : DenP W d sc slice g) (hs : ∀ o i, subscripted slice false o i = operate [o, i] (getItem o i)) (h1 : (x == ("__debug__" : Str)) = false) (hn : isPh x = false) :
    DenP W d sc (.Subscript (.Name x p) slice pos) fun ρ => getL ρ x >>= fun l => g ρ >>= fun i => idxA (.lst l) i := by
  intro A env Z s ρ α av R hE I L hf Q E' q
  obtain ⟨l, hl, hf⟩ := bindO hf
  obtain ⟨i, hi', hf⟩ := bindO hf
  refine Subscript_ (wpAny_Name (getL_load L hE hl hn fun a vs hl' rl => hi A env Z s ρ α i R hE I L hi' _ _ fun vi s₂ Z₂ p₂ r₂ => ?_) h1)
  obtain ⟨k, hk', hf⟩ := bindO hf
  obtain ⟨hk, hf⟩ := iteO hf
  obtain ⟨t, rfl⟩ := int?_rep hk' r₂
  have hl₂ : s₂.heap.IsList a vs.toArray := let ⟨o, ho, r⟩ := hl'; ⟨o, p₂.keep _ _ (fun h => h) ho, r⟩
  obtain ⟨v, rv, gg⟩ := list_item_gives (W := W) (A := A) p₂.inv hl₂ (p₂.reps0 rl) hk hf
  exact tail_any hl₂.typeIs slot_list_getitem.lookup (gg _ _ (q v s₂ Z₂ p₂ rv)) (hs _ _)
theorem upd_plain {h : Heap} {a : Addr} {its : Array Value} {n : Nat} (e : h.get? a = some { cls := .type "list", data := .seq its n }) (f : Array Value → Array Value) : (h.update a (Obj.mapSeq f)).PlainList a (f its) :=
  ⟨_, Heap.get?_update_self (Obj.mapSeq f) e rfl⟩
end
end Mine
end
section
set_option linter.unusedVariables false
namespace Mine
section
variable {W : Wd} {Z Z' Z₁ : AddrSet} {s s' s₁ : Shared} {env : Env} {sc : Scope} {ρ ρ' : Slots} {α α' : Str → Addr} {A : Around} {d : Nat}
theorem own_meth {x : Str} {name : Str} {p1 apos pos : Pos} {es : List Expr} {fs : Slots → Option (List AV)} {id : String} {l : OL} {args : List AV}
    (h1 : (x == ("__debug__" : Str)) = false) (hn : isPh x = false)
    (hbase : ∀ env, attributeBase (.Name x p1) name env (eval (.Name x p1) env) = eval (.Name x p1) env)
    (hfew : ∀ env, ((backTo pos (starEach es env)).all (fun x => !x.1) && (backToKw pos (keywordEach [] env)).all (fun x => x.1.isSome) && decide (es.length + ([] : List Keyword).length + (if ([] : List Keyword).isEmpty then 0 else 1) < 30)) = true)
    (hline : (apos.endLine == pos.line) = true) (slot : Slot "list" name id) (hty : typeOf (.builtin id) = pure (.type "method_descriptor")) (ha : DenPs W d sc es fs) (hns : ∀ env pos, (backTo pos (starEach es env)).any (·.1) = false)
    (R : Room A d) (hE : EnvOk env sc) (I : Inv W Z s) (L : Loc W Z s.heap env ρ α) (hx : ρ x = some (.own l)) (hargs : fs ρ = some args) {Q : Value → Shared → Prop} {E' : Value → Shared → Prop}
    (q : ∀ its n ws s₁ Z₁, Step W .none Z s Z₁ s₁ → s₁.heap.get? (α x) = some { cls := .type "list", data := .seq (its : List Value).toArray n } → RepVs Z₁ s₁.heap its l.items → RepVs Z₁ s₁.heap ws args → wpAny W.M A (call (.builtin id) (.ref (α x) :: ws)) Q E' s₁) :
    wpAny W.M A (eval (.Call (.Attribute (.Name x p1) name apos) es [] pos) env) Q E' s := by
  refine wpAny_Call_method (hbase env) (hfew env) hline F.plainAttrs_list slot hty (wpAny_Name (L.load hE hx (fun v r => ?_) hn) h1)
  obtain ⟨rfl, its, ⟨n, hp⟩, rs⟩ := r
  refine ⟨⟨_, hp, rfl⟩, fun a e => (by cases e; exact ⟨_, hp, rfl⟩), ?_⟩
  exact callWith_den (first := [.ref (α x)]) (keep_builtin id) ha hns R hE I L hargs fun vs s₁ Z₁ p₁ r₁ => q its n vs s₁ Z₁ p₁ (p₁.keep _ _ (fun h => h) hp) (p₁.reps0 rs) r₁
theorem den_append {x : Str} {p1 apos cpos pos : Pos} {e : Expr} {f : Slots → Option AV} (h : DenP W d sc e f) (h1 : (x == ("__debug__" : Str)) = false) (hn : isPh x = false)
    (hs : ∀ env, starEach [e] env = [(false, eval e env)]) (hline : (apos.endLine == cpos.line) = true) :
    DenS W d sc (.Expr (.Call (.Attribute (.Name x p1) "append" apos) [e] [] cpos) pos) fun ρ => getO ρ x >>= fun l => f ρ >>= fun a => if l.items.length ≤ 1000000 then some (.next, ρ.set x (.own ⟨l.place, l.items ++ [a]⟩)) else none := by
  intro A env Z s ρ α fl ρ' R hE I L hf Q E' q
  obtain ⟨l, hl, hf⟩ := bindO hf
  obtain ⟨a, ha, hf⟩ := bindO hf
  obtain ⟨hz, hf⟩ := iteO hf
  · cases hf
    have hx := getO_eq hl
    have hns : ∀ env pos, (backTo pos (starEach [e] env)).any (·.1) = false := fun env pos => by rw [hs]; rfl
    refine wpAny_Expr (own_meth (es := [e]) h1 hn (fun _ => rfl) (fun env => by rw [hs]; rfl) hline F.slot_list_append F.type_list_append (denPs_cons h denPs_nil (fun env => by rw [hs]; rfl)) hns R hE I L hx (args := [a]) (by simp [ha]) fun its n ws s₁ Z₁ p₁ hp rs rw' => ?_) (by
      show (env.scope.kind == .module && _) = false
      rw [hE.kfn]; rfl)
    obtain ⟨w, rfl, rq⟩ := rw'.one
    refine append_at (n := n) hp (fun h' hsb ho' => ?_) (by rw [List.size_toArray, rs.length]; unfold sizeLine; (first | lia | omega))
    have fs := (L.step0 p₁).upd (tk := s₁.toks) (vs' := its ++ [w]) p₁.inv hx hsb ⟨n + 1, by simpa using ho'⟩ (rs.snoc rq)
    exact q .next _ Z₁ α ((FStep.pure L p₁).trans fs) trivial
noncomputable def DenTg (W : Wd) (d : Nat) (sc : Scope) (t : Expr) (G : AV → Slots → Option Slots) : Prop :=
  ∀ (A : Around) (env : Env) (Z : AddrSet) (s : Shared) (ρ : Slots) (α : Str → Addr) (v : Value) (av : AV) (ρ' : Slots), Room A d → EnvOk env sc → Inv W Z s → Loc W Z s.heap env ρ α → RepV Z s.heap v av → G av ρ = some ρ' →
    ∀ (Q : Unit → Shared → Prop) (E' : Value → Shared → Prop), (∀ s' Z' α', FStep W env Z s ρ α Z' s' ρ' α' → Q () s') → wpAny W.M A (assign t env v) Q E' s
theorem tg_name {x : Str} {p : Pos} (hk : Kd sc x) : DenTg W d sc (.Name x p) fun a ρ => some (ρ.set x (.val a)) := by
  intro A env Z s ρ α v av ρ' R hE I L r hf Q E' q
  cases hf
  show wpAny _ _ (do standAt p; bindName env x v) _ _ _
  exact wpAny_bind (wpAny_standAt (wpAny_bindName (L.storeV I hE hk r fun s' α' p => q s' Z α' p)))
end
end Mine
end
section
set_option linter.unusedVariables false
namespace Mine
section
variable {W : Wd} {Z Z' Z₁ Z₀ : AddrSet} {s s' s₁ s₀ : Shared} {env : Env} {sc : Scope} {ρ ρ' ρ₀ : Slots} {α α' α₀ : Str → Addr} {A : Around} {d : Nat}
theorem FStep.zo (L : Loc W Z s.heap env ρ α) : ∀ b, Z b → ¬ (Own.addrs (FOwn env ρ α)).a b := fun b z f => L.nz b f z
theorem exec_Assign {targets : List Expr} {value : Expr} {pos : Pos} {Q : Flow → Shared → Prop} {E' : Value → Shared → Prop} {sw : Option (List Str)} (h1 : swapsWithSole targets value pos.line env = pure false) (h2 : swappedStores targets value env = pure sw)
    (h : wpAny W.M A (eval value env) (fun v s₁ => wpAny W.M A (assignStores env v sw ((assignEach targets env).map (·.2))) Q E' s₁) E' s) : wpAny W.M A (exec (.Assign targets value pos) env) Q E' s := by
  show wpAny _ _ (do
    standAt pos
    if ← swapsWithSole targets value pos.line env then do
      evalThenUse value env fun v => assignAll v ((assignEach targets env).map (·.2))
      pure .next
    else do
      let v ← eval value env
      assignStores env v (← swappedStores targets value env) ((assignEach targets env).map (·.2))) _ _ _
  rw [h1, h2]
  exact wpAny_bind (wpAny_standAt (wpAny_bind (wpAny_pure (wpAny_bind (wpAny_mono h (fun v s₁ h' => wpAny_bind (wpAny_pure h')) fun _ _ x => x)))))
inductive SReps (Z : AddrSet) (h : Heap) (s₀ : Shared) : List Value → List SV → List Addr → Prop where
  | nil : SReps Z h s₀ [] [] []
  | val {v : Value} {a : AV} {vs : List Value} {svs : List SV} {as : List Addr} : RepV Z h v a → SReps Z h s₀ vs svs as → SReps Z h s₀ (v :: vs) (.val a :: svs) as
  | own {a : Addr} {ws : List Value} {l : List AV} {vs : List Value} {svs : List SV} {as : List Addr} : s₀.heap.get? a = none → ¬ Z a → h.PlainList a ws.toArray → RepVs Z h ws l → a ∉ as → SReps Z h s₀ vs svs as → SReps Z h s₀ (.ref a :: vs) (.own ⟨none, l⟩ :: svs) (a :: as)
theorem SReps.length {h : Heap} {vs : List Value} {svs : List SV} {as : List Addr} (r : SReps Z h s₀ vs svs as) : vs.length = svs.length := by
  induction r with
  | nil => rfl
  | val _ _ ih => simp [ih]
  | own _ _ _ _ _ _ ih => simp [ih]
theorem SReps.fresh {h : Heap} {vs : List Value} {svs : List SV} {as : List Addr} (r : SReps Z h s₀ vs svs as) : ∀ a ∈ as, s₀.heap.get? a = none ∧ ∃ o, h.get? a = some o := by
  induction r with
  | nil => intro a h; cases h
  | val _ _ ih => exact ih
  | own h1 _ hp _ _ _ ih =>
    intro a ha
    rcases List.mem_cons.mp ha with rfl | ha
    · obtain ⟨n, hp⟩ := hp; exact ⟨h1, _, hp⟩
    · exact ih a ha
theorem SReps.step {O : Own} {vs : List Value} {svs : List SV} {as : List Addr} (r : SReps Z s.heap s₀ vs svs as) (p : Step W O Z s Z' s') (hz : ∀ a, Z a → ¬ O.a a) (ha : ∀ a ∈ as, ¬ O.a a) : SReps Z' s'.heap s₀ vs svs as := by
  induction r with
  | nil => exact .nil
  | val r _ ih => exact .val (p.rep hz r) (ih ha)
  | own h1 h2 hp rs hn _ ih =>
    rename_i a _ _ _ _ _ _
    have hO := ha a (List.mem_cons_self)
    obtain ⟨n, hp⟩ := hp
    refine .own h1 (fun z => ?_) ⟨n, p.keep _ _ hO hp⟩ (p.reps hz rs) hn (ih fun b hb => ha b (List.mem_cons_of_mem _ hb))
    rcases p.znew a z with z | z | z
    · exact h2 z
    · exact hO z
    · rw [hp] at z; cases z
theorem SReps.rebase {h : Heap} {vs : List Value} {svs : List SV} {as : List Addr} (r : SReps Z h s₁ vs svs as) (hb : ∀ a, s₁.heap.get? a = none → s₀.heap.get? a = none) : SReps Z h s₀ vs svs as := by
  induction r with
  | nil => exact .nil
  | val r _ ih => exact .val r ih
  | own h1 h2 hp rs hn _ ih => exact .own (hb _ h1) h2 hp rs hn ih
noncomputable def DenEs (W : Wd) (d : Nat) (sc : Scope) (es : List Expr) (f : Slots → Option (List SV)) : Prop :=
  ∀ (A : Around) (env : Env) (Z : AddrSet) (s : Shared) (ρ : Slots) (α : Str → Addr) (l : List SV), Room A d → EnvOk env sc → Inv W Z s → Loc W Z s.heap env ρ α → f ρ = some l →
    ∀ (pos : Pos) (Q : List Value → Shared → Prop) E', (∀ vs s' Z' as, Step W .none Z s Z' s' → SReps Z' s'.heap s vs l as → Q vs s') → wpAny W.M A (spliced (backTo pos (starEach es env))) Q E' s
theorem es_nil : DenEs W d sc [] fun _ => some [] := by
  intro A env Z s ρ α l R hE I L hf pos Q E' q; cases hf; exact wpAny_items_nil (q [] s Z [] (.id I) .nil)
theorem es_own {e : Expr} {rest : List Expr} {f : Slots → Option (List AV)} {g : Slots → Option (List SV)} (he : DenO W d sc e f) (hr : DenEs W d sc rest g) (hs : ∀ env, starEach (e :: rest) env = (false, eval e env) :: starEach rest env) :
    DenEs W d sc (e :: rest) fun ρ => f ρ >>= fun a => g ρ >>= fun l => some (.own ⟨none, a⟩ :: l) := by
  intro A env Z s ρ α l R hE I L hf pos Q E' q
  obtain ⟨a, ha, hf⟩ := bindO hf
  obtain ⟨m, hm, hf⟩ := bindO hf
  cases hf
  refine wpAny_items_cons (he A env Z s ρ α a R hE I L ha _ _ fun b ws s₁ Z₁ p₁ hn hz hp rs => hr A env Z₁ s₁ ρ α m R hE p₁.inv (L.step0 p₁) hm pos _ _ fun vs s₂ Z₂ as p₂ r₂ => ?_) (hs env)
  obtain ⟨n, hp⟩ := hp
  refine q _ s₂ Z₂ (b :: as) (p₁.tr p₂) (.own hn (fun z => ?_) ⟨n, p₂.keep _ _ id hp⟩ (p₂.reps0 rs) (fun hb => ?_) (r₂.rebase fun a h => (p₁.none_back h).resolve_left id))
  · rcases p₂.znew b z with z | z | z
    · exact hz z
    · exact z
    · rw [hp] at z; cases z
  · have := (r₂.fresh b hb).1
    rw [hp] at this; cases this
noncomputable def setMany : Slots → List Str → List SV → Slots
  | ρ, x :: xs, v :: vs => setMany (ρ.set x v) xs vs
  | ρ, _, _ => ρ
noncomputable def StoresName (W : Wd) (A : Around) (env : Env) (x : Str) (f : Value → Sem Unit) : Prop := ∀ (v : Value) (Q : Unit → Shared → Prop) (E' : Value → Shared → Prop) (s : Shared), wpAny W.M A (storeName env x v) Q E' s → wpAny W.M A (f v) Q E' s
inductive StoresAll (W : Wd) (A : Around) (env : Env) : List Str → List (Value → Sem Unit) → Prop where
  | nil : StoresAll W A env [] []
  | cons {x : Str} {xs : List Str} {f : Value → Sem Unit} {fs : List (Value → Sem Unit)} : StoresName W A env x f → StoresAll W A env xs fs → StoresAll W A env (x :: xs) (f :: fs)
theorem storeMany (I₀ : Inv W Z₀ s₀) (L₀ : Loc W Z₀ s₀.heap env ρ₀ α₀) (hE : EnvOk env sc) : ∀ {xs : List Str} {fs : List (Value → Sem Unit)} {vs : List Value} {svs : List SV} {as : List Addr} {s : Shared} {ρ : Slots} {α : Str → Addr},
    StoresAll W A env xs fs → SReps Z s.heap s₀ vs svs as → xs.length = svs.length → (∀ x ∈ xs, Kd sc x) → (∀ a ∈ as, ¬ FOwn env ρ α a) → FStep W env Z₀ s₀ ρ₀ α₀ Z s ρ α →
    ∀ {Q : Unit → Shared → Prop} {E' : Value → Shared → Prop}, (∀ s' α', FStep W env Z₀ s₀ ρ₀ α₀ Z s' (setMany ρ xs svs) α' → Q () s') → wpAny W.M A (assignInOrder fs vs) Q E' s := by
  intro xs
  induction xs with
  | nil =>
    intro fs vs svs as s ρ α hF r hl hk hn p Q E' q
    cases hF
    cases r with
    | nil => exact wpAny_pure (q s α p)
    | val => cases hl
    | own => cases hl
  | cons x xs ih =>
    intro fs vs svs as s ρ α hF r hl hk hn p Q E' q
    cases hF with | cons f1 fr =>
    have kx := hk x List.mem_cons_self
    have kr : ∀ y ∈ xs, Kd sc y := fun y hy => hk y (List.mem_cons_of_mem _ hy)
    cases r with
    | nil => cases hl
    | val r1 rr =>
      rename_i v a vs svs
      refine wpAny_bind (wpAny_holding (f1 _ _ _ _ (p.loc.store (sv := .val a) (a := α x) p.step.inv hE kx r1 (fun l e => by cases e) fun s₁ p₁ fo L₁ => ?_)))
      have fs₁ : FStep W env Z s ρ α Z s₁ (ρ.set x (.val a)) (setA α x (α x)) := ⟨p₁, fun b f => (fo b f).elim .inl (fun ⟨⟨l, e⟩, _⟩ => by cases e), L₁⟩
      refine ih fr (rr.step p₁ (FStep.zo p.loc) hn) (by simpa using hl) kr (fun b hb f => ?_) (p.trans fs₁) fun s' α' p' => q s' α' p'
      rcases fo b f with f | ⟨⟨l, e⟩, _⟩
      · exact hn b hb f
      · cases e
    | own h1 h2 hp rs hna rr =>
      rename_i b ws l vs svs as
      refine wpAny_bind (wpAny_holding (f1 _ _ _ _ (p.loc.store (sv := .own ⟨none, l⟩) (a := b) p.step.inv hE kx ⟨rfl, ws, hp, rs⟩ (fun l₀ e₀ => ⟨h2, I₀.fresh_b h1, I₀.fresh_x h1, (fun b h => by cases e₀; cases h), fun y l' _ hy e => ?_⟩) fun s₁ p₁ fo L₁ => ?_)))
      · exact hn b List.mem_cons_self (.inr (.inr ⟨y, l', hy, e⟩))
      · have fs₁ : FStep W env Z₀ s₀ ρ₀ α₀ Z s₁ (ρ.set x (.own ⟨none, l⟩)) (setA α x b) :=
          ⟨p.step.trans p₁ (fun a f => p.fo a f) (fun _ h => h.elim), fun c f => (fo c f).elim (p.fo c) fun ⟨_, e⟩ => .inr (e ▸ h1), L₁⟩
        refine ih fr (rr.step p₁ (FStep.zo p.loc) fun c hc => hn c (List.mem_cons_of_mem _ hc)) (by simpa using hl) kr (fun c hc f => ?_) fs₁ fun s' α' p' => q s' α' p'
        rcases fo c f with f | ⟨_, e⟩
        · exact hn c (List.mem_cons_of_mem _ hc) f
        · exact hna (e ▸ hc)
theorem SReps.reverse {h : Heap} {vs : List Value} {svs : List SV} {as : List Addr} (r : SReps Z h s₀ vs svs as) : ∃ as', SReps Z h s₀ vs.reverse svs.reverse as' ∧ ∀ a ∈ as', a ∈ as := by
  have app : ∀ {vs ws : List Value} {svs tvs : List SV} {as bs : List Addr}, SReps Z h s₀ vs svs as → SReps Z h s₀ ws tvs bs → (∀ a ∈ as, a ∉ bs) → SReps Z h s₀ (vs ++ ws) (svs ++ tvs) (as ++ bs) := by
    intro vs ws svs tvs as bs r q hd
    induction r with
    | nil => exact q
    | val r _ ih => exact .val r (ih hd)
    | own h1 h2 hp rs hn _ ih =>
      exact .own h1 h2 hp rs (fun hm => (List.mem_append.mp hm).elim hn (hd _ List.mem_cons_self)) (ih fun a ha => hd a (List.mem_cons_of_mem _ ha))
  induction r with
  | nil => exact ⟨[], .nil, fun _ h => h⟩
  | val r _ ih =>
    obtain ⟨as', r', hs⟩ := ih
    simp only [List.reverse_cons]
    exact ⟨as' ++ [], app r' (.val r .nil) (fun _ _ h => by cases h), fun a ha => hs a (by simpa using ha)⟩
  | own h1 h2 hp rs hn _ ih =>
    rename_i a _ _ _ _ _ _
    obtain ⟨as', r', hs⟩ := ih
    simp only [List.reverse_cons]
    refine ⟨as' ++ [a], app r' (.own h1 h2 hp rs (fun h => by cases h) .nil) (fun b hb h => ?_), fun b hb => ?_⟩
    · cases List.mem_singleton.mp h; exact hn (hs _ hb)
    · rcases List.mem_append.mp hb with h | h
      · exact List.mem_cons_of_mem _ (hs b h)
      · cases List.mem_singleton.mp h; exact List.mem_cons_self
theorem tuple_made {es : List Expr} {k : Nat} {pos : Pos} {f : Slots → Option (List SV)} {l : List SV} (h : DenEs W d sc es f) (R : Room A d) (hE : EnvOk env sc) (I : Inv W Z s) (L : Loc W Z s.heap env ρ α) (hf : f ρ = some l) (hz : l.length ≤ 1000000) {Q : Value → Shared → Prop} {E' : Value → Shared → Prop}
    (q : ∀ a vs s' Z' as, Step W .none Z s Z' s' → IsTup s'.heap a vs.toArray → SReps Z' s'.heap s vs l as → Q (.ref a) s') : wpAny W.M A (eval (.Tuple es k pos) env) Q E' s := by
  refine Tuple_ (h A env Z s ρ α l R hE I L hf pos _ _ fun vs s₁ Z₁ as p₁ r₁ => wpAny_newObj_type ?_ ?_)
  · have p₂ : Step W .none Z₁ s₁ Z₁ { s₁ with heap := s₁.heap.push { cls := .type "tuple", data := .seq vs.toArray } } := .grow p₁.inv (tk := s₁.toks) (push_keep _ _)
    exact q _ vs _ Z₁ as (p₁.tr p₂) ⟨_, Heap.get?_push_size _ rfl, rfl, 0, rfl⟩ (r₁.step p₂ (fun _ _ h => h) fun _ _ h => h)
  · show vs.toArray.size ≤ sizeLine
    rw [List.size_toArray, r₁.length]; unfold sizeLine; (first | lia | omega)
theorem stores_bind (x : Str) : StoresName W A env x (bindName env x) := fun v Q E' s h => wpAny_bindName h
theorem stores_binds : ∀ xs : List Str, StoresAll W A env xs (xs.map fun n => bindName env n)
  | [] => .nil
  | x :: xs => .cons (stores_bind x) (stores_binds xs)
theorem den_assign_swap {t : Expr} {es : List Expr} {k : Nat} {tp pos : Pos} {names : List Str} {f : Slots → Option (List SV)} (h : DenEs W d sc es f) (hk : ∀ x ∈ names, Kd sc x)
    (h1 : ∀ env : Env, env.scope = sc → swapsWithSole [t] (.Tuple es k tp) pos.line env = pure false) (h2 : ∀ env : Env, env.scope = sc → swappedStores [t] (.Tuple es k tp) env = pure (some names)) :
    DenS W d sc (.Assign [t] (.Tuple es k tp) pos) fun ρ => f ρ >>= fun l => if l.length = names.length ∧ l.length ≤ 1000000 then some (.next, setMany ρ names.reverse l.reverse) else none := by
  intro A env Z s ρ α fl ρ' R hE I L hf Q E' q
  obtain ⟨l, hl, hf⟩ := bindO hf
  obtain ⟨hz, hf⟩ := iteO hf
  · skip
    cases hf
    refine exec_Assign (h1 env hE.scope) (h2 env hE.scope) (tuple_made h R hE I L hl hz.2 fun a vs s₁ Z₁ as p₁ ht rs => ?_)
    show wpAny _ _ (do rule "assign.swapped-stores"; let items ← unpackItems (.ref a) names.length none; assignInOrder (names.reverse.map fun n => bindName env n) items.reverse; pure Flow.next) _ _ _
    rw [show names.length = vs.toArray.size by rw [List.size_toArray, rs.length]; exact hz.1.symm]
    refine wpAny_bind (wpAny_rule (wpAny_bind (unpackItems_tuple R.handled ht fun h' hx => ?_)))
    have p₂ : Step W .none Z₁ s₁ Z₁ { s₁ with heap := h' } := .grow p₁.inv (tk := s₁.toks) fun b o e => hx b o (Nat.ne_of_lt (Heap.lt_size e)) e
    have rs₂ := rs.step p₂ (fun _ _ h => h) fun _ _ h => h
    obtain ⟨as', rr, hsub⟩ := rs₂.reverse
    have pp := (FStep.pure L p₁).trans (FStep.pure (L.step0 p₁) p₂)
    have fr : ∀ b ∈ as', ¬ FOwn env ρ α b := fun b hb fo => by
      obtain ⟨o, e⟩ := L.alive fo
      rw [(rs.fresh b (hsub b hb)).1] at e; cases e
    exact wpAny_bind (storeMany I L hE (stores_binds names.reverse) rr (by simp [hz.1]) (fun x hx => hk x (List.mem_reverse.mp hx)) fr pp fun s' α' p' => wpAny_pure (q .next s' Z₁ α' p' trivial))
end
end Mine
end
section
set_option linter.unusedVariables false
namespace Mine
section
variable {W : Wd} {Z Z' Z₁ Z₀ : AddrSet} {s s' s₁ s₀ : Shared} {env : Env} {sc : Scope} {ρ ρ' ρ₀ : Slots} {α α' α₀ : Str → Addr} {A : Around} {d : Nat}
noncomputable def IterAt (W : Wd) (A : Around) (Z : AddrSet) (s₀ s : Shared) (target : Expr) (it : Value) (items : List AV) : Prop :=
  ∃ (I : Addr) (fp wr : List Addr) (P : Nat → Value → Prop) (St : Nat → Heap → Prop), it = .ref I ∧ Walks W.prog W.w A I fp wr items.length P St ∧ St 0 s.heap ∧
    (∀ i v, P i v → ∃ a, items[i]? = some a ∧ RepV Z s.heap v a) ∧ (∀ b ∈ wr, s₀.heap.get? b = none ∧ ¬ Z b) ∧ (∀ b ∈ fp, b ∈ wr ∨ Z b) ∧ (∀ i h, St i h → ∀ b ∈ wr, ∃ o, h.get? b = some o) ∧
    (∀ i v (s' : Shared) (Q : Unit → Shared → Prop) (E' : Value → Shared → Prop), St i s'.heap → Q () s' → wpAny W.M A (letOwnedTupleGo target it v) Q E' s')
noncomputable def DenIt (W : Wd) (d : Nat) (sc : Scope) (target e : Expr) (g : Slots → Option (List AV)) : Prop :=
  ∀ (A : Around) (env : Env) (Z : AddrSet) (s : Shared) (ρ : Slots) (α : Str → Addr) (items : List AV), Room A d → EnvOk env sc → Inv W Z s → Loc W Z s.heap env ρ α → g ρ = some items →
    ∀ (Q : Value → Shared → Prop) (E' : Value → Shared → Prop), (∀ x s₁ Z₁, Step W .none Z s Z₁ s₁ → (∀ (Q' : Value → Shared → Prop) (E'' : Value → Shared → Prop), (∀ it s₂ Z₂, Step W .none Z₁ s₁ Z₂ s₂ → IterAt W A Z₂ s s₂ target it items → Q' it s₂) → wpAny W.M A (pyIter x) Q' E'' s₁) → Q x s₁) →
      wpAny W.M A (eval e env) Q E' s
inductive PlainTg : Expr → Prop
  | name (x : Str) (p : Pos) : PlainTg (.Name x p)
  | tup (es : List Expr) (k : Nat) (p : Pos) : PlainTg (.Tuple es k p)
theorem letGo_cls {target : Expr} {I : Addr} {o : Obj} {n : String} {v : Value} {Q : Unit → Shared → Prop} {E' : Value → Shared → Prop} (ht : PlainTg target) (ho : s.heap.get? I = some o) (hc : o.cls = .type n)
    (hn : (["enumerate", "zip", "dict_itemiterator", "dict_reverseitemiterator", "odict_iterator", "itertools.zip_longest", "itertools.pairwise"] : List String).contains n = false) (q : Q () s) : wpAny W.M A (letOwnedTupleGo target (.ref I) v) Q E' s := by
  cases ht with
  | name => exact wpAny_pure q
  | tup es k p =>
    unfold letOwnedTupleGo
    cases v with
    | ref a =>
      refine wpAny_bind (wpAny_load ho ?_)
      obtain ⟨c, dd, dat, sl⟩ := o
      cases (show c = _ from hc)
      cases dat with
      | fields vs =>
        simp only [hn, Bool.false_and, Bool.false_eq_true, if_false]
        exact wpAny_pure q
      | _ => exact wpAny_pure q
    | _ => exact wpAny_pure q
noncomputable def signsA (x : Str) : List AV := x.cps.toList.map fun c => .str (sign1 c)
noncomputable def iterA : AV → Option (List AV)
  | .lst l => some l
  | .tup l => some l
  | .str x => some (signsA x)
  | _ => none
theorem RepVs.back {h : Heap} {vs : List Value} {l : List AV} (rl : RepVs Z h vs l) {i : Nat} {w : Value} (hw : vs.toArray[i]? = some w) : ∃ a, l[i]? = some a ∧ RepV Z h w a := by
  rw [List.getElem?_toArray] at hw
  have hlt : i < l.length := by
    rw [← rl.length]; exact (List.getElem?_eq_some_iff.mp hw).1
  obtain ⟨u, hu, ru⟩ := rl.get (List.getElem?_eq_getElem hlt)
  rw [hw] at hu; cases hu
  exact ⟨_, List.getElem?_eq_getElem hlt, ru⟩
theorem iter_seq {a : Addr} {vs : List Value} {items : List AV} {target : Expr} {T : String} {St : Nat → Heap → Prop} (ht : PlainTg target) (I : Inv W Z s) (hb : ∀ a, s.heap.get? a = none → s₀.heap.get? a = none) (z : Z a) (rl : RepVs Z s.heap vs items)
    (hn : (["enumerate", "zip", "dict_itemiterator", "dict_reverseitemiterator", "odict_iterator", "itertools.zip_longest", "itertools.pairwise"] : List String).contains T = false)
    (Wk : Walks W.prog W.w A s.heap.objs.size [s.heap.objs.size, a] [s.heap.objs.size] vs.toArray.size (fun i v => vs.toArray[i]? = some v) St) (hst : ∀ i h, St i h → ∃ o, h.get? s.heap.objs.size = some o ∧ o.cls = .type T) (st : St 0 (s.heap.push { cls := .type T, data := .fields #[.ref a, .int 0 0] })) :
    IterAt W A Z s₀ { s with heap := s.heap.push { cls := .type T, data := .fields #[.ref a, .int 0 0] } } target (.ref s.heap.objs.size) items := by
  have p : Step W .none Z s Z { s with heap := s.heap.push { cls := .type T, data := .fields #[.ref a, .int 0 0] } } := .grow I (tk := s.toks) (push_keep _ _)
  rw [show vs.toArray.size = items.length from rl.length] at Wk
  refine ⟨s.heap.objs.size, [s.heap.objs.size, a], [s.heap.objs.size], _, St, rfl, Wk, st, fun i w hw => ?_, fun b hb' => ?_, fun b hb' => ?_, fun i h st b hb' => ?_, fun i w s' Q E'' st q' => ?_⟩
  · obtain ⟨b, hb', ru⟩ := rl.back hw; exact ⟨b, hb', p.rep0 ru⟩
  · cases List.mem_singleton.mp hb'; exact ⟨hb _ (push_none _), I.fresh_z (push_none _)⟩
  · rcases List.mem_cons.mp hb' with e | e
    · exact .inl (e ▸ List.mem_singleton_self _)
    · cases List.mem_singleton.mp e; exact .inr z
  · cases List.mem_singleton.mp hb'; obtain ⟨o, ho, _⟩ := hst i h st; exact ⟨o, ho⟩
  · obtain ⟨o, ho, hc⟩ := hst i _ st
    exact letGo_cls ht ho hc hn q'
theorem iter_val {v : Value} {av : AV} {items : List AV} {target : Expr} (ht : PlainTg target) (R : Room A d) (I : Inv W Z s) (hb : ∀ a, s.heap.get? a = none → s₀.heap.get? a = none) (r : RepV Z s.heap v av) (h : iterA av = some items) {Q : Value → Shared → Prop} {E' : Value → Shared → Prop}
    (q : ∀ it s₂ Z₂, Step W .none Z s Z₂ s₂ → IterAt W A Z₂ s₀ s₂ target it items → Q it s₂) : wpAny W.M A (pyIter v) Q E' s := by
  cases av with
  | lst _ =>
    cases h
    obtain ⟨a, vs, rfl, z, hl, rl⟩ := r.lst'
    have hne : a ≠ s.heap.objs.size := by obtain ⟨o, ho, _⟩ := hl; exact Nat.ne_of_lt (Heap.lt_size ho)
    refine wpAny_pyIter_list hl (q _ _ Z (.grow I (tk := s.toks) (push_keep _ _)) (iter_seq ht I hb z rl (by decide) (Walks.list (prog := W.prog) (w := W.w) R.handled s.heap.objs.size a hne vs.toArray) (fun i h st => ?_) ⟨⟨_, Heap.get?_push_size _ rfl, rfl, rfl⟩, let ⟨o, ho, r⟩ := hl; ⟨o, Heap.get?_push_of_some _ ho, r⟩⟩))
    obtain ⟨o, ho, hc, _⟩ := st.1; exact ⟨o, ho, hc⟩
  | tup _ =>
    cases h
    obtain ⟨a, vs, rfl, z, hl, rl⟩ := r.tup'
    have hne : a ≠ s.heap.objs.size := by obtain ⟨o, ho, _⟩ := hl; exact Nat.ne_of_lt (Heap.lt_size ho)
    refine wpAny_pyIter_tuple hl (q _ _ Z (.grow I (tk := s.toks) (push_keep _ _)) (iter_seq ht I hb z rl (by decide) (Walks.tuple (prog := W.prog) (w := W.w) R.handled s.heap.objs.size a hne vs.toArray) (fun i h st => ?_) ⟨⟨_, Heap.get?_push_size _ rfl, rfl, rfl⟩, let ⟨o, ho, r⟩ := hl; ⟨o, Heap.get?_push_of_some _ ho, r⟩⟩))
    obtain ⟨o, ho, hc, _⟩ := st.1; exact ⟨o, ho, hc⟩
  | str x =>
    cases h
    obtain ⟨t, rfl⟩ := r.str'
    refine wpAny_pyIter_strU ?_
    have p : Step W .none Z s Z { s with heap := s.heap.push { cls := .type (strIterType x), data := .fields #[.str x t, .int 0 0] } } := .grow I (tk := s.toks) (push_keep _ _)
    refine q _ _ Z p ⟨s.heap.objs.size, [s.heap.objs.size], [s.heap.objs.size], SignAt x, fun i h => h.IsStrIter s.heap.objs.size (strIterType x) x t i, rfl, ?_, ⟨_, Heap.get?_push_size _ rfl, rfl, rfl⟩, fun i w hw => ?_, fun b hb' => ?_, fun b hb' => ?_, fun i h st b hb' => ?_, fun i w s' Q E'' st q' => ?_⟩
    · rw [show (signsA x).length = x.cps.size by simp [signsA]]
      cases ha : x.cps.all (· < 128)
      · have := Walks.strWide (prog := W.prog) (w := W.w) R.handled s.heap.objs.size x t
        simpa [strIterType, ha] using this
      · have := Walks.strAscii (prog := W.prog) (w := W.w) R.handled s.heap.objs.size x t
        simpa [strIterType, ha] using this
    · obtain ⟨c, u, hc, rfl⟩ := hw
      exact ⟨.str (sign1 c), by simp [signsA, hc], .str _ _⟩
    · cases List.mem_singleton.mp hb'; exact ⟨hb _ (push_none _), I.fresh_z (push_none _)⟩
    · exact .inl hb'
    · cases List.mem_singleton.mp hb'; obtain ⟨o, ho, _⟩ := st; exact ⟨o, ho⟩
    · obtain ⟨o, ho, hc, _⟩ := st
      refine letGo_cls ht ho hc ?_ q'
      unfold strIterType
      split <;> decide
  | _ => cases h
theorem it_val {target e : Expr} {f : Slots → Option AV} (h : DenP W d sc e f) (ht : PlainTg target) : DenIt W d sc target e fun ρ => f ρ >>= iterA := by
  intro A env Z s ρ α items R hE I L hf Q E' q
  obtain ⟨a, ha, hf⟩ := bindO hf
  exact h A env Z s ρ α a R hE I L ha _ _ fun v s₁ Z₁ p₁ r₁ => q v s₁ Z₁ p₁ fun Q' E'' q' => iter_val (s₀ := s) ht R p₁.inv (fun a h => (p₁.none_back h).resolve_left id) r₁ hf q'
theorem small_ok {a b c : Int} (ha : -1000000000 < a ∧ a < 1000000000) (hb : -1000000000 < b ∧ b < 1000000000) (hc : 0 < c ∧ c < 1000000000) : Builtin.Range.small a b c = true := by
  have h0 : 0 ≤ Builtin.Range.rangeSize a b c ∧ Builtin.Range.rangeSize a b c ≤ 3000000000 := by
    unfold Builtin.Range.rangeSize
    rw [if_pos (by (first | lia | omega))]
    split
    · have h1 : 0 ≤ (b - a - 1) / c := Int.ediv_nonneg (by (first | lia | omega)) (by (first | lia | omega))
      have h2 : (b - a - 1) / c ≤ b - a - 1 := Int.ediv_le_self _ (by (first | lia | omega))
      (first | lia | omega)
    · (first | lia | omega)
  have hf : ∀ x : Int, -10000000000 < x → x < 10000000000 → Builtin.Range.rangeFitsLong x = true := fun x h1 h2 => by
    unfold Builtin.Range.rangeFitsLong; simp; (first | lia | omega)
  unfold Builtin.Range.small
  rw [hf a (by (first | lia | omega)) (by (first | lia | omega)), hf b (by (first | lia | omega)) (by (first | lia | omega)), hf c (by (first | lia | omega)) (by (first | lia | omega)), hf _ (by (first | lia | omega)) (by (first | lia | omega)), if_pos (by (first | lia | omega)), hf (b + (c - 1)) (by (first | lia | omega)) (by (first | lia | omega))]
  simp
noncomputable def rangeL (a c : Int) : Nat → List AV
  | 0 => []
  | n + 1 => .int a :: rangeL (a + c) c n
theorem rangeL_get (c : Int) : ∀ (n : Nat) (a : Int) (i : Nat), i < n → (rangeL a c n)[i]? = some (.int (a + i * c))
  | 0, _, _, h => by (first | lia | omega)
  | n + 1, a, 0, _ => by simp [rangeL]
  | n + 1, a, i + 1, h => by
    rw [rangeL, List.getElem?_cons_succ, rangeL_get c n (a + c) i (by (first | lia | omega))]
    congr 2
    push_cast
    rw [Int.add_mul, Int.one_mul]; (first | lia | omega)
theorem rangeL_length (c : Int) : ∀ (n : Nat) (a : Int), (rangeL a c n).length = n
  | 0, _ => rfl
  | n + 1, a => by simp [rangeL, rangeL_length c n]
noncomputable def rangeI : List Int → Option (List AV)
  | [n] => if -1000000000 < n ∧ n < 1000000000 then some (rangeL 0 1 n.toNat) else none
  | [a, b] => if -1000000000 < a ∧ a < 1000000000 ∧ -1000000000 < b ∧ b < 1000000000 then some (rangeL a 1 (b - a).toNat) else none
  | [a, b, c] => if -1000000000 < a ∧ a < 1000000000 ∧ -1000000000 < b ∧ b < 1000000000 ∧ 0 < c ∧ c < 1000000000 then some (rangeL a c (if a < b then ((b - a - 1) / c + 1).toNat else 0)) else none
  | _ => none
noncomputable def rangeA (l : List AV) : Option (List AV) := intsOf l >>= rangeI
theorem rangeA_1 (n : Int) : rangeA [.int n] = rangeI [n] := rfl
theorem size_one (a b : Int) : Builtin.Range.rangeSize a b 1 = (b - a).toNat := by
  simp only [Builtin.Range.rangeSize]; split <;> split <;> (first | lia | omega)
noncomputable abbrev rangeObj (a b c : Int) (t u v : Tok) : Obj := { cls := .type "range", data := .fields #[.int a t, .int b u, .int c v] }
theorem small_abs {c : Int} (h0 : 0 < c) (h1 : c < 1000000000) : c.natAbs < 1073741824 := by (first | lia | omega)
theorem size_pos (a b c : Int) (h0 : 0 < c) : Builtin.Range.rangeSize a b c = ((if a < b then ((b - a - 1) / c + 1).toNat else 0 : Nat) : Int) := by
  unfold Builtin.Range.rangeSize
  rw [if_pos h0]
  by_cases hab : a < b
  · have h1 : 0 ≤ (b - a - 1) / c := Int.ediv_nonneg (by (first | lia | omega)) (Int.le_of_lt h0)
    rw [if_pos hab, if_pos hab, Int.toNat_of_nonneg (Int.le_trans h1 (Int.le_add_one (Int.le_refl _)))]
  · rw [if_neg hab, if_neg hab]; rfl
theorem iter_range {r : Addr} {a b c : Int} {t u v : Tok} {n : Nat} {target : Expr} (ht : PlainTg target) (R : Room A d) (I : Inv W Z s) (hb : ∀ a, s.heap.get? a = none → s₀.heap.get? a = none) (hr : IsRange s.heap r a b c t u v) (hsm : Builtin.Range.small a b c = true) (hn : Builtin.Range.rangeSize a b c = n) {Q : Value → Shared → Prop} {E' : Value → Shared → Prop}
    (q : ∀ it s₂ Z₂, Step W .none Z s Z₂ s₂ → IterAt W A Z₂ s₀ s₂ target it (rangeL a c n) → Q it s₂) : wpAny W.M A (pyIter (.ref r)) Q E' s := by
  refine wpAny_pyIter_range hr hsm ?_
  have p : Step W .none Z s Z { s with heap := s.heap.push { cls := .type "range_iterator", data := .fields #[rawInt a, rawInt (Builtin.Range.rangeSize a b c), rawInt c] } } := .grow I (tk := s.toks) (push_keep _ _)
  refine q _ _ Z p ⟨s.heap.objs.size, [s.heap.objs.size], [s.heap.objs.size], fun i v => i < n ∧ ∃ t, v = .int (a + i * c) t, fun i h => IsRangeIter h s.heap.objs.size (a + (i : Nat) * c) ((n : Int) - (i : Nat)) c, rfl, ?_, ?_, fun i w hw => ?_, fun b hb' => ?_, fun b hb' => ?_, fun i h st b hb' => ?_, fun i w s' Q E'' st q' => ?_⟩
  · have W' := Walks.range (prog := W.prog) (w := W.w) R.handled s.heap.objs.size a c n
    rw [rangeL_length]
    exact ⟨W'.sub, W'.frame, fun i s Q E hi st hQ => W'.item i s Q E hi st fun v h' tk hv => hQ v h' tk ⟨hi, hv⟩, W'.done, W'.self⟩
  · have := Heap.get?_push_size s.heap (o := { cls := .type "range_iterator", data := .fields #[rawInt a, rawInt (Builtin.Range.rangeSize a b c), rawInt c] }) rfl
    simpa [hn] using this
  · obtain ⟨hi, t, rfl⟩ := hw
    exact ⟨_, rangeL_get c n a i hi, .int _ _⟩
  · cases List.mem_singleton.mp hb'; exact ⟨hb _ (push_none _), I.fresh_z (push_none _)⟩
  · exact .inl hb'
  · cases List.mem_singleton.mp hb'; exact ⟨_, st⟩
  · exact letGo_cls ht st rfl (by decide) q'
theorem it_range {target : Expr} {np pos : Pos} {es : List Expr} {fs : Slots → Option (List AV)} (hg : W.Glob "range" (.type "range")) (hk : sc.names.lookup ("range" : Str) = some .globalImplicit) (ha : DenPs W d sc es fs) (hns : ∀ env pos, (backTo pos (starEach es env)).any (·.1) = false) (ht : PlainTg target) :
    DenIt W d sc target (.Call (.Name "range" np) es [] pos) fun ρ => fs ρ >>= rangeA := by
  intro A env Z s ρ α items R hE I L hf Q E' q
  obtain ⟨l, hl, hf⟩ := bindO hf
  show wpAny _ _ (do callWith pos (← eval (.Name "range" np) env) [] (backTo pos (starEach es env)) (backToKw pos (keywordEach [] env))) _ _ _
  refine wpAny_bind (load_glob hE I hg hk (by decide) (callWith_den (keep_type "range") ha hns R hE I L hl fun vs s₁ Z₁ p₁ r₁ => ?_))
  obtain ⟨ns, hns', hf⟩ := bindO hf
  have ri := ints_rep r₁ hns'
  have core : ∀ (a b c : Int) (t u v : Tok) (tk : Nat) (n : Nat), s₁.toks ≤ tk → Builtin.Range.small a b c = true → Builtin.Range.rangeSize a b c = n → items = rangeL a c n →
      Q (.ref s₁.heap.objs.size) { s₁ with heap := s₁.heap.push (rangeObj a b c t u v), toks := tk } := fun a b c t u v tk n htk hsm hn hit => by
    have p₂ : Step W .none Z₁ s₁ Z₁ { s₁ with heap := s₁.heap.push (rangeObj a b c t u v), toks := tk } := .grow p₁.inv (push_keep _ _) htk
    subst hit
    exact q _ _ Z₁ (p₁.tr p₂) fun Q' E'' q' => iter_range (s₀ := s) ht R p₂.inv (fun a h => ((p₁.tr p₂).none_back h).resolve_left id) (Heap.get?_push_size _ rfl) hsm hn q'
  cases ri with
  | nil => cases hf
  | cons a t ri => cases ri with
    | nil =>
      obtain ⟨hb, hf⟩ := iteO hf; cases hf
      exact call_range_1 (core _ _ _ _ _ _ _ _ (by (first | lia | omega)) (small_ok ⟨by decide, by decide⟩ hb ⟨by decide, by decide⟩) (by rw [size_one, Int.sub_zero]) rfl)
    | cons b t' ri => cases ri with
      | nil =>
        obtain ⟨hb, hf⟩ := iteO hf; cases hf
        exact call_range_2 (core _ _ _ _ _ _ _ _ (by (first | lia | omega)) (small_ok ⟨hb.1, hb.2.1⟩ hb.2.2 ⟨by decide, by decide⟩) (size_one _ _) rfl)
      | cons c t'' ri => cases ri with
        | nil =>
          obtain ⟨hb, hf⟩ := iteO hf; cases hf
          have hc0 := hb.2.2.2.2.1
          have hc1 := hb.2.2.2.2.2
          refine call_range_3 (Int.ne_of_gt hc0) (core _ _ _ _ _ _ _ _ (by (first | lia | omega)) (small_ok ⟨hb.1, hb.2.1⟩ ⟨hb.2.2.1, hb.2.2.2.1⟩ hb.2.2.2.2) ?_ rfl) (.inl (PyProof.noPylong_small (small_abs hc0 hc1)))
          exact size_pos a b c hc0
        | cons => cases hf
theorem FStep.other {O : Own} (p : FStep W env Z s ρ α Z₁ s₁ ρ' α') (q : Step W O Z₁ s₁ Z' s') (ho : ∀ a, O.a a → s.heap.get? a = none ∧ ¬ FOwn env ρ' α' a ∧ ¬ Z₁ a) (hg : ∀ i, ¬ O.g i) : FStep W env Z s ρ α Z' s' ρ' α' :=
  ⟨p.step.trans q (fun a h => .inr (ho a h).1) (fun i h => (hg i h).elim), p.fo, p.loc.step q fun a h => (ho a h).2⟩
theorem Step.writes (I : Inv W Z s) {wr : List Addr} {h' : Heap} {tk : Nat} (hk : ∀ b o, b ∉ wr → s.heap.get? b = some o → h'.get? b = some o) (hw : ∀ b ∈ wr, W.h₀.get? b = none ∧ ¬ W.X b ∧ ¬ Z b) (htk : s.toks ≤ tk := by first | exact Nat.le_refl _ | exact Nat.le_add_right _ _ | assumption | (first | lia | omega)) : Step W (.addrs (· ∈ wr)) Z s Z { s with heap := h', toks := tk } :=
  ⟨⟨I.ok, fun b o e x => hk b o (fun hb => by rw [(hw b hb).1] at e; cases e) (I.base b o e x), fun b x => let ⟨o, e⟩ := I.xs b x; ⟨o, hk b o (fun hb => (hw b hb).2.1 x) e⟩, fun b z => let ⟨o, e⟩ := I.zin b z; ⟨o, hk b o (fun hb => (hw b hb).2.2 z) e⟩, I.os, I.bare, I.zx, I.z0, Nat.le_trans I.tk htk⟩,
    fun b o hb e => hk b o hb e, fun _ z => z, fun _ z => .inl z, fun _ _ _ e => e⟩
noncomputable def forA (T : AV → Slots → Option Slots) (B : Slots → Option (AFlow × Slots)) : List AV → Slots → Option (AFlow × Slots)
  | [], ρ => some (.next, ρ)
  | a :: l, ρ => T a ρ >>= fun ρ₁ => B ρ₁ >>= fun r => match r with
      | (.next, ρ') => forA T B l ρ'
      | (.cont, ρ') => forA T B l ρ'
      | (.brk, ρ') => some (.next, ρ')
      | (.ret v, ρ') => some (.ret v, ρ')
structure ForInv (W : Wd) (env : Env) (Z : AddrSet) (s : Shared) (ρ : Slots) (α : Str → Addr) (wr : List Addr) (St : Nat → Heap → Prop) (Z₂ : AddrSet) (s₂ s' : Shared) (i : Nat) (Z' : AddrSet) (ρ₁ : Slots) (α' : Str → Addr) : Prop where
  f : FStep W env Z s ρ α Z' s' ρ₁ α'
  st : St i s'.heap
  w : ∀ b ∈ wr, ¬ FOwn env ρ₁ α' b ∧ ¬ Z' b
  z : ∀ b o, Z₂ b → s₂.heap.get? b = some o → s'.heap.get? b = some o
  zz : ∀ b, Z₂ b → Z' b
structure ForAt (W : Wd) (A : Around) (env : Env) (Z : AddrSet) (s : Shared) (fp wr : List Addr) (St : Nat → Heap → Prop) (P : Nat → Value → Prop) (n : Nat) (J : Addr) (Z₂ : AddrSet) : Prop where
  I : Inv W Z s
  Wk : Walks W.prog W.w A J fp wr n P St
  hw : ∀ b ∈ wr, s.heap.get? b = none ∧ ¬ Z₂ b
  hf : ∀ b ∈ fp, b ∈ wr ∨ Z₂ b
  ob : ∀ i h, St i h → ∀ b ∈ wr, ∃ o, h.get? b = some o
section
variable {fp wr : List Addr} {St : Nat → Heap → Prop} {P : Nat → Value → Prop} {n i : Nat} {J : Addr} {Z₂ Z₃ Z₆ : AddrSet} {s₂ s₃ s₆ : Shared} {ρ₃ ρ₆ : Slots} {α₃ α₆ : Str → Addr}
theorem ForInv.drawn (k : ForAt W A env Z s fp wr St P n J Z₂) (c : ForInv W env Z s ρ α wr St Z₂ s₂ s₃ i Z₃ ρ₃ α₃) {h' : Heap} {tk : Nat} {j : Nat} (st : St j h') (hk : ∀ b o, b ∉ wr → s₃.heap.get? b = some o → h'.get? b = some o) (htk : s₃.toks ≤ tk) :
    ForInv W env Z s ρ α wr St Z₂ s₂ { s₃ with heap := h', toks := tk } j Z₃ ρ₃ α₃ := by
  have p₄ : Step W (.addrs (· ∈ wr)) Z₃ s₃ Z₃ { s₃ with heap := h', toks := tk } := .writes c.f.step.inv hk fun b hb => ⟨k.I.fresh_b (k.hw b hb).1, k.I.fresh_x (k.hw b hb).1, (c.w b hb).2⟩
  exact ⟨c.f.other p₄ (fun a ha => ⟨(k.hw a ha).1, c.w a ha⟩) (fun _ h => h), st, c.w, fun b o z e => hk b o (fun hb => (c.w b hb).2 (c.zz b z)) (c.z b o z e), c.zz⟩
theorem ForInv.step (k : ForAt W A env Z s fp wr St P n J Z₂) (c : ForInv W env Z s ρ α wr St Z₂ s₂ s₃ i Z₃ ρ₃ α₃) (p : FStep W env Z₃ s₃ ρ₃ α₃ Z₆ s₆ ρ₆ α₆) : ForInv W env Z s ρ α wr St Z₂ s₂ s₆ i Z₆ ρ₆ α₆ := by
  refine ⟨c.f.trans p, k.Wk.frame _ _ _ c.st fun b hb o e => p.step.keep b o (fun fo => ?_) e, fun b hb => ?_, fun b o z e => p.step.keep b o (fun fo => c.f.loc.nz b fo (c.zz b z)) (c.z b o z e), fun b z => p.step.zsub b (c.zz b z)⟩
  · rcases k.hf b hb with h | h
    · exact (c.w b h).1 fo
    · exact c.f.loc.nz b fo (c.zz b h)
  · obtain ⟨o, e⟩ := k.ob _ _ c.st b hb
    refine ⟨fun fo => ?_, fun z => ?_⟩
    · rcases p.fo b fo with h | h
      · exact (c.w b hb).1 h
      · rw [e] at h; cases h
    · rcases p.step.znew b z with h | h | h
      · exact (c.w b hb).2 h
      · exact (c.w b hb).1 h
      · rw [e] at h; cases h
end
theorem for_loop {target : Expr} {body : List Stmt} {T : AV → Slots → Option Slots} {B : Slots → Option (AFlow × Slots)} {items : List AV} {fl : AFlow} {fp wr : List Addr} {St : Nat → Heap → Prop} {P : Nat → Value → Prop} {J : Addr} {Z₂ : AddrSet} {s₂ : Shared} {Rr : Result → Shared → Prop}
    (ht : DenTg W d sc target T) (hb : DenSs W d sc body B) (R : Room A d) (hE : EnvOk env sc) (k : ForAt W A env Z s fp wr St P items.length J Z₂) (c : ForInv W env Z s ρ α wr St Z₂ s₂ s₂ 0 Z₂ ρ α) (hP : ∀ i v, P i v → ∃ a, items[i]? = some a ∧ RepV Z₂ s₂.heap v a)
    (hgo : ∀ i v (s' : Shared) (Q : Unit → Shared → Prop) (E' : Value → Shared → Prop), St i s'.heap → Q () s' → wpAny W.M A (letOwnedTupleGo target (.ref J) v) Q E' s') (hf : forA T B items ρ = some (fl, ρ'))
    (q : ∀ f s' Z' α', FStep W env Z s ρ α Z' s' ρ' α' → FlowRep Z' s'.heap f fl → Rr (.ok f) s') : codeAny W.M A (.forLoop target (.ref J) body [] env) Rr s₂ := by
  refine codeAny_forLoop_any (fun k s' => ∃ Z' ρ₁ α' i, ForInv W env Z s ρ α wr St Z₂ s₂ s' i Z' ρ₁ α' ∧ k = items.length - i ∧ i ≤ items.length ∧ forA T B (items.drop i) ρ₁ = some (fl, ρ')) ?_ items.length ⟨Z₂, ρ, α, 0, c, rfl, Nat.zero_le _, hf⟩
  clear c hf
  rintro _ s₃ ⟨Z₃, ρ₃, α₃, i, c, rfl, hi', hfa⟩
  by_cases hlt : i < items.length
  · refine wpAny_with_toks (Nat.le_refl _) (k.Wk.item i s₃ _ _ hlt c.st fun v h' tk hv st₄ hk => fun (htk : s₃.toks ≤ tk) => ?_)
    have c4 := c.drawn (tk := tk) k st₄ hk htk
    clear c
    obtain ⟨a, ha, ra⟩ := hP i v hv
    refine hgo (i + 1) v _ _ _ st₄ ?_
    rw [List.drop_eq_getElem_cons hlt, Option.some.inj ((List.getElem?_eq_getElem hlt).symm.trans ha)] at hfa
    unfold forA at hfa
    obtain ⟨ρ₅, h₅, hfa⟩ := bindO hfa
    obtain ⟨⟨fl₆, ρ₆⟩, h₆, hfa⟩ := bindO hfa
    refine ht A env Z₃ _ ρ₃ α₃ v a ρ₅ R hE c4.f.step.inv c4.f.loc (ra.mono c4.zz c4.z) h₅ _ _ fun s₅ Z₅ α₅ f₅ => ?_
    have c5 := c4.step k f₅
    clear c4 f₅ h₅
    refine hb A env Z₅ s₅ ρ₅ α₅ fl₆ ρ₆ R hE c5.f.step.inv c5.f.loc h₆ _ _ fun f s₆ Z₆ α₆ f₆ r₆ => ?_
    have c6 := c5.step k f₆
    have hlt' : items.length - (i + 1) < items.length - i := Nat.sub_lt_sub_left hlt (Nat.lt_succ_self i)
    clear h₆ f₆ c5
    revert hfa
    apply flow_cases r₆
    · exact fun hfa => ⟨items.length - (i + 1), hlt', Z₆, ρ₆, α₆, i + 1, c6, rfl, hlt, hfa⟩
    · intro hfa; cases hfa; exact q .next s₆ Z₆ α₆ c6.f trivial
    · exact fun hfa => ⟨items.length - (i + 1), hlt', Z₆, ρ₆, α₆, i + 1, c6, rfl, hlt, hfa⟩
    · intro v a r hfa; cases hfa; exact q _ s₆ Z₆ α₆ c6.f r
  · have hin : i = items.length := Nat.le_antisymm hi' (Nat.le_of_not_lt hlt)
    rw [hin, List.drop_length] at hfa
    cases hfa
    have hst : St items.length s₃.heap := hin ▸ c.st
    refine wpAny_with_toks (Nat.le_refl _) (k.Wk.done s₃ _ _ hst fun h' tk hk => fun (htk : s₃.toks ≤ tk) => ?_)
    have p₄ : Step W (.addrs (· ∈ wr)) Z₃ s₃ Z₃ { s₃ with heap := h', toks := tk } := .writes c.f.step.inv hk fun b hb => ⟨k.I.fresh_b (k.hw b hb).1, k.I.fresh_x (k.hw b hb).1, (c.w b hb).2⟩
    exact wpAny_execs_nil (q .next _ Z₃ α₃ (c.f.other p₄ (fun a ha => ⟨(k.hw a ha).1, c.w a ha⟩) (fun _ h => h)) trivial)
theorem den_for {target iter : Expr} {body : List Stmt} {pos : Pos} {g : Slots → Option (List AV)} {T : AV → Slots → Option Slots} {B : Slots → Option (AFlow × Slots)} (hi : DenIt W d sc target iter g) (ht : DenTg W d sc target T) (hb : DenSs W d sc body B) (hs : ∀ env x, foldedSetIterable iter env x = pure x) :
    DenS W d sc (.For target iter body [] pos) fun ρ => g ρ >>= fun items => forA T B items ρ := by
  intro A env Z s ρ α fl ρ' R hE I L hf Q E' q
  obtain ⟨items, hit, hf⟩ := bindO hf
  refine wpAny_For (hi A env Z s ρ α items R hE I L hit _ _ fun x s₁ Z₁ p₁ hx => hx _ _ fun it s₂ Z₂ p₂ hI => ?_) (hs env)
  obtain ⟨J, fp, wr, P, St, rfl, Wk, st, hP, hwr, hfp, hob, hgo⟩ := hI
  refine for_loop ht hb R hE ⟨I, Wk, hwr, hfp, hob⟩ ⟨(FStep.pure L p₁).trans (FStep.pure (L.step0 p₁) p₂), st, fun b hb => ⟨fun f => ?_, (hwr b hb).2⟩, fun _ _ _ e => e, fun _ z => z⟩ hP hgo hf q
  obtain ⟨o, e⟩ := L.alive f; rw [(hwr b hb).1] at e; cases e
end
end Mine
end
section
set_option linter.unusedVariables false
set_option linter.unusedSimpArgs false
namespace Mine
section
variable {W : Wd} {Z Z' Z₁ Z₀ : AddrSet} {s s' s₁ s₀ : Shared} {env : Env} {sc : Scope} {ρ ρ' ρ₀ : Slots} {α α' α₀ : Str → Addr} {A : Around} {d : Nat}
-- closures
noncomputable def closeL (env : Env) : List (Str × NameKind) → List (Str × Addr) → List (Str × Addr)
  | [], cs => cs
  | (n, k) :: r, cs => if k == .free then closeL env r ((n, (env.cells.lookup n).getD 0) :: cs) else closeL env r cs
theorem closureFor_eq {scope : Scope} (h : ∀ n, (n, NameKind.free) ∈ scope.names → ∃ c, env.cells.lookup n = some c) : closureFor scope env = pure (closeL env scope.names []) := by
  have key : ∀ (names : List (Str × NameKind)) (cs : List (Str × Addr)), (∀ n, (n, NameKind.free) ∈ names → ∃ c, env.cells.lookup n = some c) →
      (forIn names cs fun x r => match x with | (name, kind) => if (kind == .free) = true then do let a ← cellOf env name; pure (ForInStep.yield ((name, a) :: r)) else pure (ForInStep.yield r) : Sem (List (Str × Addr))) = pure (closeL env names cs) := by
    intro names
    induction names with
    | nil => intro cs _; rfl
    | cons x r ih =>
      intro cs hx
      obtain ⟨n, k⟩ := x
      rw [List.forIn_cons]
      have ih' := fun cs => ih cs fun m hm => hx m (List.mem_cons_of_mem _ hm)
      by_cases hk : (k == NameKind.free) = true
      · simp only [hk, if_true, closeL]
        have : k = .free := by simpa using hk
        subst this
        obtain ⟨c, hc⟩ := hx n List.mem_cons_self
        have e : cellOf env n = pure c := by unfold cellOf; rw [hc]
        rw [e, hc]
        exact ih' _
      · simp only [hk, if_false, closeL]
        exact ih' _
  unfold closureFor
  have := key scope.names [] h
  simp only at this ⊢
  rw [this]
  rfl
theorem closeL_lookup : ∀ (names : List (Str × NameKind)) (cs : List (Str × Addr)), (∀ n, (n, NameKind.free) ∈ names → ∃ c, env.cells.lookup n = some c) → ∀ n c, (closeL env names cs).lookup n = some c → env.cells.lookup n = some c ∨ cs.lookup n = some c
  | [], cs, _, n, c, h => .inr h
  | (m, k) :: r, cs, hx, n, c, h => by
    unfold closeL at h
    have hr := fun m hm => hx m (List.mem_cons_of_mem _ hm)
    by_cases hk : (k == NameKind.free) = true
    · rw [if_pos hk] at h
      rcases closeL_lookup r _ hr n c h with h₁ | h₁
      · exact .inl h₁
      · have hkf : k = .free := by simpa using hk
        obtain ⟨c', hc'⟩ := hx m (hkf ▸ List.mem_cons_self)
        rw [List.lookup_cons, hc'] at h₁
        by_cases e : (n == m) = true
        · rw [e] at h₁
          have enm : n = m := by simpa using e
          rw [enm, hc']
          exact .inl h₁
        · simp only [e] at h₁; exact .inr h₁
    · rw [if_neg hk] at h; exact closeL_lookup r _ hr n c h
theorem closeL_some : ∀ (names : List (Str × NameKind)) (cs : List (Str × Addr)) (n : Str), ((n, NameKind.free) ∈ names ∨ (cs.lookup n).isSome = true) → ((closeL env names cs).lookup n).isSome = true
  | [], cs, n, h => h.elim (fun h => by cases h) id
  | (m, k) :: r, cs, n, h => by
    unfold closeL
    by_cases hk : (k == NameKind.free) = true
    · rw [if_pos hk]
      refine closeL_some r _ n ?_
      by_cases e : (n == m) = true
      · exact .inr (by rw [List.lookup_cons, e]; rfl)
      · refine h.imp (fun h => ?_) fun h => by rw [List.lookup_cons]; simpa only [e] using h
        rcases List.mem_cons.mp h with h | h
        · cases h; simp at e
        · exact h
    · rw [if_neg hk]
      refine closeL_some r _ n (h.imp (fun h => ?_) id)
      rcases List.mem_cons.mp h with h | h
      · cases h; simp at hk
      · exact h
theorem lookup_mem : ∀ {names : List (Str × NameKind)} {n : Str} {k : NameKind}, names.lookup n = some k → (n, k) ∈ names
  | (m, k') :: r, n, k, h => by
    rw [List.lookup_cons] at h
    by_cases e : (n == m) = true
    · rw [e] at h
      have : n = m := by simpa using e
      subst this
      cases h
      exact List.mem_cons_self
    · simp only [e] at h; exact List.mem_cons_of_mem _ (lookup_mem h)
noncomputable def relabelS (scope sc : Scope) : Scope := { scope with names := scope.names.map fun (n, k) => if (k == .free && sc.names.lookup n == some .cell) then (n, .cell) else (n, k) }
theorem relabel_eq {scope : Scope} (hE : EnvOk env sc) : relabel scope env = relabelS scope sc := by
  unfold relabel relabelS
  congr 1
  apply List.map_congr_left
  intro x _
  obtain ⟨n, k⟩ := x
  simp only [hE.kfn, hE.kind, beq_self_eq_true, Bool.and_true]
noncomputable def relab (sc : Scope) (x : Str × NameKind) : Str × NameKind := if (x.2 == NameKind.free && sc.names.lookup x.1 == some NameKind.cell) = true then (x.1, NameKind.cell) else x
theorem relabelS_names (scope sc : Scope) : (relabelS scope sc).names = scope.names.map (relab sc) := by
  unfold relabelS
  apply List.map_congr_left
  intro x _
  obtain ⟨n, k⟩ := x
  rfl
theorem relab_fst (sc : Scope) (x : Str × NameKind) : (relab sc x).1 = x.1 := by unfold relab; split <;> rfl
theorem lookup_relab : ∀ (names : List (Str × NameKind)) (x : Str), (names.map (relab sc)).lookup x = (names.lookup x).map fun k => (relab sc (x, k)).2
  | [], x => rfl
  | (n, k) :: r, x => by
    rw [List.map_cons]
    have hf := relab_fst sc (n, k)
    rw [show relab sc (n, k) = (n, (relab sc (n, k)).2) from Prod.ext hf rfl, List.lookup_cons, List.lookup_cons]
    by_cases e : (x == n) = true
    · rw [e]
      have : x = n := by simpa using e
      rw [this]; rfl
    · have e' : (x == n) = false := by simpa using e
      rw [e']
      exact lookup_relab r x
theorem relabelS_lookup {scope : Scope} {x : Str} {k' : NameKind} (h : (relabelS scope sc).names.lookup x = some k') : ∃ k, scope.names.lookup x = some k ∧ (k' = k ∨ (k = .free ∧ k' = .cell)) := by
  rw [relabelS_names, lookup_relab] at h
  obtain ⟨k, hk, rfl⟩ := Option.map_eq_some_iff.mp h
  refine ⟨k, hk, ?_⟩
  unfold relab
  split
  · rename_i hc
    exact .inr ⟨by simpa using (Bool.and_eq_true_iff.mp hc).1, rfl⟩
  · exact .inl rfl
theorem relabelS_free {scope : Scope} {x : Str} (h : scope.names.lookup x = some .free) : (relabelS scope sc).names.lookup x = some .cell ∨ (relabelS scope sc).names.lookup x = some .free := by
  rw [relabelS_names, lookup_relab, h]
  unfold relab
  simp only [Option.map_some]
  split
  · exact .inl rfl
  · exact .inr rfl
noncomputable def capt (scope : Scope) (ρ : Slots) : Slots := fun x => if scope.names.lookup x = some .free then ρ x else none
structure CompScope (scope sc : Scope) : Prop where
  fn : scope.kind = .function
  nocell : ∀ x ∈ scope.names, x.2 ≠ .cell
  locals : ∀ x ∈ scope.names, x.2 = .local → scope.names.lookup x.1 = some .local
  free : ∀ x ∈ scope.names, x.2 = .free → scope.names.lookup x.1 = some .free ∧ (sc.names.lookup x.1 = some .cell ∨ sc.names.lookup x.1 = some .free)
theorem capt_env {scope : Scope} (hE : EnvOk env sc) (hs : CompScope scope sc) (cenv : Env) (hcl : cenv.cells = closeL env scope.names []) (hsc : cenv.scope = relabelS scope sc) (hg : cenv.globals = env.globals) (hb : cenv.builtins = env.builtins) : EnvOk cenv (relabelS scope sc) := by
  refine ⟨hsc, hg.trans hE.globals, hb.trans hE.builtins, hs.fn, fun x hx => ?_⟩
  have : scope.names.lookup x = some .free := by
    rcases hx with hx | hx
    · obtain ⟨k, hk, h⟩ := relabelS_lookup hx
      rcases h with rfl | ⟨rfl, _⟩
      · exact absurd rfl (hs.nocell _ (lookup_mem hk))
      · exact hk
    · obtain ⟨k, hk, h⟩ := relabelS_lookup hx
      rcases h with rfl | ⟨_, h⟩
      · exact hk
      · cases h
  have := closeL_some (env := env) scope.names [] x (.inl (lookup_mem this))
  rw [hcl]
  exact Option.isSome_iff_exists.mp this
theorem free_cells {scope : Scope} (hE : EnvOk env sc) (hs : CompScope scope sc) : ∀ n, (n, NameKind.free) ∈ scope.names → ∃ c, env.cells.lookup n = some c := fun n hn => hE.cells n (hs.free _ hn rfl).2
theorem capt_loc {scope : Scope} {C : Addr} {h : Heap} (hE : EnvOk env sc) (L : Loc W Z s.heap env ρ α) (hs : CompScope scope sc)
    (hk : ∀ b o, s.heap.get? b = some o → h.get? b = some o) (hz : ∀ b, Z' b → Z b ∨ s.heap.get? b = none) (hzs : ∀ b, Z b → Z' b) (hC : s.heap.get? C = none) (hCz : ¬ Z' C) (hb : W.h₀.get? C = none ∧ ¬ W.X C) {m : Str → Option Value} (hns : h.Ns C m)
    (cenv : Env) (hloc : cenv.locals = C) (hcl : cenv.cells = closeL env scope.names []) (hsc : cenv.scope = relabelS scope sc) : Loc W Z' h cenv (capt scope ρ) α := by
  have sub : ∀ n c, cenv.cells.lookup n = some c → env.cells.lookup n = some c := fun n c hn => by
    rw [hcl] at hn
    exact (closeL_lookup scope.names [] (free_cells hE hs) n c hn).resolve_right (fun h => by cases h)
  have capt_of : ∀ x sv, capt scope ρ x = some sv → scope.names.lookup x = some .free ∧ ρ x = some sv := fun x sv h => by
    unfold capt at h
    split at h
    · rename_i hf; exact ⟨hf, h⟩
    · cases h
  obtain ⟨m₀, ns₀, hv⟩ := L.ns
  have fo : ∀ b, FOwn cenv (capt scope ρ) α b → b = C ∨ FOwn env ρ α b := by
    rintro b (rfl | ⟨x, hn, hx⟩ | ⟨x, l, hx, rfl⟩)
    · exact .inl hloc
    · exact .inr (.inr (.inl ⟨x, hn, sub x b hx⟩))
    · exact .inr (.inr (.inr ⟨x, l, (capt_of x _ hx).2, rfl⟩))
  refine ⟨⟨m, hloc ▸ hns, fun x sv hx => ?_⟩, fun b f z => ?_, fun b f => ?_, fun x l b hx hb => L.fix x l b (capt_of x _ hx).2 hb, fun x y l l' hx hy e => L.inj x y l l' (capt_of x _ hx).2 (capt_of y _ hy).2 e, fun x c hx => ?_, fun x y c hx hy => L.cinj x y c (sub x c hx) (sub y c hy), fun c hx => ?_⟩
  · obtain ⟨hf, hx⟩ := capt_of x sv hx
    obtain ⟨v, a, r⟩ := hv x sv hx
    have hm := lookup_mem hf
    refine ⟨v, .inr (.inl ⟨?_, ?_⟩), ?_⟩
    · unfold Env.kindOf; rw [hsc]; exact relabelS_free hf
    · rcases a with ⟨k, _⟩ | ⟨_, c, hc, o, ho, hd⟩ | ⟨k, _⟩
      · rw [hE.kind] at k
        rcases (hs.free _ hm rfl).2 with k' | k' <;> (rw [k'] at k; cases k)
      · obtain ⟨c', hc'⟩ := Option.isSome_iff_exists.mp (closeL_some (env := env) scope.names [] x (.inl hm))
        rw [← hcl] at hc'
        have := sub x c' hc'
        rw [hc] at this; cases this
        exact ⟨c, hc', o, hk _ _ ho, hd⟩
      · rw [hE.kind] at k
        rcases (hs.free _ hm rfl).2 with k' | k' <;> (rw [k'] at k; cases k)
    · cases sv with
      | val av => exact r.mono hzs fun a o _ e => hk a o e
      | own l => obtain ⟨e, vs, ⟨n, hn⟩, rs⟩ := r; exact ⟨e, vs, ⟨n, hk _ _ hn⟩, rs.mono hzs fun a o _ e => hk a o e⟩
  · rcases fo b f with rfl | f
    · exact hCz z
    · rcases hz b z with z | z
      · exact L.nz b f z
      · obtain ⟨o, e⟩ := L.alive f; rw [e] at z; cases z
  · rcases fo b f with rfl | f
    · exact hb
    · exact L.nb b f
  · obtain ⟨v, o, ho, hd⟩ := L.cell x c (sub x c hx); exact ⟨v, o, hk _ _ ho, hd⟩
  · exact hzs c (L.slf c (sub frz c hx))
-- the tests of a comprehension
noncomputable def DenIfs (W : Wd) (d : Nat) (sc : Scope) (ifs : List Expr) (t : Slots → Option Bool) : Prop :=
  ∀ (A : Around) (env : Env) (Z : AddrSet) (s : Shared) (ρ : Slots) (α : Str → Addr) (b : Bool), Room A d → EnvOk env sc → Inv W Z s → Loc W Z s.heap env ρ α → t ρ = some b →
    GivesB W A Z s (forIn ifs true fun c r => if r = true then do let ok ← isTrue c env (eval c env); pure (ForInStep.yield ok) else pure (ForInStep.yield r)) b
theorem ifs_nil : DenIfs W d sc [] fun _ => some true := by
  intro A env Z s ρ α b R hE I L hf Q E' q; cases hf; exact wpAny_pure (q s Z (.id I))
noncomputable def compA (T : AV → Slots → Option Slots) (t : Slots → Option Bool) (f : Slots → Option AV) : List AV → Slots → Option (List AV)
  | [], _ => some []
  | a :: l, ρ => T a ρ >>= fun ρ₁ => t ρ₁ >>= fun b => if b = true then (f ρ₁ >>= fun x => (compA T t f l ρ₁).map (x :: ·)) else compA T t f l ρ₁
end
end Mine
end
section
set_option linter.unusedVariables false
namespace Mine
section
variable {W : Wd} {Z Z' Z₁ Z₀ : AddrSet} {s s' s₁ s₀ : Shared} {env : Env} {sc : Scope} {ρ ρ' ρ₀ : Slots} {α α' α₀ : Str → Addr} {A : Around} {d : Nat}
theorem codeAny_comp {elt target iter : Expr} {ifs : List Expr} {scope : Scope} {pos : Pos} {it acc : Value} {env : Env} {R : Result → Shared → Prop} (I : Nat → Shared → Prop)
    (turn : ∀ n s, I n s → wpAny W.M A (pyNext it) (fun r s₁ => match r with
      | none => R (.ok .next) s₁
      | some v => wpAny W.M A (letOwnedTupleGo target it v) (fun _ s₁' => wpAny W.M A (assign target env v) (fun _ s₂ =>
          wpAny W.M A (forIn ifs true fun c r => if r = true then do let ok ← isTrue c env (eval c env); pure (ForInStep.yield ok) else pure (ForInStep.yield r)) (fun ok s₃ =>
            if ok = true then wpAny W.M A (eval elt env) (fun x s₄ =>
              wpAny W.M A (call (.builtin "list.append") [acc, x]) (fun _ s₅ => ∃ m, m < n ∧ I m s₅) (notedBy W.M A env fun e s' => R (.error e) s') s₄) (notedBy W.M A env fun e s' => R (.error e) s') s₃
            else ∃ m, m < n ∧ I m s₃) (notedBy W.M A env fun e s' => R (.error e) s') s₂) (notedBy W.M A env fun e s' => R (.error e) s') s₁') (notedBy W.M A env fun e s' => R (.error e) s') s₁) (notedBy W.M A env fun e s' => R (.error e) s') s)
    (n : Nat) (h : I n s) : codeAny W.M A (.compLoop (.ListComp elt [⟨target, iter, ifs, 0⟩] scope pos) 0 it acc env) R s := by
  refine codeAny_loop rfl I (fun n s hI => ?_) n h
  show wpAny _ A ((compTurn (.ListComp elt [⟨target, iter, ifs, 0⟩] scope pos) 0 it acc env).onRaise (fun x => do noteFrame x env; theTreesLotGoes x)) _ _ s
  refine wpAny_noted ?_
  rw [compTurn_list]
  refine wpAny_bind (wpAny_standAt (wpAny_bind (wpAny_mono (turn n s hI) (fun r s₁ h₁ => ?_) fun _ _ h' => h')))
  cases r with
  | none => exact wpAny_pure h₁
  | some v =>
    refine wpAny_bind (wpAny_mono h₁ (fun _ s₁' h₁' => ?_) fun _ _ h' => h')
    refine wpAny_bind (wpAny_mono h₁' (fun _ s₂ h₂ => wpAny_bind (wpAny_mono h₂ (fun ok s₃ h₃ => ?_) fun _ _ h' => h')) fun _ _ h' => h')
    cases ok with
    | false => exact wpAny_pure ⟨rfl, h₃⟩
    | true => exact wpAny_bind (wpAny_bind (wpAny_mono h₃ (fun x s₄ h₄ => wpAny_bind (wpAny_mono h₄ (fun _ s₅ h₅ => wpAny_pure (wpAny_pure ⟨rfl, h₅⟩)) fun _ _ h' => h')) fun _ _ h' => h'))
-- targets that write the table of the frame alone
noncomputable def DenTgC (W : Wd) (d : Nat) (sc : Scope) (t : Expr) (G : AV → Slots → Option Slots) : Prop :=
  ∀ (A : Around) (env : Env) (Z : AddrSet) (s : Shared) (ρ : Slots) (α : Str → Addr) (v : Value) (av : AV) (ρ' : Slots), Room A d → EnvOk env sc → Inv W Z s → Loc W Z s.heap env ρ α → RepV Z s.heap v av → G av ρ = some ρ' →
    ∀ (Q : Unit → Shared → Prop) (E' : Value → Shared → Prop), (∀ s' α', Step W (.addrs (· = env.locals)) Z s Z s' → (∀ b, FOwn env ρ' α' b → FOwn env ρ α b) → Loc W Z s'.heap env ρ' α' → Q () s') → wpAny W.M A (assign t env v) Q E' s
theorem tgc_name {x : Str} {p : Pos} (hk : sc.names.lookup x = some .local) : DenTgC W d sc (.Name x p) fun a ρ => some (ρ.set x (.val a)) := by
  intro A env Z s ρ α v av ρ' R hE I L r hf Q E' q
  cases hf
  show wpAny _ _ (do standAt p; bindName env x v) _ _ _
  refine wpAny_bind (wpAny_standAt (wpAny_bindName (L.store' (sv := .val av) (a := α x) I hE (.inl hk) r (fun l e => by cases e) fun s' c fc hc p fo l => ?_)))
  have := hc hk
  subst this
  exact q s' _ p (fun b f => (fo b f).elim id (fun ⟨⟨l, e⟩, _⟩ => by cases e)) l
theorem compA_bound {T : AV → Slots → Option Slots} {t : Slots → Option Bool} {f : Slots → Option AV} : ∀ {items : List AV} {ρ : Slots} {l : List AV}, compA T t f items ρ = some l → l.length ≤ items.length
  | [], _, _, h => by cases h; exact Nat.le_refl _
  | a :: r, ρ, l, h => by
    unfold compA at h
    obtain ⟨ρ₁, _, h⟩ := bindO h
    obtain ⟨b, _, h⟩ := bindO h
    split at h
    · obtain ⟨x, _, h⟩ := bindO h
      obtain ⟨m, hm, rfl⟩ := Option.map_eq_some_iff.mp h
      have := compA_bound hm
      simp; (first | lia | omega)
    · have := compA_bound h
      simp; (first | lia | omega)
theorem Step.nz {O : Own} (p : Step W O Z s Z' s') {b : Addr} {o : Obj} (hz : ¬ Z b) (ho : ¬ O.a b) (e : s.heap.get? b = some o) : ¬ Z' b := fun z => by
  rcases p.znew b z with z | z | z
  · exact hz z
  · exact ho z
  · rw [e] at z; cases z
structure CompInv (W : Wd) (cenv : Env) (Z : AddrSet) (s : Shared) (ρc : Slots) (αc : Str → Addr) (fp wr : List Addr) (St : Nat → Heap → Prop) (D : Addr) (Z₂ : AddrSet) (s₄ : Shared) (s' : Shared) (i : Nat) (vs : List Value) (l₁ : List AV) (Z' : AddrSet) (ρ₁ : Slots) (α₁ : Str → Addr) : Prop where
  p : Step W .none Z s Z' s'
  L : Loc W Z' s'.heap cenv ρ₁ α₁
  st : St i s'.heap
  hD : s'.heap.PlainList D vs.toArray
  rs : RepVs Z' s'.heap vs l₁
  fo : ∀ b, FOwn cenv ρ₁ α₁ b → FOwn cenv ρc αc b
  Dz : ¬ Z' D
  w : ∀ b ∈ wr, ¬ Z' b
  z : ∀ b o, Z₂ b → s₄.heap.get? b = some o → s'.heap.get? b = some o
  zz : ∀ b, Z₂ b → Z' b
structure CompAt (W : Wd) (A : Around) (cenv : Env) (Z : AddrSet) (s : Shared) (ρc : Slots) (αc : Str → Addr) (fp wr : List Addr) (St : Nat → Heap → Prop) (P : Nat → Value → Prop) (n : Nat) (J : Addr) (D : Addr) (Z₂ : AddrSet) : Prop where
  I : Inv W Z s
  Wk : Walks W.prog W.w A J fp wr n P St
  hw : ∀ b ∈ wr, s.heap.get? b = none ∧ ¬ Z₂ b
  hf : ∀ b ∈ fp, b ∈ wr ∨ Z₂ b
  ob : ∀ i h, St i h → ∀ b ∈ wr, ∃ o, h.get? b = some o
  hd : s.heap.get? D = none
  Dz : ¬ Z₂ D
  Do : ¬ FOwn cenv ρc αc D
  C : s.heap.get? cenv.locals = none
  wd : ∀ b ∈ wr, b ≠ D ∧ ¬ FOwn cenv ρc αc b
section
variable {cenv : Env} {ρc ρ₁ ρ₂ : Slots} {αc α₁ α₂ : Str → Addr} {fp wr : List Addr} {St : Nat → Heap → Prop} {P : Nat → Value → Prop} {D J : Addr} {Z₂ Z₃ Z₆ : AddrSet} {s₄ s₃ s₅ s₆ : Shared} {i n : Nat} {vs : List Value} {l₁ : List AV}
theorem CompInv.snoc (k : CompAt W A cenv Z s ρc αc fp wr St P n J D Z₂) (c : CompInv W cenv Z s ρc αc fp wr St D Z₂ s₄ s₃ i vs l₁ Z₃ ρ₁ α₁) {v : Value} {x : AV} {nD : Nat} {h'' : Heap} (rv : RepV Z₃ s₃.heap v x) (hsb : Heap.SameBut D s₃.heap h'') (ho : h''.get? D = some { cls := .type "list", data := .seq (vs.toArray.push v) nD }) :
    CompInv W cenv Z s ρc αc fp wr St D Z₂ s₄ { s₃ with heap := h'' } i (vs ++ [v]) (l₁ ++ [x]) Z₃ ρ₁ α₁ := by
  have p₈ : Step W (.addrs (· ∈ [D])) Z₃ s₃ Z₃ { s₃ with heap := h'' } := .writes (tk := s₃.toks) c.p.inv (fun b o hb e => hsb.extBut b o (fun q => hb (q ▸ List.mem_singleton_self D)) e) (fun b hb => by cases List.mem_singleton.mp hb; exact ⟨k.I.fresh_b k.hd, k.I.fresh_x k.hd, c.Dz⟩)
  have hz8 : ∀ b, Z₃ b → ¬ (Own.addrs (· ∈ [D])).a b := fun b z h => by cases List.mem_singleton.mp h; exact c.Dz z
  refine ⟨c.p.trans p₈ (fun a h => .inr (by cases List.mem_singleton.mp h; exact k.hd)) fun _ h => h.elim, c.L.step p₈ fun b hb => by cases List.mem_singleton.mp hb; exact ⟨fun f => k.Do (c.fo D f), c.Dz⟩,
    k.Wk.frame _ _ _ c.st fun b hb o e => hsb.extBut b o (fun q => ?_) e, ⟨nD, by rw [← List.push_toArray]; exact ho⟩, (p₈.reps hz8 c.rs).snoc (p₈.rep hz8 rv), c.fo, c.Dz, c.w, fun b o z e => hsb.extBut b o (fun q => k.Dz (q ▸ z)) (c.z b o z e), c.zz⟩
  rcases k.hf b hb with h1 | h1
  · exact (k.wd b h1).1 q
  · exact k.Dz (q ▸ h1)
theorem CompInv.drawn (k : CompAt W A cenv Z s ρc αc fp wr St P n J D Z₂) (c : CompInv W cenv Z s ρc αc fp wr St D Z₂ s₄ s₃ i vs l₁ Z₃ ρ₁ α₁) {h' : Heap} {tk : Nat} {j : Nat} (st : St j h') (hk : ∀ b o, b ∉ wr → s₃.heap.get? b = some o → h'.get? b = some o) (htk : s₃.toks ≤ tk) :
    CompInv W cenv Z s ρc αc fp wr St D Z₂ s₄ { s₃ with heap := h', toks := tk } j vs l₁ Z₃ ρ₁ α₁ := by
  have p₄ : Step W (.addrs (· ∈ wr)) Z₃ s₃ Z₃ { s₃ with heap := h', toks := tk } := .writes c.p.inv hk fun b hb => ⟨k.I.fresh_b (k.hw b hb).1, k.I.fresh_x (k.hw b hb).1, c.w b hb⟩
  exact ⟨c.p.trans p₄ (fun a h => .inr (k.hw a h).1) fun _ h => h.elim, c.L.step p₄ fun b hb => ⟨fun fo => (k.wd b hb).2 (c.fo b fo), c.w b hb⟩, st, (let ⟨m, e⟩ := c.hD; ⟨m, hk D _ (fun h => (k.wd D h).1 rfl) e⟩), p₄.reps (fun b z h => c.w b h z) c.rs, c.fo, c.Dz, c.w,
    fun b o z e => hk b o (fun hb => c.w b hb (c.zz b z)) (c.z b o z e), c.zz⟩
theorem CompInv.bound (k : CompAt W A cenv Z s ρc αc fp wr St P n J D Z₂) (c : CompInv W cenv Z s ρc αc fp wr St D Z₂ s₄ s₃ i vs l₁ Z₃ ρ₁ α₁) (p₅ : Step W (.addrs (· = cenv.locals)) Z₃ s₃ Z₃ s₅) (fo₅ : ∀ b, FOwn cenv ρ₂ α₂ b → FOwn cenv ρ₁ α₁ b) (L₅ : Loc W Z₃ s₅.heap cenv ρ₂ α₂) :
    CompInv W cenv Z s ρc αc fp wr St D Z₂ s₄ s₅ i vs l₁ Z₃ ρ₂ α₂ := by
  have hCz : ¬ Z₃ cenv.locals := c.L.nz _ (.inl rfl)
  have hz5 : ∀ b, Z₃ b → ¬ (Own.addrs (· = cenv.locals)).a b := fun b z f => hCz (by rw [← show b = cenv.locals from f]; exact z)
  refine ⟨c.p.trans p₅ (fun a h => .inr (by rw [show a = cenv.locals from h]; exact k.C)) fun _ h => h.elim, L₅, k.Wk.frame _ _ _ c.st fun b hb o e => p₅.keep b o (fun h => ?_) e, (let ⟨m, e⟩ := c.hD; ⟨m, p₅.keep D _ (fun h => k.Do (.inl h)) e⟩), p₅.reps hz5 c.rs, fun b f => c.fo b (fo₅ b f), c.Dz, c.w,
    fun b o z e => p₅.keep b o (fun h => hz5 b (c.zz b z) h) (c.z b o z e), c.zz⟩
  rcases k.hf b hb with h1 | h1
  · exact (k.wd b h1).2 (.inl h)
  · exact hz5 b (c.zz b h1) h
theorem CompInv.pure (k : CompAt W A cenv Z s ρc αc fp wr St P n J D Z₂) (c : CompInv W cenv Z s ρc αc fp wr St D Z₂ s₄ s₃ i vs l₁ Z₃ ρ₁ α₁) (p₇ : Step W .none Z₃ s₃ Z₆ s₆) : CompInv W cenv Z s ρc αc fp wr St D Z₂ s₄ s₆ i vs l₁ Z₆ ρ₁ α₁ :=
  have ⟨m, e⟩ := c.hD
  ⟨c.p.tr p₇, c.L.step0 p₇, k.Wk.frame _ _ _ c.st fun b _ o e => p₇.keep b o id e, ⟨m, p₇.keep D _ id e⟩, p₇.reps0 c.rs, c.fo, p₇.nz c.Dz id e, fun b hb => (let ⟨_, e⟩ := k.ob _ _ c.st b hb; p₇.nz (c.w b hb) id e), fun b o z e => p₇.keep b o id (c.z b o z e), fun b z => p₇.zsub b (c.zz b z)⟩
end
theorem comp_loop {elt target iter : Expr} {ifs : List Expr} {scope : Scope} {pos : Pos} {sc' : Scope} {T : AV → Slots → Option Slots} {t : Slots → Option Bool} {f : Slots → Option AV} {items l : List AV} {cenv : Env} {ρc : Slots} {αc : Str → Addr} {D J : Addr} {Z₂ : AddrSet} {s₄ : Shared}
    {fp wr : List Addr} {P : Nat → Value → Prop} {St : Nat → Heap → Prop}
    (htg : DenTgC W d sc' target T) (hif : DenIfs W d sc' ifs t) (helt : DenP W d sc' elt f) (R : Room A d) (hE : EnvOk cenv sc') (I : Inv W Z s) (hc : compA T t f items ρc = some l) (hz : items.length ≤ 1000000)
    (p : Step W .none Z s Z₂ s₄) (Lc : Loc W Z₂ s₄.heap cenv ρc αc) (Wk : Walks W.prog W.w A J fp wr items.length P St) (st : St 0 s₄.heap) (hP : ∀ i v, P i v → ∃ a, items[i]? = some a ∧ RepV Z₂ s₄.heap v a) (hwr : ∀ b ∈ wr, s.heap.get? b = none ∧ ¬ Z₂ b) (hfp : ∀ b ∈ fp, b ∈ wr ∨ Z₂ b) (hob : ∀ i h, St i h → ∀ b ∈ wr, ∃ o, h.get? b = some o)
    (hgo : ∀ i v (s' : Shared) (Q : Unit → Shared → Prop) (E' : Value → Shared → Prop), St i s'.heap → Q () s' → wpAny W.M A (letOwnedTupleGo target (.ref J) v) Q E' s')
    (hDp : s₄.heap.PlainList D #[]) (hD : s.heap.get? D = none) (hDz : ¬ Z₂ D) (hDo : ¬ FOwn cenv ρc αc D) (hC : s.heap.get? cenv.locals = none) (hwd : ∀ b ∈ wr, b ≠ D ∧ ¬ FOwn cenv ρc αc b) {Rr : Result → Shared → Prop}
    (q : ∀ s' Z' vs m, Step W .none Z s Z' s' → ¬ Z' D → s'.heap.PlainList D vs.toArray → RepVs Z' s'.heap vs l → s'.heap.Ns cenv.locals m → ¬ Z' cenv.locals → Rr (.ok .next) s') :
    codeAny W.M A (.compLoop (.ListComp elt [⟨target, iter, ifs, 0⟩] scope pos) 0 (.ref J) (.ref D) cenv) Rr s₄ := by
  have k : CompAt W A cenv Z s ρc αc fp wr St P items.length J D Z₂ := ⟨I, Wk, hwr, hfp, hob, hD, hDz, hDo, hC, hwd⟩
  refine codeAny_comp (fun k s' => ∃ i vs l₁ Z' ρ₁ α₁, CompInv W cenv Z s ρc αc fp wr St D Z₂ s₄ s' i vs l₁ Z' ρ₁ α₁ ∧ k = items.length - i ∧ i ≤ items.length ∧ (compA T t f (items.drop i) ρ₁).map (l₁ ++ ·) = some l) ?_ items.length
    ⟨0, [], [], Z₂, ρc, αc, ⟨p, Lc, st, hDp, .nil, fun _ h => h, hDz, fun b hb => (hwr b hb).2, fun _ _ _ e => e, fun _ z => z⟩, rfl, Nat.zero_le _, by rw [List.drop_zero, hc]; rfl⟩
  clear p Lc st hDp hwr hfp hob hD hDz hDo hC hwd I
  rintro _ s₃ ⟨i, vs, l₁, Z₃, ρ₃, α₃, c, rfl, hi', hca⟩
  obtain ⟨l₂, hca, hl⟩ := Option.map_eq_some_iff.mp hca
  by_cases hlt : i < items.length
  · refine wpAny_with_toks (Nat.le_refl _) (Wk.item i s₃ _ _ hlt c.st fun v h' tk hv st₄ hk => fun (htk : s₃.toks ≤ tk) => ?_)
    obtain ⟨a, ha, ra⟩ := hP i v hv
    have c4 := c.drawn (tk := tk) k st₄ hk htk
    refine hgo (i + 1) v _ _ _ st₄ ?_
    rw [List.drop_eq_getElem_cons hlt, Option.some.inj ((List.getElem?_eq_getElem hlt).symm.trans ha)] at hca
    unfold compA at hca
    obtain ⟨ρ₅, h₅, hca⟩ := bindO hca
    obtain ⟨b, hb, hca⟩ := bindO hca
    refine htg A cenv Z₃ _ ρ₃ α₃ v a ρ₅ R hE c4.p.inv c4.L (ra.mono c4.zz c4.z) h₅ _ _ fun s₅ α₅ p₅ fo₅ L₅ => ?_
    have c5 := c4.bound k p₅ fo₅ L₅
    clear c4 c
    refine hif A cenv Z₃ s₅ ρ₅ α₅ b R hE p₅.inv L₅ hb _ _ fun s₆ Z₆ p₆ => ?_
    have c6 := c5.pure k p₆
    clear c5
    have hlt' : items.length - (i + 1) < items.length - i := Nat.sub_lt_sub_left hlt (Nat.lt_succ_self i)
    cases b with
    | false => exact ⟨items.length - (i + 1), hlt', i + 1, vs, l₁, Z₆, ρ₅, α₅, c6, rfl, hlt, Option.map_eq_some_iff.mpr ⟨l₂, hca, hl⟩⟩
    | true =>
      obtain ⟨x, hx, hca⟩ := bindO hca
      obtain ⟨l₃, hl₃, hl₂⟩ := Option.map_eq_some_iff.mp hca
      refine helt A cenv Z₆ s₆ ρ₅ α₅ x R hE p₆.inv c6.L hx _ _ fun w s₇ Z₇ p₇ rw' => ?_
      have c7 := c6.pure k p₇
      clear c6
      have hvl : vs.length ≤ 1000000 := by
        have h1 := compA_bound hc
        have h2 := c7.rs.length
        rw [← hl, List.length_append] at h1
        (first | lia | omega)
      obtain ⟨nD, r6⟩ := c7.hD
      refine append_at (n := nD) r6 (fun h'' hsb ho' => ?_) (by rw [List.size_toArray]; unfold sizeLine; (first | lia | omega))
      exact ⟨items.length - (i + 1), hlt', i + 1, vs ++ [w], l₁ ++ [x], Z₇, ρ₅, α₅, c7.snoc k rw' hsb ho', rfl, hlt, Option.map_eq_some_iff.mpr ⟨l₃, hl₃, by rw [List.append_assoc, ← hl, ← hl₂]; rfl⟩⟩
  · have hin : i = items.length := Nat.le_antisymm hi' (Nat.le_of_not_lt hlt)
    rw [hin, List.drop_length] at hca
    cases hca
    rw [List.append_nil] at hl
    refine wpAny_with_toks (Nat.le_refl _) (Wk.done s₃ _ _ (hin ▸ c.st) fun h' tk hk => fun (htk : s₃.toks ≤ tk) => ?_)
    have p₄ : Step W (.addrs (· ∈ wr)) Z₃ s₃ Z₃ { s₃ with heap := h', toks := tk } := .writes c.p.inv hk fun b hb => ⟨k.I.fresh_b (k.hw b hb).1, k.I.fresh_x (k.hw b hb).1, c.w b hb⟩
    have L₄ := c.L.step p₄ fun b hb => ⟨fun fo => (k.wd b hb).2 (c.fo b fo), c.w b hb⟩
    obtain ⟨m, ns, _⟩ := L₄.ns
    obtain ⟨nD, hDg⟩ := c.hD
    exact q _ Z₃ vs m (c.p.trans p₄ (fun a h => .inr (k.hw a h).1) fun _ h => h.elim) c.Dz ⟨nD, hk D _ (fun h => (k.wd D h).1 rfl) hDg⟩ (hl ▸ p₄.reps (fun b z h => c.w b h z) c.rs) ns (c.L.nz _ (.inl rfl))
theorem comp_core {elt target iter : Expr} {ifs : List Expr} {scope : Scope} {pos p1 : Pos} {g : Slots → Option (List AV)} {T : AV → Slots → Option Slots} {t : Slots → Option Bool} {f : Slots → Option AV} {items l : List AV} {use : Option (Value → Sem Unit)} (hs : CompScope scope sc) (hi : DenIt W d sc target iter g)
    (htg : DenTgC W d (relabelS scope sc) target T) (hif : DenIfs W d (relabelS scope sc) ifs t) (helt : DenP W d (relabelS scope sc) elt f) (hset : ∀ env x, foldedSetIterable iter env x = pure x)
    (R : Room A d) (hE : EnvOk env sc) (I : Inv W Z s) (L : Loc W Z s.heap env ρ α) (hg : g ρ = some items) (hc : compA T t f items (capt scope ρ) = some l) (hz : items.length ≤ 1000000) {Q : Value → Shared → Prop} {E' : Value → Shared → Prop}
    (q : ∀ s' Z' vs C D m, Step W .none Z s Z' s' → s.heap.get? D = none → ¬ Z' D → s'.heap.PlainList D vs.toArray → RepVs Z' s'.heap vs l → s'.heap.Ns C m → s.heap.get? C = none → ¬ Z' C → C ≠ D → compPost W.M A E' use Q (.ref D) C (.ok .next) s') :
    wpAny W.M A (comprehension (.ListComp elt [⟨target, iter, ifs, 0⟩] scope pos) scope env p1 (newList []) false (eval iter env) use) Q E' s := by
  refine wpAny_comprehension_free rfl (hset env) (closureFor_eq (free_cells hE hs)) hs.fn hs.locals (hi A env Z s ρ α items R hE I L hg _ _ fun x s₁ Z₁ p₁ hx => hx _ _ fun it s₂ Z₂ p₂ hI => ?_)
  obtain ⟨J, fp, wr, P, St, rfl, Wk, st, hP, hwr, hfp, hob, hgo⟩ := hI
  refine wpAny_newObj_type (wpAny_newFunctionEnv hs.nocell (fun x hx => by cases hx) (fun h₄ ns₄ sb₄ => ?_) hs.fn)
  have p12 := p₁.tr p₂
  have L₂ := (L.step0 p₁).step0 p₂
  have hC : (s₂.heap.push { cls := .type "list", data := .seq #[] }).get? (s₂.heap.push { cls := .type "list", data := .seq #[] }).objs.size = none := push_none _
  have kC : ∀ b o, (s₂.heap.push { cls := .type "list", data := .seq #[] }).get? b = some o → h₄.get? b = some o := fun b o e => sb₄.extBut b o (Nat.ne_of_lt (Heap.lt_size e)) (Heap.get?_push_of_some _ e)
  have k4 : ∀ b o, s₂.heap.get? b = some o → h₄.get? b = some o := fun b o e => kC b o (push_keep _ _ b o e)
  have hD2 : s₂.heap.get? s₂.heap.objs.size = none := push_none _
  have hC2 : s₂.heap.get? (s₂.heap.push { cls := .type "list", data := .seq #[] }).objs.size = none := by
    cases e : s₂.heap.get? (s₂.heap.push { cls := .type "list", data := .seq #[] }).objs.size with
    | none => rfl
    | some o => rw [push_keep _ _ _ _ e] at hC; cases hC
  have hDg : h₄.get? s₂.heap.objs.size = some { cls := .type "list", data := .seq #[] } := kC _ _ (Heap.get?_push_size s₂.heap rfl)
  have hCD : (s₂.heap.push { cls := .type "list", data := .seq #[] }).objs.size ≠ s₂.heap.objs.size := fun e => by
    rw [e, Heap.get?_push_size s₂.heap rfl] at hC; cases hC
  have p24 : ∀ tk, s₂.toks ≤ tk → Step W .none Z₂ s₂ Z₂ { s₂ with heap := h₄, toks := tk } := fun tk htk => .grow p₂.inv k4 htk
  have hDs : s.heap.get? s₂.heap.objs.size = none := (p12.none_back hD2).resolve_left id
  have hCs : s.heap.get? (s₂.heap.push { cls := .type "list", data := .seq #[] }).objs.size = none := (p12.none_back hC2).resolve_left id
  have rl := relabel_eq (scope := scope) hE
  have al : ∀ b ∈ wr, ∃ o, s₂.heap.get? b = some o := hob _ _ st
  have key : codeAny W.M A (.compLoop (.ListComp elt [⟨target, iter, ifs, 0⟩] scope pos) 0 (.ref J) (.ref s₂.heap.objs.size) (compEnvC scope (closeL env scope.names []) (s₂.heap.push { cls := .type "list", data := .seq #[] }).objs.size env)) (compPost W.M A E' use Q (.ref s₂.heap.objs.size) (s₂.heap.push { cls := .type "list", data := .seq #[] }).objs.size) { s₂ with heap := h₄ } := by
    have Lc : Loc W Z₂ h₄ (compEnvC scope (closeL env scope.names []) (s₂.heap.push { cls := .type "list", data := .seq #[] }).objs.size env) (capt scope ρ) α :=
      capt_loc hE L₂ hs k4 (fun b z => .inl z) (fun _ z => z) hC2 (p₂.inv.fresh_z hC2) ⟨p₂.inv.fresh_b hC2, p₂.inv.fresh_x hC2⟩ ns₄ _ rfl rfl rl
    have fo : ∀ b, FOwn (compEnvC scope (closeL env scope.names []) (s₂.heap.push { cls := .type "list", data := .seq #[] }).objs.size env) (capt scope ρ) α b → b = (s₂.heap.push { cls := .type "list", data := .seq #[] }).objs.size ∨ ∃ o, s.heap.get? b = some o := by
      rintro b (e | ⟨x, hn, hx⟩ | ⟨x, m, hx, rfl⟩)
      · exact .inl e
      · exact .inr (L.alive (.inr (.inl ⟨x, hn, (closeL_lookup scope.names [] (free_cells hE hs) x b hx).resolve_right (fun h => by cases h)⟩)))
      · refine .inr (L.alive (.inr (.inr ⟨x, m, ?_, rfl⟩)))
        unfold capt at hx
        split at hx
        · exact hx
        · cases hx
    refine comp_loop (D := s₂.heap.objs.size) (cenv := compEnvC scope (closeL env scope.names []) (s₂.heap.push { cls := .type "list", data := .seq #[] }).objs.size env) htg hif helt R (capt_env hE hs _ rfl rl rfl rfl) I hc hz (p12.tr (p24 s₂.toks (Nat.le_refl _))) Lc Wk (Wk.frame _ _ _ st fun b _ o e => k4 b o e) (fun i v hv => ?_) hwr hfp hob hgo ⟨0, hDg⟩ hDs (p₂.inv.fresh_z hD2) (fun f => ?_) hCs (fun b hb => ⟨fun e => ?_, fun f => ?_⟩)
      fun s' Z' vs m p hz' hp rs ns hzC => q s' Z' vs _ _ m p hDs hz' hp rs ns hCs hzC hCD
    · obtain ⟨a, ha, ra⟩ := hP i v hv
      exact ⟨a, ha, (p24 s₂.toks (Nat.le_refl _)).rep0 ra⟩
    · rcases fo _ f with e | ⟨o, e⟩
      · exact hCD e.symm
      · rw [hDs] at e; cases e
    · obtain ⟨o, h⟩ := al b hb; rw [e, hD2] at h; cases h
    · rcases fo _ f with e | ⟨o, e⟩
      · obtain ⟨o, h⟩ := al b hb; rw [e, hC2] at h; cases h
      · rw [(hwr b hb).1] at e; cases e
  refine codeAny_compStart_list key (Wk.self 0 _ _ _ (Wk.frame _ _ _ st fun b _ o e => k4 b o e) key)
theorem deno_comp {elt target iter : Expr} {ifs : List Expr} {scope : Scope} {pos : Pos} {g : Slots → Option (List AV)} {T : AV → Slots → Option Slots} {t : Slots → Option Bool} {f : Slots → Option AV} (hs : CompScope scope sc) (hi : DenIt W d sc target iter g)
    (htg : DenTgC W d (relabelS scope sc) target T) (hif : DenIfs W d (relabelS scope sc) ifs t) (helt : DenP W d (relabelS scope sc) elt f) (hset : ∀ env x, foldedSetIterable iter env x = pure x) :
    DenO W d sc (.ListComp elt [⟨target, iter, ifs, 0⟩] scope pos) fun ρ => g ρ >>= fun items => if items.length ≤ 1000000 then compA T t f items (capt scope ρ) else none := by
  intro A env Z s ρ α l R hE I L hf Q E' q
  obtain ⟨items, hg, hf⟩ := bindO hf
  obtain ⟨hz, hf⟩ := iteO hf
  · skip
    rw [eval_ListComp]
    refine comp_core (use := none) hs hi htg hif helt hset R hE I L hg hf hz fun s' Z' vs C D m p hD hDz hp rs ns hC hCz hCD => ⟨m, ns, fun h' sb => ?_⟩
    obtain ⟨n, hp⟩ := hp
    have p₂ : Step W (.addrs (· ∈ [C])) Z' s' Z' { s' with heap := h' } := .writes (tk := s'.toks) p.inv (fun b o hb e => sb.extBut b o (by simpa using hb) e) (fun b hb => by cases List.mem_singleton.mp hb; exact ⟨I.fresh_b hC, I.fresh_x hC, hCz⟩)
    refine q D vs _ Z' (p.trans p₂ (fun a h => .inr (by cases List.mem_singleton.mp h; exact hC)) fun _ h => h.elim) hD hDz ⟨n, sb.extBut D _ (fun e => hCD e.symm) hp⟩ (p₂.reps (fun b z h => by cases List.mem_singleton.mp h; exact hCz z) rs)
end
end Mine
end
section
set_option linter.unusedVariables false
namespace Mine
section
variable {W : Wd} {Z Z' Z₁ : AddrSet} {s s' s₁ : Shared} {env : Env} {sc : Scope} {ρ ρ' : Slots} {α α' : Str → Addr} {A : Around} {d : Nat}
theorem deno_cut {value : Expr} {lo hi : Option Expr} {p pos : Pos} {f : Slots → Option AV} {g h : Slots → Option (Option Int)} (hv : DenP W d sc value f) (hl : DenPart W d sc lo g) (hh : DenPart W d sc hi h) :
    DenO W d sc (.Subscript value (.Slice lo hi none p) pos) fun ρ => f ρ >>= fun o => g ρ >>= fun i => h ρ >>= fun j => match o with | .lst l => if l.length ≤ 1000000 then some (cutL l i j) else none | _ => none := by
  intro A env Z s ρ α av R hE I L hf Q E' q
  obtain ⟨a, ha, hf⟩ := bindO hf
  obtain ⟨i, hi, hf⟩ := bindO hf
  obtain ⟨j, hj, hf⟩ := bindO hf
  cases a with
  | lst l =>
    obtain ⟨hz, hf⟩ := iteO hf
    · skip
      cases hf
      refine Subscript_ (hv A env Z s ρ α _ R hE I L ha _ _ fun va s₁ Z₁ p₁ r₁ => wpAny_Slice (hl A env Z₁ s₁ ρ α i R hE p₁.inv (L.step0 p₁) hi _ _ fun vl s₂ Z₂ p₂ q₂ =>
        hh A env Z₂ s₂ ρ α j R hE p₂.inv ((L.step0 p₁).step0 p₂) hj _ _ fun vu s₃ Z₃ p₃ q₃ => ?_))
      have p₄ : Step W .none Z₃ s₃ Z₃ { s₃ with heap := s₃.heap.push { cls := .type "slice", data := .fields #[vl, vu, .none] } } := .grow p₃.inv (tk := s₃.toks) (push_keep _ _)
      refine wpAny_pure ?_
      have ro := p₄.rep0 (p₃.rep0 (p₂.rep0 r₁))
      have p14 := p₁.tr (p₂.tr (p₃.tr p₄))
      obtain ⟨a, vs, rfl, z, hl, rl⟩ := ro.lst'
      have e : slicePick vs.toArray i j none = (cutL vs i j).toArray := by
        rw [slicePick_plain]; unfold cutL; simp
      refine (GivesO.newLst (n := 0) p₄.inv (rl.cut i j) fun Q E' q => tail_any hl.typeIs slot_list_getitem.lookup (wpAny_getItem_list_slice hl (Heap.IsSliceOf.new _ _ _ _) q₂ q₃ .none (by intro c; cases c) ?_ (by simp only [List.size_toArray, rl.length, sizeLine]; (first | lia | omega))) rfl) _ _ fun a vs s₂ Z₂ p₂ hn hz hp r₂ => q a vs s₂ Z₂ (p14.tr p₂) ((p14.none_back hn).resolve_left id) hz hp r₂
      rw [e]; exact q _
  | _ => cases hf
theorem den_assign_comp {x : Str} {px spos : Pos} {elt target iter : Expr} {ifs : List Expr} {scope : Scope} {pos : Pos} {g : Slots → Option (List AV)} {T : AV → Slots → Option Slots} {t : Slots → Option Bool} {f : Slots → Option AV} (hs : CompScope scope sc) (hi : DenIt W d sc target iter g)
    (htg : DenTgC W d (relabelS scope sc) target T) (hif : DenIfs W d (relabelS scope sc) ifs t) (helt : DenP W d (relabelS scope sc) elt f) (hset : ∀ env x, foldedSetIterable iter env x = pure x)
    (hk : sc.names.lookup x = some .local) (hline : px.line = pos.line) (hany : (scope.names.any fun (n, k) => n == x && (k == .local || k == .cell)) = false) :
    DenS W d sc (.Assign [.Name x px] (.ListComp elt [⟨target, iter, ifs, 0⟩] scope pos) spos) fun ρ => g ρ >>= fun items => if items.length ≤ 1000000 then compA T t f items (capt scope ρ) >>= fun l => some (.next, ρ.set x (.own ⟨none, l⟩)) else none := by
  intro A env Z s ρ α fl ρ' R hE I L hf Q E' q
  obtain ⟨items, hg, hf⟩ := bindO hf
  obtain ⟨hz, hf⟩ := iteO hf
  · skip
    obtain ⟨l, hc, hf⟩ := bindO hf
    cases hf
    have hsw : swapsWith (.ListComp elt [⟨target, iter, ifs, 0⟩] scope pos) (some (.Name x px)) spos.line env = pure true := by
      unfold swapsWith
      have h1 : (env.blockKind == ScopeKind.function) = true := by unfold Env.blockKind; rw [hE.kfn]; rfl
      have h2 : (env.kindOf x == some NameKind.local) = true := by rw [hE.kind, hk]; rfl
      have h3 : (px.line == (Expr.ListComp elt [⟨target, iter, ifs, 0⟩] scope pos).pos.line) = true := by
        show (px.line == pos.line) = true
        rw [hline]; exact beq_self_eq_true _
      show pure (env.blockKind == ScopeKind.function && env.kindOf x == some NameKind.local && px.line == (Expr.ListComp elt [⟨target, iter, ifs, 0⟩] scope pos).pos.line && !(scope.names.any fun (n, k) => n == x && (k == .local || k == .cell))) = pure true
      rw [h1, h2, h3, hany]; rfl
    rw [exec_Assign_Name_used _ _ _ _ hsw]
    refine wpAny_bind (wpAny_standAt (wpAny_bind ?_))
    show wpAny _ A (do let _ ← comprehension (.ListComp elt [⟨target, iter, ifs, 0⟩] scope pos) scope env _ (newList []) false (eval iter env) (some (assign (.Name x px) env))) _ _ s
    refine wpAny_bind (comp_core (use := some (assign (.Name x px) env)) hs hi htg hif helt hset R hE I L hg hc hz fun s' Z' vs C D m p hD hDz hp rs ns hC hCz hCD => ?_)
    show wpAny _ A (assign (.Name x px) env (.ref D)) _ _ _
    have L₁ := L.step0 p
    refine wpAny_assign_Name (L₁.store (sv := .own ⟨none, l⟩) (a := D) p.inv hE (.inl hk) ⟨rfl, vs, hp, rs⟩ (fun l₀ e₀ => ⟨hDz, I.fresh_b hD, I.fresh_x hD, (fun b h => by cases e₀; cases h), fun y l' _ hy e => ?_⟩) fun s₂ p₂ fo L₂ => ?_)
    · obtain ⟨o, ho⟩ := L.alive (.inr (.inr ⟨y, l', hy, rfl⟩))
      rw [e, hD] at ho; cases ho
    · have hCf : ¬ FOwn env ρ α C := fun f => by
        obtain ⟨o, ho⟩ := L.alive f; rw [hC] at ho; cases ho
      have hCf₂ : ¬ FOwn env (ρ.set x (.own ⟨none, l⟩)) (setA α x D) C := fun f => by
        rcases fo C f with f | ⟨_, e⟩
        · exact hCf f
        · exact hCD e
      obtain ⟨o, es, ep, e, dd, rest⟩ := ns
      have ns₂ : s₂.heap.Ns C m := ⟨o, es, ep, p₂.keep C o (fun h => hCf h) e, dd, rest⟩
      refine ⟨m, ns₂, fun h' sb => ?_⟩
      have p₃ : Step W (.addrs (· ∈ [C])) Z' s₂ Z' { s₂ with heap := h' } := .writes (tk := s₂.toks) p₂.inv (fun b o hb e => sb.extBut b o (by simpa using hb) e) (fun b hb => by cases List.mem_singleton.mp hb; exact ⟨I.fresh_b hC, I.fresh_x hC, hCz⟩)
      have L₃ := L₂.step p₃ fun b hb => by cases List.mem_singleton.mp hb; exact ⟨hCf₂, hCz⟩
      refine wpAny_pure (wpAny_pure (q .next _ Z' (setA α x D) ⟨(p.weak.trans p₂ (fun _ h => .inl h) (fun _ h => h.elim)).trans p₃ (fun b h => .inr (by cases List.mem_singleton.mp h; exact hC)) (fun _ h => h.elim), fun b f => (fo b f).imp id fun ⟨_, e⟩ => e ▸ hD, L₃⟩ trivial))
theorem inplace_list {a b : Addr} {Q : Value → Shared → Prop} {E' : Value → Shared → Prop} (ha : s.TypeIs (.ref a) "list") (hb : s.TypeIs (.ref b) "list") (hc : wpAny W.M A (call (.builtin "list.__iadd__") [.ref a, .ref b]) Q E' s) :
    wpAny W.M A (inplaceOp .Add (.ref a) (.ref b)) Q E' s := by
  unfold inplaceOp
  refine wpAny_holding ?_
  have hl := F.slot_list_iadd.lookup
  have hfi : fillsInplaceSlot (.type "list") "add" (Operator.Add == .Add) = pure false := by
    unfold fillsInplaceSlot
    show (typeLookup (.type "list") (dunderI "add") >>= fun fi => pure (fi.isSome && !isSeqSlot fi)) = pure false
    rw [hl]; rfl
  have hsi : seqSlot? (.type "list") (dunderI "add") = pure (some (.builtin "list.__iadd__")) := by
    unfold seqSlot?
    rw [hl]; rfl
  refine wpAny_bind (wpAny_typeOf ha (wpAny_bind (wpAny_of_eq hfi ?_)))
  show wpAny _ A (if false = true then _ else _) Q E' s
  rw [if_neg Bool.false_ne_true]
  refine wpAny_bind (wpAny_binaryOp1_none (nm := "add") ha hb noFill_list_add ?_)
  refine wpAny_bind (wpAny_of_eq hsi ?_)
  exact wpAny_bind (wpAny_rule hc)
theorem den_iadd {x : Str} {p pos : Pos} {e : Expr} {f : Slots → Option (List AV)} (h : DenO W d sc e f) (hk : Kd sc x) (hn : isPh x = false) :
    DenS W d sc (.AugAssign (.Name x p) .Add e pos) fun ρ => getO ρ x >>= fun l => f ρ >>= fun r => if l.items.length + r.length ≤ 1000000 then some (.next, ρ.set x (.own ⟨l.place, l.items ++ r⟩)) else none := by
  intro A env Z s ρ α fl ρ' R hE I L hf Q E' q
  obtain ⟨l, hl, hf⟩ := bindO hf
  obtain ⟨r, hr, hf⟩ := bindO hf
  obtain ⟨hz, hf⟩ := iteO hf
  · skip
    cases hf
    have hx := getO_eq hl
    refine wpAny_AugAssign_Name (L.load hE hx (fun va ra => h A env Z s ρ α r R hE I L hr _ _ fun b ws s₁ Z₁ p₁ hnb hzb hpb rb => ?_) hn)
    obtain ⟨rfl, its, ⟨n, hp⟩, rs⟩ := ra
    obtain ⟨n₂, hpb⟩ := hpb
    have hp₁ := p₁.keep _ _ (fun h => h) hp
    have rs₁ := p₁.reps0 rs
    have L₁ := L.step0 p₁
    refine inplace_list ⟨_, hp₁, rfl⟩ ⟨_, hpb, rfl⟩ ?_
    have l1 := rs₁.length
    have l2 := rb.length
    refine call_meets F.slot_list_iadd ⟨_, hp₁, rfl⟩ F.entry_list_iadd (F.args_list_iadd_2 _ _) (AutoSeq1.list___iadd___list_list_0 (α x) its.toArray n b ws.toArray n₂ ?_ ?_ ?_) ⟨hp₁, hpb, ?_⟩
    · simp only [List.size_toArray, Builtin.List.listTooLong]
      simp; intro _; unfold sizeLine; (first | lia | omega)
    · simp only [List.size_toArray, sizeLine]; (first | lia | omega)
    · simp only [List.size_toArray, sizeLine]; (first | lia | omega)
    · have up := upd_plain hp₁ (fun y => y ++ ws.toArray)
      have fs := L₁.upd (tk := s₁.toks) (vs' := its ++ ws) p₁.inv hx (Heap.SameBut.update ..) (by simpa using up) (rs₁.append rb)
      have hxx : (ρ.set x (.own ⟨l.place, l.items ++ r⟩)) x = some (.own ⟨l.place, l.items ++ r⟩) := by unfold Slots.set; rw [if_pos rfl]
      obtain ⟨m, ns, hv⟩ := fs.loc.ns
      obtain ⟨v, _, sr⟩ := hv x _ hxx
      have fo' := fs.loc.nz (α x) (.inr (.inr ⟨x, _, hxx, rfl⟩))
      have fb' := fs.loc.nb (α x) (.inr (.inr ⟨x, _, hxx, rfl⟩))
      have sr' : SRep Z₁ _ (α x) (.ref (α x)) (.own ⟨l.place, l.items ++ r⟩) := ⟨rfl, sr.2⟩
      refine fs.loc.store (sv := .own ⟨l.place, l.items ++ r⟩) (a := α x) fs.step.inv hE hk sr' (fun l₀ e₀ => ⟨fo', fb'.1, fb'.2, fun b hb => by cases e₀; exact L.fix x l b hx hb, fun y l' hy hyy e => hy (fs.loc.inj y x _ _ hyy hxx e)⟩) fun s₂ p₂ fo L₂ => ?_
      have es : (ρ.set x (.own ⟨l.place, l.items ++ r⟩)).set x (.own ⟨l.place, l.items ++ r⟩) = ρ.set x (.own ⟨l.place, l.items ++ r⟩) := by
        funext y; unfold Slots.set; split <;> rfl
      have ea : setA α x (α x) = α := by funext y; unfold setA; split <;> simp_all
      rw [es, ea] at L₂ fo
      exact q .next s₂ Z₁ α (((FStep.pure L p₁).trans fs).trans ⟨p₂, fun b f => .inl ((fo b f).elim id fun ⟨_, e⟩ => e ▸ .inr (.inr ⟨x, _, hxx, rfl⟩)), L₂⟩) trivial
end
end Mine
end
section
set_option linter.unusedVariables false
namespace Mine
section
variable {W : Wd} {Z Z' Z₁ : AddrSet} {s s' s₁ : Shared} {env : Env} {sc : Scope} {ρ ρ' : Slots} {α α' : Str → Addr} {A : Around} {d : Nat}
structure FnK (W : Wd) (f : Addr) (fd : FuncData) (body : List Stmt) : Prop where
  look : ∃ o, W.K.lookup f = some o ∧ o.data = .func fd
  body : fd.body = .stmts body
  code : codeIn W.K fd.code fd.qualname = true
  globals : fd.globals = mainGlobals
  builtins : fd.builtins = builtinsNs
  closure : fd.closure = []
  nocell : ∀ x ∈ fd.scope.names, x.2 ≠ .cell
  nofree : ∀ x, fd.scope.names.lookup x ≠ some .free
  kind : fd.scope.kind = .function
  co : fd.scope.isCoroutine = false
  gen : fd.scope.isGenerator = false
noncomputable def retA : AFlow → AV
  | .ret a => a
  | _ => .none
theorem lookup_in {β : Type} {l : List (Str × β)} {x : Str} {v : β} (h : l.lookup x = some v) : (x, v) ∈ l := by
  induction l with
  | nil => cases h
  | cons p r ih =>
    obtain ⟨k, w⟩ := p
    rw [List.lookup_cons] at h
    split at h
    · rename_i e; cases h
      have := eq_of_beq e
      subst this; exact List.mem_cons_self
    · exact List.mem_cons_of_mem _ (ih h)
theorem call_enter {f : Addr} {fd : FuncData} {body : List Stmt} {vals : List Value} {binds : List (Str × Value)} (k : FnK W f fd body) (R : Room A (d + 1)) (I : Inv W Z s) (hb : BindsTo s fd ⟨vals, []⟩ binds) (hl : ∀ x ∈ binds, fd.scope.names.lookup x.1 = some .local)
    (hρ : ∀ x sv, ρ x = some sv → ∃ v, binds.reverse.lookup x = some v ∧ SRep Z s.heap (α x) v sv)
    (ho : ∀ x l, ρ x = some (.own l) → ¬ Z (α x) ∧ W.h₀.get? (α x) = none ∧ ¬ W.X (α x) ∧ ∀ b, l.place = some b → α x = b)
    (hi : ∀ x y l l', ρ x = some (.own l) → ρ y = some (.own l') → α x = α y → x = y)
    {F : Slots → Option (AFlow × Slots)} (hF : DenSs W d fd.scope body F) {fl : AFlow} (hf : F ρ = some (fl, ρ')) {Q : Value → Shared → Prop} {E' : Value → Shared → Prop}
    (q : ∀ v s' Z' α' env, Step W (.addrs fun a => ∃ x l, ρ x = some (.own l) ∧ α x = a) Z s Z' s' → RepV Z' s'.heap v (retA fl) → Loc W Z' s'.heap env ρ' α' → Q v s') : wpAny W.M A (call (.ref f) vals) Q E' s := by
  obtain ⟨o, hk, hd⟩ := k.look
  refine wpAny_call (codeAny_call_def R.lt (I.kin _ _ hk) hd I.nolimit (codeRec_of I.kin k.code) k.body hb k.nocell hl (fun h₁ hns hk₁ => ?_) k.co k.gen k.kind)
  have hN : s.heap.get? s.heap.objs.size = none := push_none _
  have p₁ : Step W .none Z s Z { s with heap := h₁, toks := s.toks + binds.length } := .grow I hk₁
  have hE : EnvOk (callEnv fd s.heap.objs.size f) fd.scope := ⟨rfl, k.globals, k.builtins, k.kind, fun x hx => by
    rcases hx with h | h
    · exact (k.nocell _ (lookup_in h) rfl).elim
    · exact (k.nofree _ h).elim⟩
  have fo : ∀ a, FOwn (callEnv fd s.heap.objs.size f) ρ α a → a = s.heap.objs.size ∨ ∃ x l, ρ x = some (.own l) ∧ α x = a := by
    rintro a (h | ⟨x, _, hx⟩ | h)
    · exact .inl h
    · change fd.closure.lookup x = some a at hx; rw [k.closure] at hx; cases hx
    · exact .inr h
  have L : Loc W Z h₁ (callEnv fd s.heap.objs.size f) ρ α := by
    refine ⟨⟨_, hns, fun x sv hx => ?_⟩, fun a f z => ?_, fun a f => ?_, fun x l b hx hb => (ho x l hx).2.2.2 b hb, hi, fun x c hc => ?_, fun x y c hc => ?_, fun c hc => ?_⟩
    · obtain ⟨v, hv, r⟩ := hρ x sv hx
      refine ⟨v, .inl ⟨hl _ (List.mem_reverse.mp (lookup_in hv)), hv⟩, ?_⟩
      cases sv with
      | val av => exact RepV.mono (fun _ z => z) (fun a o _ e => hk₁ a o e) r
      | own l => obtain ⟨e, vs, ⟨n, hn⟩, rs⟩ := r; exact ⟨e, vs, ⟨n, hk₁ _ _ hn⟩, rs.mono (fun _ z => z) fun a o _ e => hk₁ a o e⟩
    · rcases fo a f with rfl | ⟨x, l, hx, rfl⟩
      · exact I.fresh_z hN z
      · exact (ho x l hx).1 z
    · rcases fo a f with rfl | ⟨x, l, hx, rfl⟩
      · exact ⟨I.fresh_b hN, I.fresh_x hN⟩
      · exact ⟨(ho x l hx).2.1, (ho x l hx).2.2.1⟩
    · change fd.closure.lookup x = some c at hc; rw [k.closure] at hc; cases hc
    · change fd.closure.lookup x = some c at hc; rw [k.closure] at hc; cases hc
    · change fd.closure.lookup frz = some c at hc; rw [k.closure] at hc; cases hc
  refine hF _ _ Z _ ρ α fl ρ' (R.deeper _) hE p₁.inv L hf _ _ fun g s₂ Z₂ α₂ p₂ r₂ => ?_
  have p : Step W (.addrs fun a => ∃ x l, ρ x = some (.own l) ∧ α x = a) Z s Z₂ s₂ := p₁.weak.trans p₂.step (fun a h => (fo a h).elim (fun e => .inr (e ▸ hN)) .inl) (fun _ h => h.elim)
  refine q _ s₂ Z₂ α₂ _ p ?_ p₂.loc
  cases fl <;> cases g <;> first | exact r₂.elim | exact .none | exact r₂
noncomputable def bindA (names : List Str) (args : List AV) : Slots := fun x => ((names.zip args).reverse.lookup x).map .val
theorem lookup_none_of {β : Type} {x : Str} {m : List (Str × β)} (h : ∀ c, (x, c) ∉ m) : m.lookup x = none := by
  cases e : m.lookup x with
  | none => rfl
  | some c => exact (h c (lookup_in e)).elim
theorem zip_look {h : Heap} {vals : List Value} {args : List AV} (r : RepVs Z h vals args) (names : List Str) (x : Str) : (∀ a, (names.zip args).reverse.lookup x = some a → ∃ v, (names.zip vals).reverse.lookup x = some v ∧ RepV Z h v a) ∧ ((names.zip args).reverse.lookup x = none → (names.zip vals).reverse.lookup x = none) := by
  induction args generalizing vals names with
  | nil => rw [List.zip_nil_right]; rw [r.nil', List.zip_nil_right]; exact ⟨fun a h => by (cases h), fun _ => rfl⟩
  | cons b l ih =>
    obtain ⟨v, vs, rfl, r1, r2⟩ := r.cons'
    cases names with
    | nil => exact ⟨fun a h => by (cases h), fun _ => rfl⟩
    | cons n names =>
      obtain ⟨ih1, ih2⟩ := ih r2 names
      rw [List.zip_cons_cons, List.zip_cons_cons, List.reverse_cons, List.reverse_cons, List.lookup_append, List.lookup_append]
      cases e : (names.zip l).reverse.lookup x with
      | some c =>
        obtain ⟨w, hw, rw'⟩ := ih1 c e
        rw [hw]
        exact ⟨fun a h => ⟨w, rfl, Option.some.inj h ▸ rw'⟩, fun h => by (cases h)⟩
      | none =>
        rw [ih2 e, Option.none_or, Option.none_or, List.lookup_cons, List.lookup_cons]
        cases (x == n) with
        | true => exact ⟨fun a h => ⟨v, rfl, Option.some.inj h ▸ r1⟩, fun h => by (cases h)⟩
        | false => exact ⟨fun a h => by (cases h), fun _ => rfl⟩
theorem fspec_of {f : Addr} {fd : FuncData} {body : List Stmt} {names : List Str} {F : Slots → Option (AFlow × Slots)} (k : FnK W f fd body) (hb : ∀ s (vals : List Value), vals.length = names.length → BindsTo s fd ⟨vals, []⟩ (names.zip vals)) (hl : ∀ x ∈ names, fd.scope.names.lookup x = some .local)
    (hF : DenSs W d fd.scope body F) : FSpec W (d + 1) (.ref f) fun args => if args.length = names.length then (F (bindA names args)).map fun r => retA r.1 else none := by
  intro A Z s vals args av R I r hf Q E' q
  simp only at hf
  obtain ⟨hlen, hf⟩ := iteO hf
  · skip
    obtain ⟨⟨fl, ρ'⟩, hF', rfl⟩ := Option.map_eq_some_iff.mp hf
    have no : ∀ x l, bindA names args x ≠ some (.own l) := fun x l h => by
      obtain ⟨a, _, e⟩ := Option.map_eq_some_iff.mp h; cases e
    refine call_enter (α := fun _ => 0) k R I (hb s vals (r.length.trans hlen)) (fun x hx => hl _ (List.of_mem_zip (show (x.1, x.2) ∈ _ from hx)).1) (fun x sv hx => ?_) (fun x l hx => (no x l hx).elim) (fun x y l l' hx => (no x l hx).elim) hF hF' fun v s' Z' α' env p rv _ => q v s' Z' (p.mono (fun a ⟨x, l, hx, _⟩ => (no x l hx).elim) fun _ h => h.elim) rv
    obtain ⟨a, ha, rfl⟩ := Option.map_eq_some_iff.mp hx
    exact (zip_look r names x).1 a ha
end
end Mine
end
section
set_option linter.unusedVariables false
namespace Mine
section
variable {W : Wd} {Z Z' Z₁ : AddrSet} {s s' s₁ : Shared} {env : Env} {sc : Scope} {ρ ρ' : Slots} {α α' : Str → Addr} {A : Around} {d : Nat}
theorem RepEs.nil' {h : Heap} {es : List DictEntry} (r : RepEs Z h es []) : es = [] := by cases r; rfl
theorem RepEs.cons' {h : Heap} {es : List DictEntry} {x : Str} {a : AV} {fs : List (Str × AV)} (r : RepEs Z h es ((x, a) :: fs)) : ∃ hs t v es', es = ⟨hs, .str x t, v⟩ :: es' ∧ RepV Z h v a ∧ RepEs Z h es' fs := by cases r with | cons r rs => exact ⟨_, _, _, _, rfl, r, rs⟩
theorem isStr_eq (x name : Str) (t : Tok) : (Value.str x t).isStr name = (name == x) := by
  show (x == name) = (name == x)
  rw [Bool.eq_iff_iff, beq_iff_eq, beq_iff_eq]; exact ⟨Eq.symm, Eq.symm⟩
theorem RepEs.find {h : Heap} {name : Str} {es : List DictEntry} {fs : List (Str × AV)} (r : RepEs Z h es fs) : (∀ a, fs.lookup name = some a → ∃ en, es.find? (·.key.isStr name) = some en ∧ RepV Z h en.val a) ∧ (fs.lookup name = none → es.find? (·.key.isStr name) = none) ∧ es.any (·.refKey) = false := by
  induction fs generalizing es with
  | nil => rw [r.nil']; exact ⟨fun a h => by (cases h), fun _ => rfl, rfl⟩
  | cons p fs ih =>
    obtain ⟨x, b⟩ := p
    obtain ⟨hs, t, v, es', rfl, r1, rs⟩ := r.cons'
    obtain ⟨i1, i2, i3⟩ := ih rs
    rw [List.lookup_cons, List.find?_cons, List.any_cons, i3]
    show (∀ a, _ → ∃ en, (match (Value.str x t).isStr name with | true => _ | false => _) = some en ∧ _) ∧ (_ → (match (Value.str x t).isStr name with | true => _ | false => _) = none) ∧ _
    rw [isStr_eq]
    cases (name == x) with
    | true => exact ⟨fun a h => ⟨_, rfl, Option.some.inj h ▸ r1⟩, fun h => by (cases h), rfl⟩
    | false => exact ⟨i1, i2, rfl⟩
theorem RepEs.get {h : Heap} {name : Str} {es : List DictEntry} {fs : List (Str × AV)} {a : AV} (r : RepEs Z h es fs) (e : fs.lookup name = some a) : ∃ v, PySem.W.getL name es = some (some v) ∧ RepV Z h v a := by
  obtain ⟨en, h1, h2⟩ := r.find.1 a e
  exact ⟨en.val, by unfold PySem.W.getL; rw [h1], h2⟩
theorem RepEs.noref {h : Heap} {es : List DictEntry} {fs : List (Str × AV)} (r : RepEs Z h es fs) : es.any (·.refKey) = false := (r.find (name := "")).2.2
theorem RepEs.lacks {h : Heap} {name : Str} {es : List DictEntry} {fs : List (Str × AV)} (r : RepEs Z h es fs) (e : fs.lookup name = none) : es.find? (·.key.isStr name) = none := r.find.2.1 e
theorem RepEs.no {h : Heap} {name : Str} {es : List DictEntry} {fs : List (Str × AV)} (r : RepEs Z h es fs) (hn : fs.lookup name = none) : PySem.W.getL name es = some none := by
  unfold PySem.W.getL; rw [r.lacks hn, r.noref]; rfl
noncomputable def plainV : AV → Bool
  | .raw _ => false
  | _ => true
theorem handed {h : Heap} {v : Value} {a : AV} (r : RepV Z h v a) (hp : plainV a = true) : handedIn v = true := by
  cases r <;> first | rfl | cases hp
noncomputable def attrA (C : Addr) (name : Str) : AV → Option AV
  | .inst c fs => if c = C then (match fs.lookup name with | some a => if plainV a = true then some a else none | none => none) else none
  | _ => none
theorem den_attr {x name : Str} {p pos : Pos} {C : Addr} (hg : plainGet W.K C name = true) (hh : hasDictIn W.K C = true) (ha : findIn W.K (.ref C) name = some none) (h1 : (x == ("__debug__" : Str)) = false) (hn : isPh x = false) :
    DenP W d sc (.Attribute (.Name x p) name pos) fun ρ => getV ρ x >>= attrA C name := by
  intro A env Z s ρ α av R hE I L hf Q E' q
  replace ⟨a, hx, hf⟩ := bindO hf
  unfold attrA at hf
  split at hf
  · split at hf
    · rename_i c fs hc
      subst hc
      split at hf
      · rename_i a ha'
        replace ⟨hp, hf⟩ := iteO hf
        · cases hf
          refine Attribute_name (wpAny_Name (L.load hE (getV_eq hx) (fun v r => ?_) hn) h1)
          have r' : RepV Z s.heap v (.inst c fs) := r
          cases r' with | inst z1 z2 o1 o2 rs =>
          rename_i x' dx es n
          obtain ⟨w, hw, rw'⟩ := rs.get ha'
          exact get_value I.kin (od := some (dictOf es n)) ⟨o1, rfl, rfl, o2⟩ (plainGet_of hg).1 (findObj_own hh ha rfl hw) (handed rw' hp) (q _ _ Z (.toks I _) rw')
      · cases hf
    · cases hf
  · cases hf
end
end Mine
end
section
set_option linter.unusedVariables false
namespace Mine
section
variable {W : Wd} {Z Z' Z₁ : AddrSet} {s s' s₁ : Shared} {env : Env} {sc : Scope} {ρ ρ' : Slots} {α α' : Str → Addr} {A : Around} {d : Nat}
structure InitSt where
  attr : Str
  par : Str
  p1 : Pos
  p2 : Pos
  p3 : Pos
  p4 : Pos
noncomputable def InitSt.stmt (st : InitSt) : Stmt := .Assign [.Attribute (.Name "self" st.p1) st.attr st.p2] (.Name st.par st.p3) st.p4
noncomputable def initA (g : Str → Option AV) : List InitSt → List (Str × AV) → Option (List (Str × AV))
  | [], fs => some fs
  | st :: r, fs => match g st.par, fs.lookup st.attr with
    | some a, none => initA g r (fs ++ [(st.attr, a)])
    | _, _ => none
theorem putL_new {name : Str} {hsh : Int} {key v : Value} : ∀ {es : List DictEntry}, es.find? (·.key.isStr name) = none → putL name hsh key v es = es ++ [⟨hsh, key, v⟩]
  | [], _ => rfl
  | e :: r, h => by
    rw [List.find?_cons] at h
    unfold putL
    cases c : e.key.isStr name with
    | true => rw [c] at h; cases h
    | false => rw [c] at h; simp only at h; rw [if_neg (by decide), putL_new h]; rfl
theorem RepEs.snoc {h : Heap} {hs : Int} {x : Str} {t : Tok} {v : Value} {a : AV} {es : List DictEntry} {fs : List (Str × AV)} (r : RepEs Z h es fs) (q : RepV Z h v a) : RepEs Z h (es ++ [⟨hs, .str x t, v⟩]) (fs ++ [(x, a)]) := by
  induction fs generalizing es with
  | nil => rw [r.nil']; exact .cons q .nil
  | cons p fs ih => obtain ⟨y, b⟩ := p; obtain ⟨hs, t, v, es', rfl, r1, rs⟩ := r.cons'; exact .cons r1 (ih rs)
structure ClsK (W : Wd) (C fI : Addr) : Prop where
  makes : makesIn W.K C = true
  init : findIn W.K (.ref C) "__init__" = some (some (.ref fI))
  fn : typeIn W.K (.ref fI) = some (.type "function")
  setattr : findIn W.K (.ref C) "__setattr__" = some (some (.builtin "object.__setattr__"))
  over : plainOver W.K C = true
  dict : hasDictIn W.K C = true
  get : plainGet W.K C "" = true
theorem init_run {C fI x dx L : Addr} {h₀ : Heap} {m : Str → Option Value} (k : ClsK W C fI) (X₀ : W.K.In h₀) (hL : env.locals = L) (hfn : env.scope.kind = .function) (hself : env.kindOf "self" = some .local) (hms : m "self" = some (.ref x)) {g : Str → Option AV}
    (hg : ∀ par a, g par = some a → ∃ v, m par = some v ∧ RepV Z h₀ v a) {Q : Flow → Shared → Prop} {E' : Value → Shared → Prop} (hne : x ≠ dx) {fs' : List (Str × AV)} :
    ∀ (l : List InitSt) (es : List DictEntry) (n : Nat) (fs : List (Str × AV)) (s : Shared), (∀ st ∈ l, env.kindOf st.par = some .local ∧ (st.par == ("__debug__" : Str)) = false ∧ takerIn W.K C st.attr = some none) → Fr h₀ L s.heap m → News h₀ L s.heap [(x, instObj C dx), (dx, dictOf es n)] → RepEs Z h₀ es fs → es.length + l.length ≤ 900 → initA g l fs = some fs' →
      (∀ h' tk es' n', Fr h₀ L h' m → News h₀ L h' [(x, instObj C dx), (dx, dictOf es' n')] → RepEs Z h₀ es' fs' → Q .next { s with heap := h', toks := tk }) → wpAny W.M A (execs (l.map InitSt.stmt) env) Q E' s
  | [], es, n, fs, s, _, F, N, re, _, hi, q => by
    cases hi
    exact wpAny_execs_nil (q s.heap s.toks es n F N re)
  | st :: r, es, n, fs, s, hl, F, N, re, hz, hi, q => by
    unfold initA at hi
    split at hi
    · rename_i a ha hno
      obtain ⟨v, hv, rv⟩ := hg _ _ ha
      obtain ⟨k1, k2, k3⟩ := hl st List.mem_cons_self
      refine wpAny_execs_cons ?_
      refine plainObj_wpAny_Assign_Attribute (wpAny_Name (wpAny_loadName_local hfn k1 (hL ▸ F.ns) hv (wpAny_Name (wpAny_loadName_local hfn hself (hL ▸ F.ns) hms ?_) (by decide))) k2) rfl
      have hfind := re.lacks hno
      have hgl := re.no hno
      refine set_dict (K := W.K) (es' := es ++ [⟨PyData.keyHash W.w.params st.attr, .str st.attr (s.toks + 1), v⟩]) (n' := putN st.attr es n) F X₀ N (InstAt.of_news N List.mem_cons_self (List.mem_cons_of_mem _ List.mem_cons_self)) rfl k.setattr k.over k3 k.dict (by rw [hgl]; rfl) (by rw [putL_new hfind]) (.tail hne (.head fun p hp => by cases hp)) (by simp at hz ⊢; (first | lia | omega)) fun h' F' N' => ?_
      exact init_run k X₀ hL hfn hself hms hg hne r _ _ (fs ++ [(st.attr, a)]) _ (fun st hst => hl st (List.mem_cons_of_mem _ hst)) F' N' (re.snoc rv) (by simp at hz ⊢; (first | lia | omega)) hi fun h' tk es' n' F'' N'' re' => q h' tk es' n' F'' N'' re'
    · cases hi
theorem Step.take2 {O : Own} {x y : Addr} {ox oy : Obj} (I₀ : Inv W Z s) (p : Step W O Z s Z s') (hx : s.heap.get? x = none) (hy : s.heap.get? y = none) (ex : s'.heap.get? x = some ox) (ey : s'.heap.get? y = some oy) : Step W O Z s (fun b => Z b ∨ b = y ∨ b = x) s' := by
  have I := p.inv
  refine ⟨⟨I.ok, I.base, I.xs, fun b z => ?_, I.os, I.bare, fun b z => ?_, fun b h => .inl (I.z0 b h), I.tk⟩, p.keep, fun _ z => .inl z, fun b z => ?_, p.gens⟩
  · rcases z with z | rfl | rfl
    · exact I.zin b z
    · exact ⟨_, ey⟩
    · exact ⟨_, ex⟩
  · rcases z with z | rfl | rfl
    · exact I.zx b z
    · exact I₀.fresh_x hy
    · exact I₀.fresh_x hx
  · rcases z with z | rfl | rfl
    · exact .inl z
    · exact .inr (.inr hy)
    · exact .inr (.inr hx)
theorem ctor_raw {C fI : Addr} {fd : FuncData} {names : List Str} {l : List InitSt} {bd : List AV → Option (List AV)} (k : ClsK W C fI) (kf : FnK W fI fd (l.map InitSt.stmt))
    (hb : ∀ (Z : AddrSet) (h : Heap) (x : Value) (vals : List Value) (args full : List AV), RepVs Z h vals args → bd args = some full → ∃ fvals, (∀ s : Shared, W.K.In s.heap → BindsTo s fd ⟨x :: vals, []⟩ (("self", x) :: names.zip fvals)) ∧ RepVs Z h fvals full)
    (hl : ∀ x ∈ ("self" : Str) :: names, fd.scope.names.lookup x = some .local) (hns : ("self" : Str) ∉ names) (hst : ∀ st ∈ l, st.par ∈ names ∧ (st.par == ("__debug__" : Str)) = false ∧ takerIn W.K C st.attr = some none) (hlen : l.length ≤ 900)
    {vals : List Value} {args full : List AV} {fs : List (Str × AV)} (R : Room A (d + 1)) (I : Inv W Z s) (r : RepVs Z s.heap vals args) (hfull : bd args = some full) (hfs : initA (fun p => (names.zip full).reverse.lookup p) l [] = some fs) {Q : Value → Shared → Prop} {E' : Value → Shared → Prop}
    (q : ∀ s' x dx es n, Step W .none Z s Z s' → s.heap.get? x = none → s.heap.get? dx = none → x ≠ dx → s'.heap.get? x = some (instObj C dx) → s'.heap.get? dx = some (dictOf es n) → RepEs Z s'.heap es fs → Q (.ref x) s') :
    wpAny W.M A (call (.ref C) vals) Q E' s := by
  refine wpAny_with_toks (Nat.le_refl _) (wpAny_call ?_)
  have X := I.kin
  obtain ⟨hh, g, dr, t, os⟩ := s
  refine make_core (makes_of X k.makes) (looks_findIn X k.init) (fun self => bind_fn X self k.fn) (.inl rfl) ?_
  have k1 : ∀ b o, hh.get? b = some o → ((hh.push emptyDict).push (instObj C hh.objs.size)).get? b = some o := fun b o e => Heap.get?_push_of_some _ (Heap.get?_push_of_some _ e)
  have hx : ((hh.push emptyDict).push (instObj C hh.objs.size)).get? (hh.objs.size + 1) = some (instObj C hh.objs.size) := by heap_get
  have hdx : ((hh.push emptyDict).push (instObj C hh.objs.size)).get? hh.objs.size = some (dictOf [] 0) := by heap_get
  have p₁ : Step W .none Z ⟨hh, g, dr, t, os⟩ Z ⟨(hh.push emptyDict).push (instObj C hh.objs.size), g, dr, t, os⟩ := .grow (tk := t) I k1
  obtain ⟨fvals, hbind, rf⟩ := hb Z hh (.ref (hh.objs.size + 1)) vals args full r hfull
  obtain ⟨o, ho, hd⟩ := kf.look
  have hw : (Code.builtin "type.__call__" ⟨.ref C :: vals, []⟩).weight = 1 := rfl
  have hroom : (A.under (.builtin "type.__call__" ⟨.ref C :: vals, []⟩)).depth < recursionLimit := by
    show A.depth + (Code.builtin "type.__call__" ⟨.ref C :: vals, []⟩).weight < recursionLimit
    rw [hw]
    have := R.depth; (first | lia | omega)
  refine codeAny_call_def hroom (p₁.inv.kin _ _ ho) hd p₁.inv.nolimit (codeRec_of p₁.inv.kin kf.code) kf.body (hbind _ p₁.inv.kin) kf.nocell (fun y hy => hl _ ?_) (fun h₁ hns₁ hk₁ => ?_) kf.co kf.gen kf.kind
  · rcases List.mem_cons.mp hy with rfl | hy
    · exact List.mem_cons_self
    · exact List.mem_cons_of_mem _ (List.of_mem_zip (show (y.1, y.2) ∈ _ from hy)).1
  · have hself : ((("self" : Str), Value.ref (hh.objs.size + 1)) :: names.zip fvals).reverse.lookup ("self" : Str) = some (Value.ref (hh.objs.size + 1)) := by
      rw [List.reverse_cons, List.lookup_append, lookup_none_of (m := (names.zip fvals).reverse) fun c hc => hns (List.of_mem_zip (List.mem_reverse.mp hc)).1]; simp
    have hnx : hh.get? (hh.objs.size + 1) = none := by
      cases e : hh.get? (hh.objs.size + 1) with
      | none => rfl
      | some o =>
        have h9 : hh.objs.size + 1 < hh.objs.size := Heap.lt_size e
        (first | lia | omega)
    have hsz : ((hh.push emptyDict).push (instObj C hh.objs.size)).objs.size = hh.objs.size + 2 := by rw [Heap.size_push, Heap.size_push]
    have F₁ : Fr hh ((hh.push emptyDict).push (instObj C hh.objs.size)).objs.size h₁ (fun y => ((("self" : Str), Value.ref (hh.objs.size + 1)) :: names.zip fvals).reverse.lookup y) := ⟨hns₁, fun b o e => hk₁ b o (k1 b o e), by rw [hsz]; exact Nat.le_add_right _ 2⟩
    refine init_run (env := callEnv fd ((hh.push emptyDict).push (instObj C hh.objs.size)).objs.size fI) (h₀ := hh) (x := hh.objs.size + 1) (dx := hh.objs.size) k X rfl kf.kind (hl _ List.mem_cons_self) hself (g := fun p => (names.zip full).reverse.lookup p) (Z := Z) (fun par a ha => ?_) (Nat.ne_of_gt (Nat.lt_succ_self hh.objs.size)) l [] 0 [] _ (fun st hs => ?_) F₁ (fun p hp => ?_) .nil (by simpa using hlen) hfs fun h' tk es' n' F' N' re' => ?_
    · obtain ⟨v, hv, rv⟩ := (zip_look rf names par).1 a ha
      refine ⟨v, ?_, rv⟩
      · show List.lookup par (((("self" : Str), Value.ref (hh.objs.size + 1)) :: names.zip fvals).reverse) = some v
        rw [List.reverse_cons, List.lookup_append, hv]; rfl
    · obtain ⟨a, b, c⟩ := hst st hs
      exact ⟨hl _ (List.mem_cons_of_mem _ a), b, c⟩
    · rcases List.mem_cons.mp hp with rfl | hp
      · exact ⟨hk₁ _ _ hx, by rw [hsz]; show hh.objs.size + 1 ≠ hh.objs.size + 2; (first | lia | omega), hnx⟩
      · cases List.mem_singleton.mp hp
        exact ⟨hk₁ _ _ hdx, by rw [hsz]; show hh.objs.size ≠ hh.objs.size + 2; (first | lia | omega), push_none _⟩
    · refine ⟨rfl, ?_⟩
      have hx' := (N' _ List.mem_cons_self).1
      have hdx' := (N' _ (List.mem_cons_of_mem _ List.mem_cons_self)).1
      have hk := F'.keep
      exact fun htk => q _ (hh.objs.size + 1) hh.objs.size es' n' (.grow I hk htk) hnx (push_none _) (Nat.succ_ne_self _) hx' hdx' (re'.mono (fun _ z => z) fun b o _ e => hk b o e)
theorem ctor_spec {C fI : Addr} {fd : FuncData} {names : List Str} {l : List InitSt} {bd : List AV → Option (List AV)} (k : ClsK W C fI) (kf : FnK W fI fd (l.map InitSt.stmt))
    (hb : ∀ (Z : AddrSet) (h : Heap) (x : Value) (vals : List Value) (args full : List AV), RepVs Z h vals args → bd args = some full → ∃ fvals, (∀ s : Shared, W.K.In s.heap → BindsTo s fd ⟨x :: vals, []⟩ (("self", x) :: names.zip fvals)) ∧ RepVs Z h fvals full)
    (hl : ∀ x ∈ ("self" : Str) :: names, fd.scope.names.lookup x = some .local) (hns : ("self" : Str) ∉ names) (hst : ∀ st ∈ l, st.par ∈ names ∧ (st.par == ("__debug__" : Str)) = false ∧ takerIn W.K C st.attr = some none) (hlen : l.length ≤ 900) :
    FSpec W (d + 1) (.ref C) fun args => bd args >>= fun full => (initA (fun p => (names.zip full).reverse.lookup p) l []).map (.inst C) := by
  intro A Z s vals args av R I r hf Q E' q
  obtain ⟨full, hfull, hf⟩ := bindO hf
  obtain ⟨fs, hfs, rfl⟩ := Option.map_eq_some_iff.mp hf
  exact ctor_raw k kf hb hl hns hst hlen R I r hfull hfs fun s' x dx es n p h1 h2 h3 h4 h5 h6 => q _ _ _ (p.take2 I h1 h2 h4 h5) (.inst (.inr (.inr rfl)) (.inr (.inl rfl)) h4 h5 (h6.mono (fun _ z => .inl z) fun _ _ _ e => e))
end
end Mine
end
section
set_option linter.unusedVariables false
namespace Mine
section
variable {W : Wd} {Z Z' Z₁ : AddrSet} {s s' s₁ : Shared} {env : Env} {sc : Scope} {ρ ρ' : Slots} {α α' : Str → Addr} {A : Around} {d : Nat}
noncomputable def cutO (o : AV) (i j : Option Int) : Option (List AV) := match o with | .lst l => if l.length ≤ 1000000 then some (cutL l i j) else none | _ => none
theorem deno_cuto {value : Expr} {lo hi : Option Expr} {p pos : Pos} {f : Slots → Option AV} {g h : Slots → Option (Option Int)} (hv : DenP W d sc value f) (hl : DenPart W d sc lo g) (hh : DenPart W d sc hi h) :
    DenO W d sc (.Subscript value (.Slice lo hi none p) pos) fun ρ => f ρ >>= fun o => g ρ >>= fun i => h ρ >>= fun j => cutO o i j := deno_cut hv hl hh
noncomputable def frees (scope : Scope) : List Str := scope.names.filterMap fun x => if x.2 == .free then some x.1 else none
noncomputable def only (xs : List Str) (ρ : Slots) : Slots := fun x => if xs.contains x then ρ x else none
noncomputable def compOk (scope sc : Scope) : Bool := (scope.kind == .function) && (scope.names.all fun x => x.2 != .cell) && (scope.names.all fun x => x.2 != .local || scope.names.lookup x.1 == some .local) &&
  (scope.names.all fun x => x.2 != .free || (scope.names.lookup x.1 == some .free && (sc.names.lookup x.1 == some .cell || sc.names.lookup x.1 == some .free)))
theorem compScope {scope sc : Scope} (h : compOk scope sc = true) : CompScope scope sc := by
  unfold compOk at h
  simp only [Bool.and_eq_true, List.all_eq_true, Bool.or_eq_true, bne_iff_ne, beq_iff_eq] at h
  obtain ⟨⟨⟨h1, h2⟩, h3⟩, h4⟩ := h
  refine ⟨h1, h2, fun x hx e => (h3 x hx).resolve_left (fun n => n e), fun x hx e => (h4 x hx).resolve_left (fun n => n e)⟩
theorem capt_only {scope : Scope} (hs : CompScope scope sc) (ρ : Slots) : capt scope ρ = only (frees scope) ρ := by
  funext x
  unfold capt only
  have : (scope.names.lookup x = some .free) ↔ (frees scope).contains x = true := by
    rw [List.contains_iff_mem]
    unfold frees
    rw [List.mem_filterMap]
    constructor
    · intro h; exact ⟨_, lookup_in h, rfl⟩
    · rintro ⟨⟨n, k⟩, hm, h⟩
      simp only at h
      split at h
      · rename_i hk
        cases h
        exact (hs.free _ hm (eq_of_beq hk)).1
      · cases h
  by_cases h : scope.names.lookup x = some .free
  · rw [if_pos h, if_pos (this.mp h)]
  · rw [if_neg h, if_neg (fun c => h (this.mpr c))]
theorem deno_compx {elt target iter : Expr} {ifs : List Expr} {scope : Scope} {pos : Pos} {g : Slots → Option (List AV)} {T : AV → Slots → Option Slots} {t : Slots → Option Bool} {f : Slots → Option AV} (xs : List Str) (hx : frees scope = xs) (hs : CompScope scope sc) (hi : DenIt W d sc target iter g)
    (htg : DenTgC W d (relabelS scope sc) target T) (hif : DenIfs W d (relabelS scope sc) ifs t) (helt : DenP W d (relabelS scope sc) elt f) (hset : ∀ env x, foldedSetIterable iter env x = pure x) :
    DenO W d sc (.ListComp elt [⟨target, iter, ifs, 0⟩] scope pos) fun ρ => g ρ >>= fun items => if items.length ≤ 1000000 then compA T t f items (only xs ρ) else none := by
  subst hx
  have := deno_comp (pos := pos) hs hi htg hif helt hset
  simp only [capt_only hs] at this
  exact this
theorem den_assign_compx {x : Str} {px spos : Pos} {elt target iter : Expr} {ifs : List Expr} {scope : Scope} {pos : Pos} {g : Slots → Option (List AV)} {T : AV → Slots → Option Slots} {t : Slots → Option Bool} {f : Slots → Option AV} (xs : List Str) (hx : frees scope = xs) (hs : CompScope scope sc) (hi : DenIt W d sc target iter g)
    (htg : DenTgC W d (relabelS scope sc) target T) (hif : DenIfs W d (relabelS scope sc) ifs t) (helt : DenP W d (relabelS scope sc) elt f) (hset : ∀ env x, foldedSetIterable iter env x = pure x)
    (hk : sc.names.lookup x = some .local) (hline : px.line = pos.line) (hany : (scope.names.any fun (n, k) => n == x && (k == .local || k == .cell)) = false) :
    DenS W d sc (.Assign [.Name x px] (.ListComp elt [⟨target, iter, ifs, 0⟩] scope pos) spos) fun ρ => g ρ >>= fun items => if items.length ≤ 1000000 then compA T t f items (only xs ρ) >>= fun l => some (.next, ρ.set x (.own ⟨none, l⟩)) else none := by
  subst hx
  have := den_assign_comp (spos := spos) hs hi htg hif helt hset hk hline hany
  simp only [capt_only hs] at this
  exact this
theorem kd_in {x : Str} {sc : Scope} (h : (sc.names.lookup x == some .local || (sc.names.lookup x == some .cell && x != frz)) = true) : Kd sc x := by
  rcases Bool.or_eq_true_iff.mp h with h | h
  · exact .inl (eq_of_beq h)
  · have := Bool.and_eq_true_iff.mp h
    exact .inr ⟨eq_of_beq this.1, bne_iff_ne.mp this.2⟩
theorem kinds_in {l : List Str} {sc : Scope} (h : (l.all fun x => (sc.names.lookup x == some .local || (sc.names.lookup x == some .cell && x != frz))) = true) (x : Str) (hx : x ∈ l) : Kd sc x := kd_in (List.all_eq_true.mp h x hx)
end
end Mine
end
section
set_option linter.unusedVariables false
namespace Mine
noncomputable def fdAt (K : Frag) (f : Addr) : Option FuncData := match K.lookup f with
  | some o => (match o.data with | .func fd => some fd | _ => none)
  | none => none
noncomputable def fdK (K : Frag) (f : Addr) (h : (fdAt K f).isSome = true) : FuncData := (fdAt K f).get h
theorem fdAt_look {K : Frag} {f : Addr} (h : (fdAt K f).isSome = true) : ∃ o, K.lookup f = some o ∧ o.data = .func (fdK K f h) := by
  have e : fdAt K f = some (fdK K f h) := by unfold fdK; simp
  generalize fdK K f h = fd at e
  unfold fdAt at e
  split at e
  · rename_i o ho
    split at e
    · rename_i fd' hd; cases e; exact ⟨o, ho, hd⟩
    · cases e
  · cases e
noncomputable def noCellB (sc : Scope) : Bool := sc.names.all fun x => x.2 != .cell && x.2 != .free
theorem fnk_of {W : Wd} {f : Addr} {body : List Stmt} (h : (fdAt W.K f).isSome = true) (hb : (fdK W.K f h).body = .stmts body) (hc : codeIn W.K (fdK W.K f h).code (fdK W.K f h).qualname = true) (hg : (fdK W.K f h).globals = mainGlobals) (hbl : (fdK W.K f h).builtins = builtinsNs)
    (hcl : (fdK W.K f h).closure = []) (hn : noCellB (fdK W.K f h).scope = true) (hk : (fdK W.K f h).scope.kind = .function) (hco : (fdK W.K f h).scope.isCoroutine = false) (hge : (fdK W.K f h).scope.isGenerator = false) : FnK W f (fdK W.K f h) body where
  look := fdAt_look h
  body := hb
  code := hc
  globals := hg
  builtins := hbl
  closure := hcl
  nocell x hx := by have := List.all_eq_true.mp hn x hx; simp at this; exact this.1
  nofree x hx := by have := List.all_eq_true.mp hn _ (lookup_in hx); simp at this
  kind := hk
  co := hco
  gen := hge
end Mine
end
section
set_option linter.unusedVariables false
namespace Mine
theorem reps_ints {Z : AddrSet} {h : Heap} : ∀ {vals : List Value} {ns : List Int}, IntsAre vals ns → RepVs Z h vals (ns.map .int)
  | [], [], _ => .nil
  | _ :: _, _ :: _, hi => by
    cases hi
    exact .cons (.int _ _) (reps_ints (by assumption))
noncomputable def script0 (ns : List Int) : Slots := fun x => if x = "script" then some (.val (.lst (ns.map .int))) else none
end Mine
end
section
set_option linter.unusedVariables false
namespace Mine
section
variable {W : Wd} {Z Z' Z₁ : AddrSet} {s s' s₁ : Shared} {env : Env} {sc : Scope} {ρ ρ' : Slots} {α α' : Str → Addr} {A : Around} {d : Nat}
theorem look_snoc {x n : Str} {w : Value} (r : List (Str × Value)) : ((n, w) :: r).reverse.lookup x = (r.reverse.lookup x).or (if x = n then some w else none) := by
  rw [List.reverse_cons, List.lookup_append, List.lookup_cons, List.lookup_nil]
  by_cases e : x = n
  · rw [if_pos e, e, beq_self_eq_true]
  · rw [if_neg e, beq_eq_false_iff_ne.mpr e]
theorem bindL_look {k : Str → Option NameKind} {x : Str} (hk : k x = some .local) (binds : List (Str × Value)) (m : Str → Option Value) : bindL k binds m x = (binds.reverse.lookup x).or (m x) := by
  induction binds generalizing m with
  | nil => rfl
  | cons p r ih =>
    obtain ⟨n, w⟩ := p
    show bindL k r _ x = _
    rw [ih, look_snoc]
    cases r.reverse.lookup x with
    | some v => rfl
    | none =>
      by_cases e : x = n
      · rw [← e, if_pos hk]; simp
      · by_cases hn : k n = some .local
        · rw [if_pos hn]; simp [e]
        · rw [if_neg hn]; simp [e]
theorem bindC_look {k : Str → Option NameKind} {x : Str} (hk : k x ≠ some .local) (binds : List (Str × Value)) (m : Str → Option Value) : bindC k binds m x = (binds.reverse.lookup x).or (m x) := by
  induction binds generalizing m with
  | nil => rfl
  | cons p r ih =>
    obtain ⟨n, w⟩ := p
    show bindC k r _ x = _
    rw [ih, look_snoc]
    cases r.reverse.lookup x with
    | some v => rfl
    | none =>
      by_cases e : x = n
      · rw [← e, if_neg hk]; simp
      · by_cases hn : k n = some .local
        · rw [if_pos hn]; simp [e]
        · rw [if_neg hn]; simp [e]
theorem cells_acc {x : Str} : ∀ (names : List (Str × NameKind)) (n : Nat) (acc : List (Str × Addr)), ((acc.lookup x).isSome = true ∨ names.lookup x = some .cell) → ((cellsFrom n names acc).lookup x).isSome = true
  | [], n, acc, h => by
    rcases h with h | h
    · exact h
    · cases h
  | (y, k) :: r, n, acc, h => by
    unfold cellsFrom
    by_cases hk : (k == NameKind.cell) = true
    · rw [if_pos hk]
      refine cells_acc r (n + 1) _ ?_
      rw [List.lookup_cons]
      cases e : (x == y) with
      | true => exact .inl rfl
      | false =>
        rcases h with h | h
        · exact .inl h
        · rw [List.lookup_cons, e] at h; exact .inr h
    · rw [if_neg hk]
      refine cells_acc r n acc ?_
      rcases h with h | h
      · exact .inl h
      · rw [List.lookup_cons] at h
        cases e : (x == y) with
        | true => rw [e] at h; cases h; exact (hk rfl).elim
        | false => rw [e] at h; exact .inr h
structure FnC (W : Wd) (f : Addr) (fd : FuncData) (body : List Stmt) : Prop where
  look : ∃ o, W.K.lookup f = some o ∧ o.data = .func fd
  body : fd.body = .stmts body
  code : codeIn W.K fd.code fd.qualname = true
  globals : fd.globals = mainGlobals
  builtins : fd.builtins = builtinsNs
  closure : fd.closure = []
  nofree : ∀ x, fd.scope.names.lookup x ≠ some .free
  kind : fd.scope.kind = .function
  co : fd.scope.isCoroutine = false
  gen : fd.scope.isGenerator = false
theorem call_cells {prog : Program} {w : World} {R : Result → Shared → Prop} {a : Addr} {o : Obj} {fd : FuncData} {body : List Stmt} {vals : List Value} {binds : List (Str × Value)}
    (hroom : A.depth < recursionLimit) (ho : s.heap.get? a = some o) (hdata : o.data = .func fd) (hlim : s.heap.NoLimit) (hcd : s.heap.CodeRec fd.code fd.qualname) (hbody : fd.body = .stmts body) (hbind : bindArgs fd ⟨vals, []⟩ = pure binds) (hclo : fd.closure = [])
    (hkind : ∀ x ∈ binds, fd.scope.names.lookup x.1 = some .local ∨ (fd.scope.names.lookup x.1 = some .cell ∧ ((cellsFrom (s.heap.objs.size + 1) fd.scope.names []).lookup x.1).isSome = true))
    (h : ∀ s₁, s.toks ≤ s₁.toks → InCallC s (callEnvC fd s.heap.objs.size a).locals (bindL (callEnvC fd s.heap.objs.size a).kindOf binds fun _ => none) (callEnvC fd s.heap.objs.size a).cells (bindC (callEnvC fd s.heap.objs.size a).kindOf binds fun _ => none) s₁ →
      wpAny (model prog w) (A.deeper (callEnvC fd s.heap.objs.size a)) (execs body (callEnvC fd s.heap.objs.size a)) (fun f s' => R (.ok (.ret (match f with | .ret v => v | _ => .none))) s')
        (fun e s' => wpAny (model prog w) (A.deeper (callEnvC fd s.heap.objs.size a)) (leaving (callEnvC fd s.heap.objs.size a) e) (fun _ s'' => R (.error e) s'') (fun e' s'' => R (.error e') s'') s') s₁)
    (hco : fd.scope.isCoroutine = false) (hgen : fd.scope.isGenerator = false) (hk : fd.scope.kind = .function) : codeAny (model prog w) A (.call (.ref a) ⟨vals, []⟩) R s := by
  refine codeAny_call_function hroom ho hdata hco hgen hbody hcd ?_
  rw [hbind, hclo]
  refine wpAny_pure (wpAny_with_toks (Nat.le_refl _) (wpAny_newFunctionEnv_cells hk hkind fun env he s' x => fun htk => ?_))
  subst he
  exact ⟨hlim.keeps x.toInCall.keep, codeAny_func (h s' htk x)⟩
theorem cells_apart {cs : List (Str × Addr)} {y z : Str} {c : Addr} (hp : cs.Pairwise (fun x y => x.2 ≠ y.2)) (hy : cs.lookup y = some c) (hz : cs.lookup z = some c) : y = z := by
  induction cs with
  | nil => cases hy
  | cons p r ih =>
    obtain ⟨n, b⟩ := p
    rw [List.lookup_cons] at hy hz
    have hp' := List.pairwise_cons.mp hp
    cases ey : (y == n) with
    | true =>
      rw [ey] at hy; cases hy
      cases ez : (z == n) with
      | true => rw [eq_of_beq ey, eq_of_beq ez]
      | false => rw [ez] at hz; exact (hp'.1 _ (lookup_in hz) rfl).elim
    | false =>
      rw [ey] at hy
      cases ez : (z == n) with
      | true => rw [ez] at hz; cases hz; exact (hp'.1 _ (lookup_in hy) rfl).elim
      | false => rw [ez] at hz; exact ih hp'.2 hy hz
noncomputable def withSelf (Z : AddrSet) (env : Env) : AddrSet := fun a => Z a ∨ env.cells.lookup frz = some a
theorem enter_loc {fd : FuncData} {f : Addr} {binds : List (Str × Value)} (I : Inv W Z s) (hl : ∀ x ∈ binds, fd.scope.names.lookup x.1 = some .local ∨ fd.scope.names.lookup x.1 = some .cell)
    (hρ : ∀ x sv, ρ x = some sv → ∃ v av, binds.reverse.lookup x = some v ∧ sv = .val av ∧ RepV Z s.heap v av) (htk : s.toks ≤ s₁.toks)
    (x : InCallC s (callEnvC fd s.heap.objs.size f).locals (bindL (callEnvC fd s.heap.objs.size f).kindOf binds fun _ => none) (callEnvC fd s.heap.objs.size f).cells (bindC (callEnvC fd s.heap.objs.size f).kindOf binds fun _ => none) s₁) :
    Step W .none Z s (withSelf Z (callEnvC fd s.heap.objs.size f)) s₁ ∧ Loc W (withSelf Z (callEnvC fd s.heap.objs.size f)) s₁.heap (callEnvC fd s.heap.objs.size f) ρ α ∧ ∀ a, FOwn (callEnvC fd s.heap.objs.size f) ρ α a → s.heap.get? a = none := by
  have big : ∀ a, s.heap.objs.size ≤ a → s.heap.get? a = none := fun a h => by
    cases e : s.heap.get? a with
    | none => rfl
    | some o => exact absurd (Heap.lt_size e) (Nat.not_lt.mpr h)
  have noown : ∀ y l, ρ y ≠ some (.own l) := fun y l h => by
    obtain ⟨v, av, _, e, _⟩ := hρ y _ h; cases e
  have cfresh : ∀ y c, (callEnvC fd s.heap.objs.size f).cells.lookup y = some c → s.heap.get? c = none ∧ c ≠ (callEnvC fd s.heap.objs.size f).locals := fun y c hy => ⟨big _ (Nat.le_of_lt (x.above y c (lookup_in hy))), Nat.ne_of_gt (x.above y c (lookup_in hy))⟩
  have fo : ∀ a, FOwn (callEnvC fd s.heap.objs.size f) ρ α a → s.heap.get? a = none := by
    rintro a (rfl | ⟨y, _, hy⟩ | ⟨y, l, hy, _⟩)
    · exact big _ (Nat.le_refl _)
    · exact (cfresh y a hy).1
    · exact (noown y l hy).elim
  have keep := x.toInCall.keep
  have cell := x.cell
  have apart := x.apart
  have ns := x.toInCall.ns
  obtain ⟨h₁, tk, rfl⟩ := x.toInCall.same
  have p : Step W .none Z s (withSelf Z (callEnvC fd s.heap.objs.size f)) { s with heap := h₁, toks := tk } :=
    ⟨⟨I.ok, fun b o e x => keep _ _ (I.base b o e x), fun b x => let ⟨o, e⟩ := I.xs b x; ⟨o, keep _ _ e⟩, fun a z => z.elim (fun z => let ⟨o, e⟩ := I.zin a z; ⟨o, keep _ _ e⟩) fun hc => let ⟨o, e, _⟩ := cell frz a hc; ⟨o, e⟩, I.os, I.bare, fun a z => z.elim (I.zx a) fun hc => I.fresh_x (cfresh frz a hc).1, fun a h => .inl (I.z0 a h), Nat.le_trans I.tk htk⟩,
      fun b o _ e => keep b o e, fun _ h => .inl h, fun a h => h.elim .inl fun hc => .inr (.inr (cfresh frz a hc).1), fun _ _ _ e => e⟩
  refine ⟨p, ⟨⟨_, ns, fun y sv hy => ?_⟩, fun a f' z => ?_, fun a f' => ⟨I.fresh_b (fo a f'), I.fresh_x (fo a f')⟩, fun y l b hy => (noown y l hy).elim, fun y z l l' hy => (noown y l hy).elim, fun y c hc => ⟨_, cell y c hc⟩, fun y z c hy hz => cells_apart apart hy hz, fun c hc => .inr hc⟩, fo⟩
  · obtain ⟨v, av, hv, rfl, r⟩ := hρ y sv hy
    refine ⟨v, ?_, r.mono (fun _ z => .inl z) fun a o _ e => keep a o e⟩
    rcases hl _ (List.mem_reverse.mp (lookup_in hv)) with k | k
    · have k' : (callEnvC fd s.heap.objs.size f).kindOf y = some .local := k
      exact .inl ⟨k', by rw [bindL_look k', hv]; rfl⟩
    · have k' : (callEnvC fd s.heap.objs.size f).kindOf y = some .cell := k
      obtain ⟨c, hc⟩ := Option.isSome_iff_exists.mp (cells_acc fd.scope.names (s.heap.objs.size + 1) [] (.inr k))
      have := cell y c hc
      rw [bindC_look (by rw [k']; decide), hv] at this
      exact .inr (.inl ⟨.inl k', c, hc, this⟩)
  · rcases z with z | z
    · exact I.fresh_z (fo a f') z
    · rcases f' with e | ⟨y, hn, hy⟩ | ⟨y, l, hy, _⟩
      · exact (cfresh frz a z).2 e
      · exact hn (cells_apart apart hy z)
      · exact noown y l hy
theorem enter_env {fd : FuncData} {f L : Addr} (hg : fd.globals = mainGlobals) (hb : fd.builtins = builtinsNs) (hn : ∀ x, fd.scope.names.lookup x ≠ some .free) (hk : fd.scope.kind = .function) : EnvOk (callEnvC fd L f) fd.scope :=
  ⟨rfl, hg, hb, hk, fun x hx => by
    rcases hx with h | h
    · exact Option.isSome_iff_exists.mp (cells_acc fd.scope.names (L + 1) [] (.inr h))
    · exact (hn _ h).elim⟩
end
end Mine
end
section
set_option linter.unusedVariables false
namespace Mine
section
variable {W : Wd} {Z Z' Z₁ : AddrSet} {s s' s₁ : Shared} {env : Env} {sc : Scope} {ρ ρ' : Slots} {α α' : Str → Addr} {A : Around} {d : Nat}
open Classical in
noncomputable def maskH (h : Heap) (p : Addr → Prop) : Heap := ⟨h.objs.mapIdx fun i o => if p i then ⟨o.cls, o.dict, .freed, o.slots⟩ else o, h.life⟩
theorem maskH_in {h : Heap} {p : Addr → Prop} {a : Addr} (hp : p a) : (maskH h p).get? a = none := by
  unfold maskH Heap.get?
  rw [Array.getElem?_mapIdx]
  cases e : h.objs[a]? with
  | none => rfl
  | some o => simp only [Option.map_some, if_pos hp]
theorem maskH_out {h : Heap} {p : Addr → Prop} {a : Addr} (hp : ¬ p a) : (maskH h p).get? a = h.get? a := by
  unfold maskH Heap.get?
  rw [Array.getElem?_mapIdx]
  cases e : h.objs[a]? with
  | none => rfl
  | some o => simp only [Option.map_some, if_neg hp]
theorem maskH_some {h : Heap} {p : Addr → Prop} {a : Addr} {o : Obj} (e : (maskH h p).get? a = some o) : ¬ p a ∧ h.get? a = some o := by
  by_cases hp : p a
  · rw [maskH_in hp] at e; cases e
  · rw [maskH_out hp] at e; exact ⟨hp, e⟩
end
end Mine
end
section
set_option linter.unusedVariables false
namespace Mine
section
variable {W : Wd} {Z Z' Z₁ : AddrSet} {s s' s₁ : Shared} {env : Env} {sc : Scope} {ρ ρ' : Slots} {α α' : Str → Addr} {A : Around} {d : Nat}
structure FnS (W : Wd) (f c : Addr) (fd : FuncData) (body : List Stmt) (v : Value) (me : AV) : Prop where
  look : ∃ o, W.h₀.get? f = some o ∧ o.data = .func fd
  nox : ∀ a, ¬ W.X a
  code : W.h₀.CodeRec fd.code fd.qualname
  body : fd.body = .stmts body
  globals : fd.globals = mainGlobals
  builtins : fd.builtins = builtinsNs
  closure : fd.closure = [(frz, c)]
  nocell : ∀ x ∈ fd.scope.names, x.2 ≠ .cell
  free : ∀ x, fd.scope.names.lookup x = some .free → x = frz
  hfree : fd.scope.names.lookup frz = some .free
  kind : fd.scope.kind = .function
  co : fd.scope.isCoroutine = false
  gen : fd.scope.isGenerator = false
  z : W.Z₀ c
  cell : W.h₀.IsCell c (some v)
  rep : RepV W.Z₀ W.h₀ v me
theorem clo_enter {f c : Addr} {fd : FuncData} {body : List Stmt} {v : Value} {self : AV} {names : List Str} {vals : List Value} {args : List AV} (k : FnS W f c fd body v self) (hb : ∀ s (vals : List Value), vals.length = names.length → BindsTo s fd ⟨vals, []⟩ (names.zip vals))
    (hl : ∀ x ∈ names, fd.scope.names.lookup x = some .local) (hn : frz ∉ names) (hroom : A.depth < recursionLimit) (I : Inv W Z s) (r : RepVs Z s.heap vals args) (hlen : args.length = names.length) {Q : Value → Shared → Prop} {E' : Value → Shared → Prop}
    (h : ∀ env s₁, EnvOk env fd.scope → env.frame = some env.locals → s.heap.get? env.locals = none → Step W .none Z s Z s₁ → Loc W Z s₁.heap env ((bindA names args).set frz (.val self)) (fun _ => 0) → (∀ a, FOwn env ((bindA names args).set frz (.val self)) (fun _ => 0) a → a = env.locals) →
      wpAny W.M (A.deeper env) (execs body env) (fun g s' => Q (match g with | .ret v => v | _ => .none) s') (fun e s' => wpAny W.M (A.deeper env) (leaving env e) (fun _ s'' => E' e s'') (fun e' s'' => E' e' s'') s') s₁) :
    wpAny W.M A (call (.ref f) vals) Q E' s := by
  have base : ∀ b o, W.h₀.get? b = some o → s.heap.get? b = some o := fun b o e => I.base b o e (k.nox b)
  obtain ⟨o, hk, hd⟩ := k.look
  have hcd : s.heap.CodeRec fd.code fd.qualname := let ⟨c₂, oc, vs, t, e2, hoc, r⟩ := k.code; ⟨c₂, oc, vs, t, e2, base _ _ hoc, r⟩
  have hlz : ∀ x ∈ names.zip vals, fd.scope.names.lookup x.1 = some .local := fun x hx => hl _ (List.of_mem_zip (show (x.1, x.2) ∈ _ from hx)).1
  refine wpAny_call (codeAny_call_def hroom (base _ _ hk) hd I.nolimit hcd k.body (hb s vals (r.length.trans hlen)) k.nocell hlz (fun h₁ hns hk₁ => ?_) k.co k.gen k.kind)
  have hN : s.heap.get? s.heap.objs.size = none := push_none _
  have p₁ : Step W .none Z s Z { s with heap := h₁, toks := s.toks + (names.zip vals).length } := .grow I hk₁
  have cl : ∀ x a, (callEnv fd s.heap.objs.size f).cells.lookup x = some a → x = frz ∧ a = c := fun x a hx => by
    change fd.closure.lookup x = some a at hx
    rw [k.closure, List.lookup_cons] at hx
    cases e : (x == frz) with
    | true => rw [e] at hx; cases hx; exact ⟨eq_of_beq e, rfl⟩
    | false => rw [e] at hx; cases hx
  have hcl : (callEnv fd s.heap.objs.size f).cells.lookup frz = some c := by
    change fd.closure.lookup frz = some c
    rw [k.closure, List.lookup_cons, beq_self_eq_true]
  have hE : EnvOk (callEnv fd s.heap.objs.size f) fd.scope := ⟨rfl, k.globals, k.builtins, k.kind, fun x hx => by
    rcases hx with h | h
    · exact (k.nocell _ (lookup_in h) rfl).elim
    · rw [k.free x h]; exact ⟨c, hcl⟩⟩
  have noown : ∀ y l, ((bindA names args).set frz (.val self)) y ≠ some (.own l) := fun y l h => by
    unfold Slots.set at h
    by_cases e : y = frz
    · rw [if_pos e] at h; cases h
    · rw [if_neg e] at h; obtain ⟨b, _, e⟩ := Option.map_eq_some_iff.mp h; cases e
  have fo : ∀ a, FOwn (callEnv fd s.heap.objs.size f) ((bindA names args).set frz (.val self)) (fun _ => 0) a → a = s.heap.objs.size := by
    rintro a (h | ⟨x, hne, hx⟩ | ⟨x, l, hx, _⟩)
    · exact h
    · exact (hne (cl x a hx).1).elim
    · exact (noown x l hx).elim
  have hcell : h₁.IsCell c (some v) := let ⟨o, e, dd⟩ := k.cell; ⟨o, hk₁ _ _ (base _ _ e), dd⟩
  have L : Loc W Z h₁ (callEnv fd s.heap.objs.size f) ((bindA names args).set frz (.val self)) (fun _ => 0) := by
    refine ⟨⟨_, hns, fun x sv hx => ?_⟩, fun a f' z => I.fresh_z hN (fo a f' ▸ z), fun a f' => fo a f' ▸ ⟨I.fresh_b hN, I.fresh_x hN⟩, fun x l b hx => (noown x l hx).elim, fun x y l l' hx => (noown x l hx).elim, fun x a hx => ?_, fun x y a hx hy => (cl x a hx).1.trans (cl y a hy).1.symm, fun a hx => ?_⟩
    · unfold Slots.set at hx
      by_cases e : x = frz
      · rw [if_pos e] at hx
        cases hx
        exact ⟨v, .inr (.inl ⟨.inr (e ▸ k.hfree), c, e ▸ hcl, hcell⟩), k.rep.mono (fun a z => I.z0 a z) fun a o _ e => hk₁ a o (base a o e)⟩
      · rw [if_neg e] at hx
        obtain ⟨b, hb1, rfl⟩ := Option.map_eq_some_iff.mp hx
        obtain ⟨u, hu, ru⟩ := (zip_look r names x).1 b hb1
        exact ⟨u, .inl ⟨hlz _ (List.mem_reverse.mp (lookup_in hu)), hu⟩, ru.mono (fun _ z => z) fun a o _ e => hk₁ a o e⟩
    · rw [(cl x a hx).2]; exact ⟨_, hcell⟩
    · rw [(cl frz a hx).2]; exact I.z0 c k.z
  exact h _ _ hE rfl hN p₁ L fo
theorem clo_spec {f c : Addr} {fd : FuncData} {body : List Stmt} {v : Value} {self : AV} {names : List Str} {F : Slots → Option (AFlow × Slots)} (k : FnS W f c fd body v self) (hb : ∀ s (vals : List Value), vals.length = names.length → BindsTo s fd ⟨vals, []⟩ (names.zip vals))
    (hl : ∀ x ∈ names, fd.scope.names.lookup x = some .local) (hn : frz ∉ names) (hF : DenSs W d fd.scope body F) :
    FSpec W (d + 1) (.ref f) fun args => if args.length = names.length then (F ((bindA names args).set frz (.val self))).map fun r => retA r.1 else none := by
  intro A Z s vals args av R I r h Q E' q
  obtain ⟨hlen, h⟩ := iteO h
  obtain ⟨⟨fl, ρ'⟩, hf, rfl⟩ := Option.map_eq_some_iff.mp h
  refine clo_enter k hb hl hn R.lt I r hlen fun env s₁ hE _ hN p₁ L fo => ?_
  refine hF _ _ Z _ _ _ fl ρ' (R.deeper _) hE p₁.inv L hf _ _ fun g s₂ Z₂ α₂ p₂ r₂ => ?_
  refine q _ s₂ Z₂ (p₁.trans p₂.step (fun a h => .inr (fo a h ▸ hN)) (fun _ h => h.elim)) ?_
  cases fl <;> cases g <;> first | exact r₂.elim | exact .none | exact r₂
theorem den_call_local {x : Str} {np pos : Pos} {es : List Expr} {fs : Slots → Option (List AV)} {f : Addr} {G : List AV → Option AV} (h1 : (x == ("__debug__" : Str)) = false) (hn : isPh x = false) (hfa : ∀ Z s, Inv W Z s → FnAt f s.heap) (ha : DenPs W d sc es fs) (hns : ∀ env pos, (backTo pos (starEach es env)).any (·.1) = false) (hF : FSpec W d (.ref f) G)
    (he : ∀ env, eval (.Call (.Name x np) es [] pos) env = (do callWith pos (← eval (.Name x np) env) [] (backTo pos (starEach es env)) (backToKw pos (keywordEach [] env)))) :
    DenP W d sc (.Call (.Name x np) es [] pos) fun ρ => getV ρ x >>= fun v => match v with | .raw (.ref a) => if a = f then fs ρ >>= G else none | _ => none := by
  intro A env Z s ρ α av R hE I L hf Q E' q
  obtain ⟨v, hv, hf⟩ := bindO hf
  split at hf
  · obtain ⟨e, hf⟩ := iteO hf
    obtain ⟨l, hl, hf⟩ := bindO hf
    rw [he env]
    refine wpAny_bind (wpAny_Name (L.load hE (getV_eq hv) (fun w r => ?_) hn) h1)
    have hw : w = .ref f := by
      have r' : RepV Z s.heap w (.raw (.ref _)) := r
      cases r'; rw [e]
    rw [hw]
    refine callWith_of (P := FnAt f) (by rw [hns]; rfl) keeps_F (evalArgs_ns (hns _ _) (ha A env Z s ρ α l R hE I L hl pos _ _ fun vs s₁ Z₁ p₁ r₁ => ⟨hfa Z₁ s₁ p₁.inv, ?_⟩))
    exact hF A Z₁ s₁ vs l av R p₁.inv r₁ hf _ _ fun u s₂ Z₂ p₂ r₂ => q u s₂ Z₂ (p₁.tr p₂) r₂
  · cases hf
end
end Mine
end
section
set_option linter.unusedVariables false
namespace Mine
section
variable {W : Wd} {Z Z' Z₁ : AddrSet} {s s' s₁ : Shared} {env : Env} {sc : Scope} {ρ ρ' : Slots} {α α' : Str → Addr} {A : Around} {d : Nat}
noncomputable def replA (y z : Str) (a : AV) : Option AV := a.str? >>= fun x => if x.length ≤ 1000000 ∧ z.length ≤ 14 then some (.str (Txt.replace x y z)) else none
theorem den_replace {o : Expr} {y z : Str} {k1 k2 : Nat} {apos pos p1 p2 : Pos} {f : Slots → Option AV} (ho : DenP W d sc o f) (hyz : (y == z) = false)
    (hbase : ∀ env, attributeBase o "replace" env (eval o env) = eval o env) (hline : (apos.endLine == pos.line) = true) :
    DenP W d sc (.Call (.Attribute o "replace" apos) [.Constant (.str y) k1 p1, .Constant (.str z) k2 p2] [] pos) fun ρ => f ρ >>= replA y z := by
  intro A env Z s ρ α av R hE I L hf Q E' q
  obtain ⟨a, ha', hf⟩ := bindO hf
  obtain ⟨x, hx, hf⟩ := bindO hf
  obtain ⟨hz, hf⟩ := iteO hf
  cases hf
  refine wpAny_Call_method (hbase env) rfl hline PySem.F.plainAttrs_str PySem.F.slot_str_replace PySem.F.type_str_replace (ho A env Z s ρ α _ R hE I L ha' _ _ fun ov s₁ Z₁ p₁ r₁ => ?_)
  obtain ⟨t, rfl⟩ := str?_rep hx r₁
  refine ⟨typeIs_str _ _ _, fun a e => (by cases e), ?_⟩
  refine callWith_of (P := W.K.In) rfl (keep_builtin "str.replace") (evalArgs_ns rfl (wpAny_items_cons (wpAny_Constant_str (wpAny_items_cons (wpAny_Constant_str (wpAny_items_nil ⟨p₁.inv.kin, ?_⟩)))))) 
  have h1 := p₁.inv.tk
  have I₃ : Step W .none Z₁ s₁ Z₁ { s₁ with toks := s₁.toks + 1 + 1 } := .toks p₁.inv _ (by (first | lia | omega))
  refine wpAny_with_toks (Nat.le_refl _) (SC.replaceW (show s₁.toks ≠ 0 by (first | lia | omega)) (show s₁.toks + 1 ≠ 0 by (first | lia | omega)) (show s₁.toks ≠ s₁.toks + 1 by (first | lia | omega)) hyz (by (first | lia | omega)) hz.2 fun t' k => fun (htk : s₁.toks + 1 + 1 ≤ k) => ?_)
  exact q _ _ Z₁ (p₁.tr (I₃.tr (.toks I₃.inv k htk))) (.str _ _)
noncomputable def rstripF (l : List AV) : Option AV := arg2 l fun a b => a.str? >>= fun x => b.str? >>= fun y => if x.length ≤ 16777216 then some (.str (Txt.rstripChars x y)) else none
theorem spec_rstrip : FSpec W d (.builtin "str.rstrip") rstripF := by
  intro A Z s vals args av R I r h
  obtain ⟨x, y, t, u, rfl, h⟩ := strs2_rep h r
  obtain ⟨hz, h⟩ := iteO h
  cases h
  exact .val I fun Q E' q => SC.rstripChars (fun t' k => q _ k (.str _ _)) (by unfold sizeLine; exact hz)
end
end Mine
end
section
open PySem PySem.W PyProof.Rows PySem.Builtin PySem.Builtin.Str
set_option linter.unusedVariables false
namespace Mine
noncomputable def expStep (n : Int) (p : Array Nat × Nat) (c : Nat) : Array Nat × Nat :=
  if (c == 9) = true then (p.1 ++ Array.replicate (if n > 0 then n.toNat - p.2 % n.toNat else 0) 32, p.2 + if n > 0 then n.toNat - p.2 % n.toNat else 0)
  else (p.1.push c, if (c == 10 || c == 13) = true then 0 else p.2 + 1)
noncomputable def expandT (n : Int) (x : Str) : Str := if (!x.cps.contains 9) = true then x else ⟨(x.cps.toList.foldl (expStep n) (#[], 0)).1⟩
theorem expStep_mono (n : Int) (p : Array Nat × Nat) (c : Nat) : p.1.size ≤ (expStep n p c).1.size := by
  unfold expStep
  by_cases h : (c == 9) = true
  · rw [if_pos h]; show p.1.size ≤ (p.1 ++ _).size; rw [Array.size_append]; exact Nat.le_add_right _ _
  · rw [if_neg h]; show p.1.size ≤ (p.1.push c).size; rw [Array.size_push]; exact Nat.le_succ _
theorem exp_mono (n : Int) (l : List Nat) (p : Array Nat × Nat) : p.1.size ≤ (l.foldl (expStep n) p).1.size := by
  induction l generalizing p with
  | nil => exact Nat.le_refl _
  | cons c l ih => exact Nat.le_trans (expStep_mono n p c) (ih _)
noncomputable def expBody (n : Int) (c : Nat) (p : Array Nat × Nat) : Sem (ForInStep (Array Nat × Nat)) :=
  if (c == 9) = true then
    if tooLong (p.1.size + if n > 0 then n.toNat - p.2 % n.toNat else 0) = true then do
      unsupported "str.expandtabs:memory"
      pure (ForInStep.yield (p.1 ++ Array.replicate (if n > 0 then n.toNat - p.2 % n.toNat else 0) 32, p.2 + if n > 0 then n.toNat - p.2 % n.toNat else 0))
    else pure (ForInStep.yield (p.1 ++ Array.replicate (if n > 0 then n.toNat - p.2 % n.toNat else 0) 32, p.2 + if n > 0 then n.toNat - p.2 % n.toNat else 0))
  else pure (ForInStep.yield (p.1.push c, if (c == 10 || c == 13) = true then 0 else p.2 + 1))
theorem expBody_eq (n : Int) (c : Nat) (p : Array Nat × Nat) (h : (expStep n p c).1.size ≤ 16777216) : expBody n c p = pure (ForInStep.yield (expStep n p c)) := by
  unfold expBody expStep
  by_cases h9 : (c == 9) = true
  · rw [if_pos h9, if_pos h9]
    unfold expStep at h
    rw [if_pos h9] at h
    have h' : p.1.size + (if n > 0 then n.toNat - p.2 % n.toNat else 0) ≤ 16777216 := by
      have : (p.1 ++ Array.replicate (if n > 0 then n.toNat - p.2 % n.toNat else 0) 32).size ≤ 16777216 := h
      rw [Array.size_append, Array.size_replicate] at this; exact this
    rw [if_neg]
    rw [show tooLong (p.1.size + if n > 0 then n.toNat - p.2 % n.toNat else 0) = false from by unfold tooLong; exact decide_eq_false (by unfold sizeLine; (first | lia | omega))]
    exact Bool.false_ne_true
  · rw [if_neg h9, if_neg h9]
theorem exp_loop (n : Int) (l : List Nat) (p : Array Nat × Nat) (h : (l.foldl (expStep n) p).1.size ≤ 16777216) : (forIn l p (expBody n) : Sem (Array Nat × Nat)) = pure (l.foldl (expStep n) p) := by
  induction l generalizing p with
  | nil => rfl
  | cons c l ih =>
    rw [List.forIn_cons, expBody_eq n c p (Nat.le_trans (exp_mono n l _) h)]
    exact ih _ h
theorem gives_expand (x : Str) (t u : Tok) (n : Int) (h1 : (decide (n < -(2 ^ 31 : Int)) || decide (n ≥ 2 ^ 31)) = false) (hz : (x.cps.toList.foldl (expStep n) (#[], 0)).1.size ≤ 16777216) :
    PySem.Gives («str.expandtabs» ⟨[.str x t, .int n u], []⟩) (if (!x.cps.contains 9) = true then .val (.str x t) else .str ⟨(x.cps.toList.foldl (expStep n) (#[], 0)).1⟩) := by
  have e : «str.expandtabs» ⟨[.str x t, .int n u], []⟩ = (do
    if (decide (n < -(2 ^ 31 : Int)) || decide (n ≥ 2 ^ 31)) = true then
      rule "str.expandtabs.overflow"; raiseError "OverflowError" "Python int too large to convert to C int"
    if (!x.cps.contains 9) = true then rule "str.expandtabs.no-tab"; return ← ret (← strUnchanged (.str x t) x)
    let r ← forIn x.cps (#[], 0) (expBody n)
    retStr ⟨r.1⟩) := rfl
  rw [e, h1]
  simp only [Bool.false_eq_true, if_false]
  cases h9 : (!x.cps.contains 9)
  · simp only [Bool.false_eq_true, if_false]
    rw [← Array.forIn_toList, exp_loop n _ _ hz]
    exact .of_eq rfl
  · simp only [if_true]
    exact .rule (.of_eq rfl)
section
variable {W : Wd} {Z Z' Z₁ : AddrSet} {s s' s₁ : Shared} {A : Around} {d : Nat}
noncomputable def expandF (l : List AV) : Option AV := arg2 l fun a b => a.str? >>= fun x => b.int? >>= fun n => if -1000000 < n ∧ n < 1000000 ∧ (x.cps.toList.foldl (expStep n) (#[], 0)).1.size ≤ 16777216 then some (.str (expandT n x)) else none
theorem spec_expand : FSpec W d (.builtin "str.expandtabs") expandF := by
  intro A Z s vals args av R I r h
  obtain ⟨a, b, v, w, rfl, r1, r2, h⟩ := arg2_rep h r
  obtain ⟨x, hx, h⟩ := bindO h
  obtain ⟨n, hn, h⟩ := bindO h
  obtain ⟨⟨h1, h2, h3⟩, h⟩ := iteO h
  cases h
  obtain ⟨t, rfl⟩ := str?_rep hx r1
  obtain ⟨u, rfl⟩ := int?_rep hn r2
  refine .val I fun Q E' q => call_gives PySem.F.slot_str_expandtabs (typeIs_str _ _ _) PySem.F.entry_str_expandtabs (PySem.F.args_str_expandtabs_2 _ _) (gives_expand x t u n (by rw [decide_eq_false (by (first | lia | omega)), decide_eq_false (by (first | lia | omega))]; rfl) h3) ?_
  unfold expandT at q
  cases h9 : (!x.cps.contains 9)
  · rw [h9] at q
    exact ⟨h3, q _ _ (.str _ _)⟩
  · rw [h9] at q
    exact q _ s.toks (.str _ _)
end
end Mine
end
section
set_option linter.unusedVariables false
namespace Mine
section
variable {W : Wd} {Z Z' Z₁ : AddrSet} {s s' s₁ : Shared} {env : Env} {sc : Scope} {ρ ρ' : Slots} {α α' : Str → Addr} {A : Around} {d : Nat}
theorem execs_app (a b : List Stmt) : execs (a ++ b) env = (execs a env >>= fun f => match f with | .next => execs b env | f => pure f) := by
  induction a with
  | nil => show execs b env = (pure Flow.next >>= _); rw [pure_bind]
  | cons x a ih =>
    show execs (x :: (a ++ b)) env = _
    rw [execs_cons, execs_cons, bind_assoc]
    congr 1
    funext f
    cases f
    · exact ih
    all_goals (show pure _ = (pure _ >>= _); rw [pure_bind])
theorem wpAny_execs_app {a b : List Stmt} {Q : Flow → Shared → Prop} {E' : Value → Shared → Prop} (h : wpAny W.M A (execs a env) (fun f s' => match f with | .next => wpAny W.M A (execs b env) Q E' s' | f => Q f s') E' s) : wpAny W.M A (execs (a ++ b) env) Q E' s := by
  rw [execs_app]
  refine wpAny_bind (wpAny_mono h (fun f s' h' => ?_) fun _ _ x => x)
  cases f
  · exact h'
  all_goals exact wpAny_pure h'
structure Jump (P : Addr) (Z : AddrSet) (s : Shared) (Z' : AddrSet) (s' : Shared) : Prop where
  keep : ∀ b o, b ≠ P → s.heap.get? b = some o → s'.heap.get? b = some o
  zsub : ∀ a, Z a → Z' a
  znew : ∀ a, Z' a → Z a ∨ s.heap.get? a = none
  zin : ∀ a, Z' a → ∃ o, s'.heap.get? a = some o
  os : s'.os = s.os
  bare : AllBare s'.gens
  tk : 1 ≤ s'.toks
  tab : ∃ ps, s'.heap.get? P = some (tabObj ps)
theorem Loc.nofields {h : Heap} (L : Loc W Z h env ρ α) {a : Addr} {o : Obj} {vs : Array Value} (f : FOwn env ρ α a) (e : h.get? a = some o) (hd : o.data = .fields vs) : False := by
  obtain ⟨m, ⟨o', es, ep, e', d', _⟩, hv⟩ := L.ns
  rcases f with rfl | ⟨x, _, hx⟩ | ⟨x, l, hx, rfl⟩
  · rw [e'] at e; cases e; rw [hd] at d'; cases d'
  · obtain ⟨v, o₂, e₂, d₂⟩ := L.cell _ _ hx
    rw [e₂] at e; cases e; rw [hd] at d₂; cases d₂
  · obtain ⟨v, _, _, vs', ⟨n, hn⟩, _⟩ := hv x _ hx
    rw [hn] at e; cases e; cases hd
noncomputable def Wd.at (W : Wd) (h₀ : Heap) (Z₀ : AddrSet) : Wd := { W with h₀ := h₀, X := fun _ => False, Z₀ := Z₀ }
structure MakerOk (W : Wd) (f c P : Addr) (fd : FuncData) (names : List Str) (name : Str) (params : Arguments) (ibody : List Stmt) (iscope : Scope) (pos : Pos) (rest : List Stmt) (inames : List Str) : Prop where
  fn : FnC W f fd (.FunctionDef name params ibody [] none [] iscope none name pos :: rest)
  bind : ∀ (vals : List Value), vals.length = names.length → bindArgs fd ⟨vals, []⟩ = pure (names.zip vals)
  loc : ∀ x ∈ names, fd.scope.names.lookup x = some .local ∨ fd.scope.names.lookup x = some .cell
  self : fd.scope.names.lookup frz = some .cell
  x : ∀ a, W.X a ↔ a = P
  code : fd.code = .ref c
  codeHd : codeHdIn W.K c P = true
  built : W.h₀.BuiltinsAt W.mg P
  d0 : params.defaults = []
  k0 : params.kw_defaults = []
  ann : ∀ env, annTrees params none env = []
  kd : Kd fd.scope name
  inocell : ∀ x ∈ iscope.names, x.2 ≠ .cell
  ifree : ∀ x, iscope.names.lookup x = some .free → x = frz
  ihfree : iscope.names.lookup frz = some .free
  ifrees : iscope.names.filter (fun x => x.2 == .free) = [(frz, .free)]
  ikind : iscope.kind = .function
  ico : iscope.isCoroutine = false
  igen : iscope.isGenerator = false
  ibind : ∀ (qual : Str) (clos : List (Str × Addr)) (doc pm : Value) (c' : Addr) (ctv : Value) (s : Shared) (vals : List Value), vals.length = inames.length → BindsTo s (fnX name qual params ibody iscope clos .none .none doc pm none (.ref c') ctv) ⟨vals, []⟩ (inames.zip vals)
  iloc : ∀ x ∈ inames, iscope.names.lookup x = some .local
  inot : frz ∉ inames
theorem closeL_filter (env : Env) : ∀ (names : List (Str × NameKind)) (cs : List (Str × Addr)), closeL env names cs = closeL env (names.filter fun x => x.2 == .free) cs
  | [], cs => rfl
  | (n, k) :: r, cs => by
    rw [List.filter_cons]
    by_cases hk : (k == NameKind.free) = true
    · rw [if_pos hk]; unfold closeL; rw [if_pos hk, if_pos hk]; exact closeL_filter env r _
    · rw [if_neg hk]; rw [show closeL env ((n, k) :: r) cs = closeL env r cs by rw [closeL, if_neg hk]]; exact closeL_filter env r _
end
end Mine
end
section
set_option linter.unusedVariables false
namespace Mine
theorem newEnv1 {M : Model} {A : Around} {E : Value → Shared → Prop} {s : Shared} {scope : Scope} {globals : Addr} {n : Str} {v : Value} {qual : Str} {func : Option Addr} {code : Value} {builtins : Addr} {Q : Env → Shared → Prop} (hk : scope.kind = .function) (hl : scope.names.lookup n = some .local)
    (hQ : ∀ env, env = newEnv scope s.heap.objs.size globals (cellsFrom (s.heap.objs.size + 1) scope.names []) qual func code none builtins →
      ∀ s', s.toks + 1 ≤ s'.toks → InCallC s env.locals (bindL env.kindOf [(n, v)] fun _ => none) env.cells (bindC env.kindOf [(n, v)] fun _ => none) s' → Q env s') :
    wpAny M A (newFunctionEnv scope globals [] [(n, v)] qual func code none builtins) Q E s := by
  simp only [newFunctionEnv, Option.isSome_none, Bool.false_eq_true, if_false]
  refine wpAny_bind (wpAny_alloc ?_)
  refine wpAny_bind (wpAny_layCells _ (fun name kind cells => by cases hkc : kind == NameKind.cell <;> simp [hkc]) _ _ _ _ ?_)
  have ok := cellsFrom_ok scope.names (s.heap.push { cls := .type "frame", data := .dict #[] }) (s.heap.objs.size + 1) [] ⟨fun _ _ hm => (nomatch hm), List.Pairwise.nil⟩ (by rw [Heap.size_push]; exact Nat.le_refl _)
  rw [Heap.size_push] at ok
  rw [show ({ s with heap := s.heap.push { cls := .type "frame", data := .dict #[] } } : Shared).heap.objs.size = s.heap.objs.size + 1 from Heap.size_push ..]
  have x : InCallC s (newEnv scope s.heap.objs.size globals (cellsFrom (s.heap.objs.size + 1) scope.names []) qual func code none builtins).locals (fun _ => none) (newEnv scope s.heap.objs.size globals (cellsFrom (s.heap.objs.size + 1) scope.names []) qual func code none builtins).cells (fun _ => none) { s with heap := pushCells (s.heap.push { cls := .type "frame", data := .dict #[] }) scope.names } :=
    ⟨⟨⟨_, _, rfl⟩, (Heap.Ns.new s.heap (.type "frame")).keeps (pushCells_keeps _ _), fun b o e => pushCells_keeps _ _ b o (Heap.get?_push_of_some _ e), Nat.le_refl _⟩,
      fun n c hc => (ok.empty n c (mem_of_lookup hc)).1, ok.apart, fun n c hm => (ok.empty n c hm).2⟩
  have hl' : (newEnv scope s.heap.objs.size globals (cellsFrom (s.heap.objs.size + 1) scope.names []) qual func code none builtins).kindOf n = some .local := hl
  refine wpAny_bind ?_
  rw [List.forIn_cons]
  refine wpAny_bind (wpAny_bind (wpAny_storeName_local hl' x.toInCall.ns (fun h' hn' hs' => wpAny_pure ?_) (by show (scope.kind == .class || _) = false; rw [hk]; rfl)))
  show wpAny _ _ (forIn [] _ _) _ _ _
  rw [List.forIn_nil]
  refine wpAny_pure (wpAny_pure (hQ _ rfl _ (Nat.le_refl _) ?_))
  have eL : (bindL (newEnv scope s.heap.objs.size globals (cellsFrom (s.heap.objs.size + 1) scope.names []) qual func code none builtins).kindOf [(n, v)] fun _ => none) = fun y => if y = n then some v else none := by
    unfold bindL; rw [if_pos hl']; rfl
  have eC : (bindC (newEnv scope s.heap.objs.size globals (cellsFrom (s.heap.objs.size + 1) scope.names []) qual func code none builtins).kindOf [(n, v)] fun _ => none) = fun _ => none := by
    unfold bindC; rw [if_pos hl']; rfl
  rw [eL, eC]
  refine ⟨⟨⟨h', _, rfl⟩, hn', fun b o e => ?_, x.toInCall.fresh⟩, fun k c hc => ?_, x.apart, x.above⟩
  · exact hs'.extBut b o (Nat.ne_of_lt (Nat.lt_of_lt_of_le (Heap.lt_size e) x.toInCall.fresh)) (x.toInCall.keep b o e)
  · exact (x.cell k c hc).sameBut hs' (Nat.ne_of_gt (x.above k c (mem_of_lookup hc)))
section
variable {W : Wd} {Z Z' Z₁ : AddrSet} {s s' s₁ : Shared} {env : Env} {sc : Scope} {ρ ρ' : Slots} {α α' : Str → Addr} {A : Around} {d : Nat} {P : Addr} {ps : Array Value}
structure Stage (P : Addr) (s₁ : Shared) (ps : Array Value) (W : Wd) (env : Env) (Z : AddrSet) (s : Shared) (ρ : Slots) (α : Str → Addr) : Prop where
  inv : Inv W Z s
  loc : Loc W Z s.heap env ρ α
  keep : ∀ b o, b ≠ P → s₁.heap.get? b = some o → s.heap.get? b = some o
  own : ∀ a, FOwn env ρ α a → s₁.heap.get? a = none
  os : s.os = s₁.os
  tab : s.heap.get? P = some (tabObj ps)
  tab₁ : s₁.heap.get? P = some (tabObj #[])
theorem Stage.back (t : Stage P s₁ ps W env Z s ρ α) {a : Addr} (h : s.heap.get? a = none) : s₁.heap.get? a = none := by
  cases e : s₁.heap.get? a with
  | none => rfl
  | some o =>
    by_cases hp : a = P
    · rw [hp, t.tab] at h; cases h
    · rw [t.keep a o hp e] at h; cases h
theorem Stage.step (t : Stage P s₁ ps W env Z s ρ α) (p : FStep W env Z s ρ α Z' s' ρ' α') : Stage P s₁ ps W env Z' s' ρ' α' :=
  ⟨p.step.inv, p.loc, fun b o hne e => p.step.keep b o (fun f => by rw [t.own b f] at e; cases e) (t.keep b o hne e), fun a f => (p.fo a f).elim (t.own a) t.back, (p.step.inv.os.trans t.inv.os.symm).trans t.os,
    p.step.keep P _ (fun f => by have := t.own P f; rw [t.tab₁] at this; cases this) t.tab, t.tab₁⟩
theorem Stage.old {c : Addr} (t : Stage P s₁ ps W env Z s ρ α) (hK : W.K.In s₁.heap) (hc : codeHdIn W.K c P = true) (hP : P ≠ cStatics) : OldK s₁.heap s.heap :=
  (OldK.refl s₁.heap).step_table ((codeHd_of_K hK hc).tab t.tab₁) ((codeHd_of_K hK hc).tab t.tab₁) (by rw [Array.empty_append]; exact (codeHd_of_K t.inv.kin hc).tab t.tab) (fun b o hne e => t.keep b o hne e) hP
end
end Mine
end
section
set_option linter.unusedVariables false
namespace Mine
section
variable {W : Wd} {Z Z' Z₁ : AddrSet} {s s' s₁ : Shared} {env : Env} {sc : Scope} {ρ ρ' : Slots} {α α' : Str → Addr} {A : Around} {d : Nat}
noncomputable def locA (f : Addr) (v : AV) (x : Option AV) : Option AV := match v with | .raw (.ref a) => if a = f then x else none | _ => none
theorem locA_hit (f : Addr) (x : Option AV) : locA f (.raw (.ref f)) x = x := if_pos rfl
theorem den_call_localx {x : Str} {np pos : Pos} {es : List Expr} {fs : Slots → Option (List AV)} {f : Addr} {G : List AV → Option AV} (h1 : (x == ("__debug__" : Str)) = false) (hn : isPh x = false) (hfa : ∀ Z s, Inv W Z s → FnAt f s.heap) (ha : DenPs W d sc es fs) (hns : ∀ env pos, (backTo pos (starEach es env)).any (·.1) = false) (hF : FSpec W d (.ref f) G)
    (he : ∀ env, eval (.Call (.Name x np) es [] pos) env = (do callWith pos (← eval (.Name x np) env) [] (backTo pos (starEach es env)) (backToKw pos (keywordEach [] env)))) :
    DenP W d sc (.Call (.Name x np) es [] pos) fun ρ => getV ρ x >>= fun v => locA f v (fs ρ >>= G) := by
  have h := den_call_local (np := np) (pos := pos) h1 hn hfa ha hns hF he
  have e : (fun ρ => getV ρ x >>= fun v => locA f v (fs ρ >>= G)) = fun ρ => getV ρ x >>= fun v => match v with | .raw (.ref a) => if a = f then fs ρ >>= G else none | _ => none := by
    funext ρ
    congr 1
  rw [e]
  exact h
end
end Mine
end
section
set_option linter.unusedVariables false
namespace Mine
section
variable {W : Wd} {Z Z' Z₁ : AddrSet} {s s' s₁ : Shared} {env : Env} {sc : Scope} {ρ ρ' : Slots} {α α' : Str → Addr} {A : Around} {d : Nat}
end
end Mine
end
section
set_option linter.unusedVariables false
namespace Mine
section
variable {W : Wd} {Z Z' Z₁ Z₀ : AddrSet} {s s' s₁ s₀ : Shared} {env : Env} {sc : Scope} {ρ ρ' ρ₀ : Slots} {α α' α₀ : Str → Addr} {A : Around} {d : Nat}
structure ForAtT (W : Wd) (A : Around) (env : Env) (Z : AddrSet) (s : Shared) (fp wr : List Addr) (St : Nat → Heap → Prop) (Mid : Nat → Addr → Heap → Prop) (P : Nat → Array Value → Prop) (n : Nat) (J : Addr) (Z₂ : AddrSet) : Prop where
  I : Inv W Z s
  Wk : WalksT W.prog W.w A J fp wr n P St Mid
  hw : ∀ b ∈ wr, s.heap.get? b = none ∧ ¬ Z₂ b
  hf : ∀ b ∈ fp, b ∈ wr ∨ Z₂ b ∨ (s.heap.get? b = none ∧ ¬ Z₂ b)
  ob : ∀ i h, St i h → ∀ b ∈ fp, ∃ o, h.get? b = some o
structure ForInvT (W : Wd) (env : Env) (Z : AddrSet) (s : Shared) (ρ : Slots) (α : Str → Addr) (fp wr : List Addr) (St : Nat → Heap → Prop) (Z₂ : AddrSet) (s₂ s' : Shared) (i : Nat) (Z' : AddrSet) (ρ₁ : Slots) (α' : Str → Addr) : Prop where
  f : FStep W env Z s ρ α Z' s' ρ₁ α'
  st : St i s'.heap
  w : ∀ b ∈ wr, ¬ FOwn env ρ₁ α' b ∧ ¬ Z' b
  p : ∀ b ∈ fp, ¬ FOwn env ρ₁ α' b
  z : ∀ b o, Z₂ b → s₂.heap.get? b = some o → s'.heap.get? b = some o
  zz : ∀ b, Z₂ b → Z' b
section
variable {fp wr : List Addr} {St : Nat → Heap → Prop} {Mid : Nat → Addr → Heap → Prop} {P : Nat → Array Value → Prop} {n i : Nat} {J : Addr} {Z₂ Z₃ Z₆ : AddrSet} {s₂ s₃ s₆ : Shared} {ρ₃ ρ₆ : Slots} {α₃ α₆ : Str → Addr}
end
end
end Mine
end
section
set_option linter.unusedVariables false
namespace Mine
section
variable {W : Wd} {Z Z' Z₁ : AddrSet} {s s' s₁ : Shared} {env : Env} {sc : Scope} {ρ ρ' : Slots} {α α' : Str → Addr} {A : Around} {d : Nat}
noncomputable def TabAt (P : Addr) (pos : Pos) (q : Str) (h : Heap) : Prop := ∃ c', h.get? P = some (tabObj #[rawInt pos.line, rawInt pos.col, .ref c']) ∧ h.CodeRec (.ref c') q
theorem codeRec_keep {h h' : Heap} {c : Value} {q : Str} (r : h.CodeRec c q) (hk : ∀ b o vs, o.data = .fields vs → h.get? b = some o → h'.get? b = some o) : h'.CodeRec c q := by
  obtain ⟨c₂, oc, vs, t, e2, hoc, hd, hv⟩ := r
  exact ⟨c₂, oc, vs, t, e2, hk _ _ _ hd hoc, hd, hv⟩
theorem TabAt.keep {P : Addr} {pos : Pos} {q : Str} {h h' : Heap} (t : TabAt P pos q h) (hk : ∀ b o vs, o.data = .fields vs → h.get? b = some o → h'.get? b = some o) : TabAt P pos q h' :=
  let ⟨c', e, r⟩ := t; ⟨c', hk _ _ _ rfl e, codeRec_keep r hk⟩
theorem Wd.from_ok' {g : Heap} {own : Addr → Prop} (ok : W.Ok) (hkeep : ∀ b o, ¬ W.X b → W.h₀.get? b = some o → g.get? b = some o) (hown : ∀ a, own a → W.h₀.get? a = none) : (W.at (maskH g own) Z).Ok := by
  have hx : ∀ {a : Addr} {o : Obj}, ¬ W.X a → W.h₀.get? a = some o → (maskH g own).get? a = some o := fun {a o} hne e => by
    rw [maskH_out fun h => by rw [hown a h] at e; cases e]
    exact hkeep a o hne e
  have nsx : ∀ {a : Addr} {m : Str → Option Value}, ¬ W.X a → W.h₀.Ns a m → (maskH g own).Ns a m := fun {a m} hne ⟨o, es, ep, e, r⟩ => ⟨o, es, ep, hx hne e, r⟩
  refine ⟨nsx (fun e => (ok.xk _ e).2.1 rfl) ok.g, nsx (fun e => (ok.xk _ e).2.2.1 rfl) ok.b, ?_, ?_, ok.builtins, fun a o e => hx (fun q => by have e' : W.K.lookup a = some o := e; rw [(ok.xk a q).1] at e'; cases e') (ok.kin a o e), fun a h => h.elim⟩
  · obtain ⟨mc, h1, h2⟩ := ok.nolimit
    exact ⟨mc, nsx (fun e => (ok.xk _ e).2.2.2 rfl) h1, h2⟩
  · obtain ⟨mc, h1, h2⟩ := ok.nodigits
    exact ⟨mc, nsx (fun e => (ok.xk _ e).2.2.2 rfl) h1, h2⟩
theorem Inv.rebase' {g : Heap} {own : Addr → Prop} {tk : Nat} (I : Inv W Z s) (hkeep : ∀ b o, ¬ W.X b → s.heap.get? b = some o → g.get? b = some o) (hown : ∀ a, own a → W.h₀.get? a = none) (htk : s.toks ≤ tk) : Inv (W.at (maskH g own) Z) Z { s with heap := g, toks := tk } :=
  ⟨Wd.from_ok' I.ok (fun b o hne e => hkeep b o hne (I.base b o e hne)) hown, fun b o e _ => (maskH_some e).2, fun _ h => h.elim, fun a z => let ⟨o, e⟩ := I.zin a z; ⟨o, hkeep a o (I.zx a z) e⟩, I.os, I.bare, fun _ _ h => h, fun _ h => h, Nat.le_trans I.tk htk⟩
theorem Loc.rebase' {g : Heap} {own : Addr → Prop} (I : Inv W Z s) (L : Loc W Z s.heap env ρ α) (hkeep : ∀ b o, ¬ W.X b → s.heap.get? b = some o → g.get? b = some o) (hown : ∀ a, FOwn env ρ α a → own a) : Loc (W.at (maskH g own) Z) Z g env ρ α := by
  have kz : ∀ c o, Z c → s.heap.get? c = some o → g.get? c = some o := fun c o z e => hkeep c o (I.zx c z) e
  have kf : ∀ c o, FOwn env ρ α c → s.heap.get? c = some o → g.get? c = some o := fun c o f e => hkeep c o (L.nb c f).2 e
  have kc : ∀ x c o, env.cells.lookup x = some c → s.heap.get? c = some o → g.get? c = some o := fun x c o hc e => by
    by_cases q : x = frz
    · exact kz c o (L.slf c (q ▸ hc)) e
    · exact kf c o (.inr (.inl ⟨x, q, hc⟩)) e
  obtain ⟨m, ⟨o, es, ep, e, r⟩, hv⟩ := L.ns
  refine ⟨⟨m, ⟨o, es, ep, kf _ _ (.inl rfl) e, r⟩, fun x sv hx => ?_⟩, L.nz, fun a f => ⟨maskH_in (hown a f), id⟩, L.fix, L.inj, fun x c hc => ?_, L.cinj, L.slf⟩
  · obtain ⟨v, a, r⟩ := hv x sv hx
    refine ⟨v, a.mono kc, ?_⟩
    cases sv with
    | val av => exact RepV.mono (fun _ z => z) kz r
    | own l => obtain ⟨e, vs, ⟨n, hn⟩, rs⟩ := r; exact ⟨e, vs, ⟨n, kf _ _ (.inr (.inr ⟨x, l, hx, rfl⟩)) hn⟩, rs.mono (fun _ z => z) kz⟩
  · obtain ⟨v, o, e, dd⟩ := L.cell x c hc; exact ⟨v, o, kc x c o hc e, dd⟩
structure MakerF (W : Wd) (f c P : Addr) (qual : Str) (fd : FuncData) (names : List Str) (name : Str) (params : Arguments) (ibody : List Stmt) (iscope : Scope) (pos : Pos) (rest : List Stmt) (inames : List Str) : Prop where
  fn : FnC W f fd (.FunctionDef name params ibody [] none [] iscope none name pos :: rest)
  bind : ∀ (vals : List Value), vals.length = names.length → bindArgs fd ⟨vals, []⟩ = pure (names.zip vals)
  loc : ∀ x ∈ names, fd.scope.names.lookup x = some .local ∨ fd.scope.names.lookup x = some .cell
  self : fd.scope.names.lookup frz = some .cell
  qual : ∀ L, qualnameIn (callEnvC fd L f) name name = qual
  code : fd.code = .ref c
  codeHd : codeHdIn W.K c P = true
  d0 : params.defaults = []
  k0 : params.kw_defaults = []
  ann : ∀ env, annTrees params none env = []
  kd : Kd fd.scope name
  inocell : ∀ x ∈ iscope.names, x.2 ≠ .cell
  ifree : ∀ x, iscope.names.lookup x = some .free → x = frz
  ihfree : iscope.names.lookup frz = some .free
  ifrees : iscope.names.filter (fun x => x.2 == .free) = [(frz, .free)]
  ikind : iscope.kind = .function
  ico : iscope.isCoroutine = false
  igen : iscope.isGenerator = false
  ibind : ∀ (qual : Str) (clos : List (Str × Addr)) (doc pm : Value) (c' : Addr) (ctv : Value) (s : Shared) (vals : List Value), vals.length = inames.length → BindsTo s (fnX name qual params ibody iscope clos .none .none doc pm none (.ref c') ctv) ⟨vals, []⟩ (inames.zip vals)
  iloc : ∀ x ∈ inames, iscope.names.lookup x = some .local
  inot : frz ∉ inames
structure Leap (W : Wd) (Z : AddrSet) (s : Shared) (Z' : AddrSet) (s' : Shared) : Prop where
  keep : ∀ b o, ¬ W.X b → s.heap.get? b = some o → s'.heap.get? b = some o
  zsub : ∀ a, Z a → Z' a
  znew : ∀ a, Z' a → Z a ∨ s.heap.get? a = none
  zin : ∀ a, Z' a → ∃ o, s'.heap.get? a = some o
  os : s'.os = s.os
  bare : AllBare s'.gens
  tk : 1 ≤ s'.toks
  gens : ∀ (i : Nat) x, s.gens[i]? = some x → s'.gens[i]? = some x
end
end Mine
end
section
set_option linter.unusedVariables false
namespace Mine
section
variable {W : Wd} {Z Z' Z₁ : AddrSet} {s s' s₁ : Shared} {env : Env} {sc : Scope} {ρ ρ' : Slots} {α α' : Str → Addr} {A : Around} {d : Nat} {P : Addr} {ps : Array Value} {tpos : Pos} {qual : Str}
end
end Mine
end
section
set_option linter.unusedVariables false
namespace Mine
section
variable {W : Wd} {Z Z' Z₁ : AddrSet} {s s' s₁ : Shared} {env : Env} {sc : Scope} {ρ ρ' : Slots} {α α' : Str → Addr} {A : Around} {d : Nat}
noncomputable def textsOf : List AV → Option (List Str)
  | [] => some []
  | .str x :: r => (textsOf r).map (x :: ·)
  | _ :: _ => none
theorem texts_rep {h : Heap} {vs : List Value} {l : List AV} {ts : List Str} (r : RepVs Z h vs l) (e : textsOf l = some ts) : ∃ p : List (Str × Tok), vs = strValues p ∧ p.map (·.1) = ts := by
  induction l generalizing vs ts with
  | nil => cases e; exact ⟨[], by rw [r.nil']; rfl, rfl⟩
  | cons a l ih =>
    obtain ⟨v, ws, rfl, ra, rs⟩ := r.cons'
    cases a with
    | str x =>
      obtain ⟨ts', hts, rfl⟩ := Option.map_eq_some_iff.mp e
      obtain ⟨p, rfl, rfl⟩ := ih rs hts
      obtain ⟨t, rfl⟩ := ra.str'
      exact ⟨(x, t) :: p, rfl, rfl⟩
    | _ => cases e
noncomputable def joinF (l : List AV) : Option AV := arg2 l fun a b => a.str? >>= fun x => b.lst? >>= fun l => textsOf l >>= fun ts => if JoinOk x ts = true then some (.str (Txt.join x ts)) else none
theorem spec_join : FSpec W d (.builtin "str.join") joinF := by
  intro A Z s vals args av R I r h
  obtain ⟨a, b, v, w, rfl, ra, rb, h⟩ := arg2_rep h r
  obtain ⟨x, hx, h⟩ := bindO h
  obtain ⟨l, hl, h⟩ := bindO h
  obtain ⟨ts, hts, h⟩ := bindO h
  obtain ⟨hok, h⟩ := iteO h
  cases h
  obtain ⟨t, rfl⟩ := str?_rep hx ra
  obtain ⟨D, vs, rfl, z, hb, rs⟩ := lst?_rep hl rb
  obtain ⟨p, rfl, hp⟩ := texts_rep rs hts
  exact .val I fun Q E' q => SC.join hb hp hok fun t' k => q _ k (.str _ _)
end
end Mine
end
section
open Sem (wp)
set_option linter.unusedVariables false
namespace Mine
structure NewX (h h' : Heap) (e : Addr) (cls : String) (msg : Str) : Prop where
  keeps : ∀ b ob, h.get? b = some ob → h'.get? b = some ob
  new : h.get? e = none
  there : ∃ t u oe vs, h.get? t = none ∧ h'.TupAt t [.str msg u] ∧ h'.get? e = some oe ∧ oe.cls = .type cls ∧ oe.data = .fields vs ∧ vs[0]? = some (.ref t) ∧ vs[1]? = some .none
structure NewA (h h' : Heap) (e : Addr) (o : Value) (name msg : Str) : Prop where
  keeps : ∀ b ob, h.get? b = some ob → h'.get? b = some ob
  new : h.get? e = none
  there : ∃ t u u', h.get? t = none ∧ h'.TupAt t [.str msg u'] ∧ h'.get? e = some { cls := .type "AttributeError", data := .fields #[.ref t, .none, .none, .none, .bool false, .none, .str name u, o] }
theorem NewA.x {h h' : Heap} {e : Addr} {o : Value} {name msg : Str} (x : NewA h h' e o name msg) : NewX h h' e "AttributeError" msg :=
  ⟨x.keeps, x.new, let ⟨t, u, u', h1, h2, h3⟩ := x.there; ⟨t, u', _, _, h1, h2, h3, rfl, rfl, rfl, rfl⟩⟩
noncomputable def raisesA (o : Value) (name msg : Str) : PySem.Spec := fun A R s => A.handled = none ∧ ∀ h' tk e, s.toks ≤ tk → NewA s.heap h' e o name msg → R (.error (.ref e)) { s with heap := h', toks := tk }
section
variable {α : Type} {prog : Program} {w : World} {A : Around} {E : Value → Shared → Prop} {s : Shared}
theorem raise_attr {o : Value} {name : Str} {msg : Str} {Q : α → Shared → Prop} (hh : A.handled = none)
    (h : ∀ h' tk e, s.toks ≤ tk → NewA s.heap h' e o name msg → E (.ref e) { s with heap := h', toks := tk }) (hm : msg.length ≤ sizeLine := by size_fits) :
    wpAny (model prog w) A (raiseAttrError o name msg : Sem α) Q E s := by
  unfold raiseAttrError
  refine wpAny_bind (wpAny_mkStr (wpAny_bind ?_) hm)
  unfold newExc newTuple
  refine wpAny_bind (wpAny_newObj_type ?_ (by size_fits))
  refine wpAny_bind (m := firstArgMember _ _) (wpAny_of_eq (a := Value.none) (by simp only [firstArgMember, attrError_no_first]; rfl) ?_)
  rw [ownMembersOf_AttributeError]
  refine wpAny_newObj_type ?_ (by size_fits)
  obtain ⟨hp, g, d, tk, os⟩ := s
  have f1 := sub_AttributeError
  repeat (any_goals (first | assumption | wp_step))
  unfold raiseNew
  refine wpAny_bind (wpAny_handled ?_)
  rw [hh]
  first
    | refine wpAny_throw ?_
    | refine wpAny_bind (wpAny_pure (wpAny_throw ?_))
  dsimp only
  refine h _ _ _ (by simp only; (first | lia | omega)) ⟨fun b ob hb => ?_, Heap.get?_none_of_le (by simp), ?_⟩
  · have hlt : b < hp.objs.size := Heap.lt_size hb
    refine (Heap.get?_update_other _ _ ?_).trans (Heap.get?_push_of_some _ (Heap.get?_push_of_some _ hb))
    simp only [Heap.size_push]
    exact Nat.ne_of_gt (Nat.lt_succ_of_lt hlt)
  · refine ⟨hp.objs.size, _, _, Heap.get?_none_of_le (Nat.le_refl _), ⟨_, _, (Heap.get?_update_other _ _ ?_).trans (Heap.get?_push_of_some _ (Heap.get?_push_size _ rfl)), rfl, rfl⟩, Heap.get?_update_self _ (Heap.get?_push_size _ rfl) rfl⟩
    simp only [Heap.size_push]
    exact Nat.succ_ne_self _
theorem raise_plain {cls : String} {msg : String} {Q : α → Shared → Prop} (hp : PlainExc cls) (hh : A.handled = none)
    (h : ∀ h' tk e, s.toks ≤ tk → NewX s.heap h' e cls (Str.ofString msg) → E (.ref e) { s with heap := h', toks := tk }) (hm : (Str.ofString msg).length ≤ sizeLine := by size_fits) :
    wpAny (model prog w) A (raiseErrorMade cls msg : Sem α) Q E s := by
  unfold raiseErrorMade
  refine wpAny_bind (wpAny_mkStr ?_ hm)
  refine wpAny_bind (wpAny_newExc_plain hp (fun h' e hx => wpAny_raiseNew_none hh ?_))
  exact h _ _ e (Nat.le_add_right _ _) ⟨hx.keeps, hx.new, let ⟨t, h1, h2, h3⟩ := hx.there; ⟨t, s.toks, _, _, h2, ⟨_, _, h3, rfl, rfl⟩, h1, rfl, rfl, rfl, rfl⟩⟩
end
end Mine
namespace Mine
section
variable {prog : Program} {w : World} {A : Around} {E : Value → Shared → Prop} {s : Shared}
theorem meets_miss_none (name : Str) (u : Tok) (hmiss : typeLookup (.type "NoneType") name = pure none) (hsz : name.length + 100 ≤ sizeLine := by size_fits) :
    Meets (Builtin.«object.__getattribute__» ⟨[.none, .str name u], []⟩) (raisesA .none name (Str.ofString "'NoneType' object has no attribute '" ++ name ++ Str.ofString "'")) :=
  Meets.of_wp fun prog w A R s hs => by
    obtain ⟨hp, g, d, tk, os⟩ := s
    have hT : ∀ s' : Shared, s'.TypeIs (.none) "NoneType" := fun _ => rfl
    unfold Builtin.«object.__getattribute__»
    repeat (any_goals (first | assumption | wp_step))
    exact raise_attr hs.1 hs.2 (attrMsg_fits (by decide +kernel) hsz)
theorem meets_miss_int (n : Int) (t : Tok) (name : Str) (u : Tok) (hmiss : typeLookup (.type "int") name = pure none) (hsz : name.length + 100 ≤ sizeLine := by size_fits) :
    Meets (Builtin.«object.__getattribute__» ⟨[.int n t, .str name u], []⟩) (raisesA (.int n t) name (Str.ofString "'int' object has no attribute '" ++ name ++ Str.ofString "'")) :=
  Meets.of_wp fun prog w A R s hs => by
    obtain ⟨hp, g, d, tk, os⟩ := s
    have hT : ∀ s' : Shared, s'.TypeIs (.int n t) "int" := fun _ => rfl
    unfold Builtin.«object.__getattribute__»
    repeat (any_goals (first | assumption | wp_step))
    exact raise_attr hs.1 hs.2 (attrMsg_fits (by decide +kernel) hsz)
theorem meets_miss_list (a : Addr) (xs : Array Value) (k : Nat) (sl : Array (Option Value)) (name : Str) (u : Tok) (hmiss : typeLookup (.type "list") name = pure none) (hname : (["__module__", "__name__", "__qualname__", "__doc__", "__annotations__"] : List Str).contains name = false) (hsz : name.length + 100 ≤ sizeLine := by size_fits) :
    Meets (Builtin.«object.__getattribute__» ⟨[.ref a, .str name u], []⟩) (fun A R s => s.heap.get? a = some { cls := .type "list", dict := none, data := .seq xs k, slots := sl } ∧ raisesA (.ref a) name (Str.ofString "'list' object has no attribute '" ++ name ++ Str.ofString "'") A R s) :=
  Meets.of_wp fun prog w A R s hs => by
    obtain ⟨hp, g, d, tk, os⟩ := s
    obtain ⟨hx, hs⟩ := hs
    have hT : (⟨hp, g, d, tk, os⟩ : Shared).TypeIs (.ref a) "list" := ⟨_, hx, rfl⟩
    unfold Builtin.«object.__getattribute__»
    repeat (any_goals (first | assumption | wp_step))
    simp only [hname, Bool.false_eq_true, if_false]
    repeat (any_goals (first | assumption | wp_step))
    exact raise_attr hs.1 hs.2 (attrMsg_fits (by decide +kernel) hsz)
theorem attr_miss_none {name : Str} {Q : Value → Shared → Prop} (hmiss : typeLookup (.type "NoneType") name = pure none) (hA : A.handled = none)
    (h : ∀ h' tk e, s.toks ≤ tk → NewX s.heap h' e "AttributeError" (Str.ofString "'NoneType' object has no attribute '" ++ name ++ Str.ofString "'") → E (.ref e) { s with heap := h', toks := tk }) (hsz : name.length + 100 ≤ sizeLine := by size_fits) :
    wpAny (model prog w) A (getAttr (.none) name) Q E s := by
  obtain ⟨hp, g, d, tk, os⟩ := s
  have hT : ∀ s' : Shared, s'.TypeIs (.none) "NoneType" := fun _ => rfl
  have f1 := sub_AttributeError
  have f3 := F.slot_NoneType_getattribute.lookup
  have f4 := F.slot_NoneType_getattribute.bind (.none)
  have f5 := am_none_getattr_none
  unfold getAttr getAttrBy
  repeat (any_goals (first | assumption | ((with_reducible show wpAny _ _ (call (Value.builtin "object.__getattribute__") _ _) _ _ _); refine call_meets F.slot_NoneType_getattribute (hT _) F.entry_object_getattribute (F.args_object_getattribute_2 _ _) (meets_miss_none name _ hmiss hsz) ⟨hA, fun h' tk' e htk hx => ?_⟩) | wp_step))
  obtain ⟨t', u', u'', e1, e2, he⟩ := hx.there
  show wpAny _ _ (getattributeRaised _ _ _ _ _ _ _) _ _ _
  unfold getattributeRaised
  repeat (any_goals (first | assumption | wp_step))
  exact h _ _ _ (Nat.le_of_succ_le htk) hx.x
theorem attr_miss_int {n : Int} {t : Tok} {name : Str} {Q : Value → Shared → Prop} (hmiss : typeLookup (.type "int") name = pure none) (hA : A.handled = none)
    (h : ∀ h' tk e, s.toks ≤ tk → NewX s.heap h' e "AttributeError" (Str.ofString "'int' object has no attribute '" ++ name ++ Str.ofString "'") → E (.ref e) { s with heap := h', toks := tk }) (hsz : name.length + 100 ≤ sizeLine := by size_fits) :
    wpAny (model prog w) A (getAttr (.int n t) name) Q E s := by
  obtain ⟨hp, g, d, tk, os⟩ := s
  have hT : ∀ s' : Shared, s'.TypeIs (.int n t) "int" := fun _ => rfl
  have f1 := sub_AttributeError
  have f3 := F.slot_int_getattribute.lookup
  have f4 := F.slot_int_getattribute.bind (.int n t)
  have f5 := am_int_getattr_none
  unfold getAttr getAttrBy
  repeat (any_goals (first | assumption | ((with_reducible show wpAny _ _ (call (Value.builtin "int.__getattribute__") _ _) _ _ _); refine call_meets F.slot_int_getattribute (hT _) am_entry_int_getattribute (F.args_int_getattribute_2 _ _) (meets_miss_int n t name _ hmiss hsz) ⟨hA, fun h' tk' e htk hx => ?_⟩) | wp_step))
  obtain ⟨t', u', u'', e1, e2, he⟩ := hx.there
  show wpAny _ _ (getattributeRaised _ _ _ _ _ _ _) _ _ _
  unfold getattributeRaised
  repeat (any_goals (first | assumption | wp_step))
  exact h _ _ _ (Nat.le_of_succ_le htk) hx.x
theorem attr_miss_list {a : Addr} {xs : Array Value} {k : Nat} {o : Obj} {name : Str} {Q : Value → Shared → Prop}
    (hx : s.heap.get? a = some o) (hc : o.cls = .type "list") (hdat : o.data = .seq xs k) (hd : o.dict = none) (hmiss : typeLookup (.type "list") name = pure none) (hname : (["__module__", "__name__", "__qualname__", "__doc__", "__annotations__"] : List Str).contains name = false) (hA : A.handled = none)
    (h : ∀ h' tk e, s.toks ≤ tk → NewX s.heap h' e "AttributeError" (Str.ofString "'list' object has no attribute '" ++ name ++ Str.ofString "'") → E (.ref e) { s with heap := h', toks := tk }) (hsz : name.length + 100 ≤ sizeLine := by size_fits) :
    wpAny (model prog w) A (getAttr (.ref a) name) Q E s := by
  obtain ⟨c, dct, dat, sl⟩ := o
  simp only at hc hdat hd
  subst hc hdat hd
  obtain ⟨hp, g, d, tk, os⟩ := s
  have hT : ∀ tk', (⟨hp, g, d, tk', os⟩ : Shared).TypeIs (.ref a) "list" := fun _ => ⟨_, hx, rfl⟩
  have f1 := sub_AttributeError
  have f3 := F.slot_list_getattribute.lookup
  have f4 := F.slot_list_getattribute.bind (.ref a)
  have f5 := am_list_getattr_none
  unfold getAttr getAttrBy
  repeat (any_goals (first | assumption | exact hT _ | ((with_reducible show wpAny _ _ (call (Value.builtin "list.__getattribute__") _ _) _ _ _); refine call_meets F.slot_list_getattribute (hT _) am_entry_list_getattribute (F.args_list_getattribute_2 _ _) (meets_miss_list a xs k sl name _ hmiss hname hsz) ⟨hx, hA, fun h' tk' e htk hx' => ?_⟩) | wp_step))
  obtain ⟨t', u', u'', e1, e2, he⟩ := hx'.there
  show wpAny _ _ (getattributeRaised _ _ _ _ _ _ _) _ _ _
  unfold getattributeRaised
  repeat (any_goals (first | assumption | wp_step))
  exact h _ _ _ (Nat.le_of_succ_le htk) hx'.x
end
end Mine
end
section
open Sem (wp)
set_option linter.unusedVariables false
namespace Mine
section
variable {prog : Program} {w : World} {A : Around} {E : Value → Shared → Prop} {s : Shared}
theorem meth_miss {o : Value} {T ga : String} {name : Str} {pl : Sem Bool} {Q : Value × List Value → Shared → Prop} (hT : s.TypeIs o T) (h1 : typeLookup (.type T) "__getattribute__" = pure (some (.builtin ga))) (hc : (Manifest.canonical ga != "object.__getattribute__") = false)
    (h2 : typeLookup (.type T) "__getattr__" = pure none) (hmiss : typeLookup (.type T) name = pure none) (h : wpAny (model prog w) A (getAttr o name) (fun _ _ => False) E s) : wpAny (model prog w) A (getMethod o name pl) Q E s := by
  unfold getMethod
  refine wpAny_bind (wpAny_specialOf hT h1 ?_)
  simp only [hc, Bool.false_eq_true, if_false]
  refine wpAny_bind (wpAny_specialOf hT h2 ?_)
  simp only [Option.isSome_none, Bool.false_eq_true, if_false]
  refine wpAny_bind (wpAny_specialOf hT hmiss ?_)
  exact wpAny_bind (wpAny_mono h (fun _ _ f => f.elim) fun _ _ x => x)
theorem miss_none : typeLookup (.type "NoneType") "replace" = pure none := am_miss_of_fast (by kernel_rfl)
theorem miss_int : typeLookup (.type "int") "replace" = pure none := am_miss_of_fast (by kernel_rfl)
theorem miss_list : typeLookup (.type "list") "replace" = pure none := am_miss_of_fast (by kernel_rfl)
theorem repl_fits : ("replace" : Str).length + 100 ≤ sizeLine := by rw [sizeLine_eq]; decide +kernel
noncomputable def noRepl (k : String) : Str := Str.ofString k ++ ("replace" : Str) ++ Str.ofString "'"
set_option maxRecDepth 20000 in
theorem replace_none {pl : Sem Bool} {Q : Value × List Value → Shared → Prop} (hA : A.handled = none) (h : ∀ h' tk e, s.toks ≤ tk → NewX s.heap h' e "AttributeError" (noRepl "'NoneType' object has no attribute '") → E (.ref e) { s with heap := h', toks := tk }) :
    wpAny (model prog w) A (getMethod .none "replace" pl) Q E s :=
  meth_miss (T := "NoneType") (ga := "object.__getattribute__") rfl F.slot_NoneType_getattribute.lookup (by decide +kernel) am_none_getattr_none miss_none (attr_miss_none miss_none hA h repl_fits)
set_option maxRecDepth 20000 in
theorem replace_int {n : Int} {t : Tok} {pl : Sem Bool} {Q : Value × List Value → Shared → Prop} (hA : A.handled = none) (h : ∀ h' tk e, s.toks ≤ tk → NewX s.heap h' e "AttributeError" (noRepl "'int' object has no attribute '") → E (.ref e) { s with heap := h', toks := tk }) :
    wpAny (model prog w) A (getMethod (.int n t) "replace" pl) Q E s := by
  have h1 := F.slot_int_getattribute.lookup
  refine meth_miss (T := "int") (ga := "int.__getattribute__") rfl h1 ?_ am_int_getattr_none miss_int ?_
  · decide +kernel
  · exact attr_miss_int miss_int hA h repl_fits
set_option maxRecDepth 20000 in
theorem replace_list {a : Addr} {xs : Array Value} {pl : Sem Bool} {Q : Value × List Value → Shared → Prop} (hl : IsLst s.heap a xs) (hA : A.handled = none) (h : ∀ h' tk e, s.toks ≤ tk → NewX s.heap h' e "AttributeError" (noRepl "'list' object has no attribute '") → E (.ref e) { s with heap := h', toks := tk }) :
    wpAny (model prog w) A (getMethod (.ref a) "replace" pl) Q E s := by
  obtain ⟨o, ho, hc, hd, n, hdat⟩ := hl
  exact meth_miss (T := "list") (ga := "list.__getattribute__") ⟨o, ho, hc⟩ F.slot_list_getattribute.lookup (by decide +kernel) am_list_getattr_none miss_list (attr_miss_list ho hc hdat hd miss_list (by decide +kernel) hA h repl_fits)
end
end Mine
end
section
open Sem (wp)
set_option linter.unusedVariables false
namespace Mine
structure StrX (X id : String) : Prop where
  slot : Slot X "__str__" id
  entry : entryFor table id = some Builtin.«BaseException.__str__»
  args : ∀ a, argsOk id ⟨[a], []⟩
theorem strx_type : StrX "TypeError" "BaseException.__str__" := ⟨F.excStr_TypeError.str, F.entry_bexc_str, F.args_bexc_str⟩
theorem strx_attr : StrX "AttributeError" "AttributeError.__str__" where
  slot := .of (owner := "AttributeError") (n := "__str__") (by rw [typeLookup_type, builtinLookup_eq_fast]; kernel_rfl) (by decide +kernel) (by decide +kernel) (by decide +kernel)
    (by first | exact .inl (by decide +kernel) | exact .inr (by decide +kernel)) (by rw [isSubtype_type]; kernel_rfl)
  entry := entryFor_alias (id' := "BaseException.__str__") (by kernel_rfl) (by decide +kernel) (by decide +kernel) (by kernel_rfl)
  args a := by unfold argsOk; kernel_rfl
section
variable {prog : Program} {w : World} {A : Around} {E : Value → Shared → Prop} {s : Shared} {e t0 : Addr} {X id : String}
theorem strOf_x (FX : StrX X id) (hu : A.units < cLine) {m : Str} {tk : Tok} {Q : Value → Shared → Prop} (x : s.heap.ExcAt e X (.ref t0)) (ht : s.heap.TupAt t0 [.str m tk]) (hq : Q (.str m tk) s) :
    wpAny (model prog w) A (Builtin.Str.strOf (.ref e)) Q E s := by
  have c1 : ∀ {A : Around} {E : Value → Shared → Prop} {s : Shared} {Q : Value → Shared → Prop}, s.heap.ExcAt e X (.ref t0) → s.heap.TupAt t0 [Value.str m tk] → Q (.str m tk) s → wpAny (model prog w) A (call (.builtin id) [Value.ref e]) Q E s := fun x ht hq =>
    wpAny_call_entry FX.slot x.typeIs FX.entry (bexcStr_entry_one x ht ⟨_, rfl, hq⟩) (FX.args _)
  unfold Builtin.Str.strOf
  repeat (first | with_reducible refine wpAny_cRoomFor hu ?_ | with_reducible refine wpAny_callSpecial?_slot x.typeIs FX.slot (c1 x ht ?_) | wp_step)
  exact hq
theorem str_of_x (FX : StrX X id) (hu : A.units + 2 < cLine) {m : Str} {tk : Tok} {Q : Value → Shared → Prop} (x : s.heap.ExcAt e X (.ref t0)) (ht : s.heap.TupAt t0 [.str m tk]) (h : Q (.str m tk) s) :
    wpAny (model prog w) A (call (.type "str") [.ref e]) Q E s :=
  callType_new F.called_str (by decide) (F.typeCall_str_1 _) (F.newCall_str_1 _) (fun obj => F.args_object_init_2 obj _) F.entry_str_new
    (meets_str_new (S := fun A' R s' => A'.units + 1 < cLine ∧ s'.heap.ExcAt e X (.ref t0) ∧ s'.heap.TupAt t0 [.str m tk] ∧ R (.ok (.ret (.str m tk))) s')
      fun _ _ A' _ _ hq => strOf_x (A := A'.in1) FX hq.1 hq.2.1 hq.2.2.1 hq.2.2.2)
    ⟨(show A.units + 1 + 1 < cLine from hu), x, ht, typeIs_str _ _ _, h⟩
end
noncomputable def raisesT (msg : String) : PySem.Spec := fun A R s => A.handled = none ∧ ∀ h' tk e, s.toks ≤ tk → NewX s.heap h' e "TypeError" (Str.ofString msg) → R (.error (.ref e)) { s with heap := h', toks := tk }
theorem str_nobuffer : typeLookup (.type "str") "__buffer__" = pure none := am_miss_of_fast (by kernel_rfl)
theorem str_noindex : typeLookup (.type "str") "__index__" = pure none := am_miss_of_fast (by kernel_rfl)
section
variable {α : Type} {prog : Program} {w : World} {A : Around} {E : Value → Shared → Prop} {s : Shared}
theorem index_str {y : Str} {u : Tok} {Q : Int → Shared → Prop} (hA : A.handled = none) (h : ∀ h' tk e, s.toks ≤ tk → NewX s.heap h' e "TypeError" (Str.ofString "'str' object cannot be interpreted as an integer") → E (.ref e) { s with heap := h', toks := tk }) :
    wpAny (model prog w) A (asIndex (.str y u)) Q E s := by
  have hT : s.TypeIs (.str y u) "str" := rfl
  unfold asIndex
  refine wpAny_bind (wpAny_pure ?_)
  refine wpAny_bind ?_
  unfold callSpecial?
  refine wpAny_bind (wpAny_specialOf hT str_noindex ?_)
  refine wpAny_pure ?_
  refine wpAny_bind (m := typeNameOfCut 200 (.str y u)) (wpAny_of_eq (a := "str") (by first | rfl | kernel_rfl) ?_)
  exact raise_plain plainExc_TypeError hA h (by rw [PySem.ofString_length, sizeLine_eq]; decide +kernel)
theorem bytesLike_str {id : String} {y : Str} {u : Tok} {Q : Array UInt8 → Shared → Prop} (hA : A.handled = none) (h : ∀ h' tk e, s.toks ≤ tk → NewX s.heap h' e "TypeError" (Str.ofString "a bytes-like object is required, not 'str'") → E (.ref e) { s with heap := h', toks := tk }) :
    wpAny (model prog w) A (Builtin.Bytes.bytesLike id (.str y u)) Q E s := by
  have hT : s.TypeIs (.str y u) "str" := rfl
  unfold Builtin.Bytes.bytesLike
  refine wpAny_bind ?_
  unfold Builtin.Bytes.buffer?
  refine wpAny_bind (wpAny_specialOf hT str_nobuffer ?_)
  refine wpAny_bind (wpAny_specialOf hT str_nobuffer ?_)
  refine wpAny_pure ?_
  refine wpAny_bind (wpAny_rule ?_)
  refine wpAny_bind (m := typeNameOf (.str y u)) (wpAny_of_eq (a := "str") (by first | rfl | kernel_rfl) ?_)
  exact raise_plain plainExc_TypeError hA h (by rw [PySem.ofString_length, sizeLine_eq]; decide +kernel)
end
theorem replace_tree (b : Array UInt8) (t : Tok) (v z : Value) : ∃ id k, Builtin.«bytes.replace» ⟨[.bytes b t, v, z], []⟩ = (Builtin.Bytes.bytesLike id v >>= k) := ⟨_, _, rfl⟩
theorem expand_tree (x : Str) (t : Tok) (v : Value) : ∃ k, Builtin.«str.expandtabs» ⟨[.str x t, v], []⟩ = (asIndex v >>= k) := ⟨_, rfl⟩
theorem meets_bytes_replace (b : Array UInt8) (t : Tok) (y z : Str) (u v : Tok) : Meets (Builtin.«bytes.replace» ⟨[.bytes b t, .str y u, .str z v], []⟩) (raisesT "a bytes-like object is required, not 'str'") :=
  fun prog w A R s hs => by
    obtain ⟨id, k, e⟩ := replace_tree b t (.str y u) (.str z v)
    rw [e]
    exact wpAny_bind (bytesLike_str hs.1 hs.2)
theorem meets_expand_str (x y : Str) (t u : Tok) : Meets (Builtin.«str.expandtabs» ⟨[.str x t, .str y u], []⟩) (raisesT "'str' object cannot be interpreted as an integer") :=
  fun prog w A R s hs => by
    obtain ⟨k, e⟩ := expand_tree x t (.str y u)
    rw [e]
    exact wpAny_bind (index_str hs.1 hs.2)
theorem plainAttrs_bytes : PlainAttrs "bytes" :=
  ⟨⟨"bytes.__getattribute__", by rw [typeLookup_type, builtinLookup_eq_fast]; kernel_rfl, by decide +kernel⟩, by rw [typeLookup_type, builtinLookup_eq_fast]; kernel_rfl⟩
theorem slot_bytes_replace : Slot "bytes" "replace" "bytes.replace" :=
  .of (owner := "bytes") (n := "replace") (by rw [typeLookup_type, builtinLookup_eq_fast]; kernel_rfl) (by decide +kernel) (by decide +kernel) (by decide +kernel)
    (by first | exact .inl (by decide +kernel) | exact .inr (by decide +kernel)) (by rw [isSubtype_type]; kernel_rfl)
theorem type_bytes_replace : typeOf (.builtin "bytes.replace") = pure (.type "method_descriptor") := by show builtinType _ = _; rw [builtinType_eq_fast]; kernel_rfl
theorem entry_bytes_replace : entryFor table "bytes.replace" = some Builtin.«bytes.replace» := entryFor_of_tree (by kernel_rfl)
theorem args_bytes_replace (a b c : Value) : argsOk "bytes.replace" ⟨[a, b, c], []⟩ := by unfold argsOk; kernel_rfl
end Mine
end
section
set_option linter.unusedVariables false
namespace Mine
section
variable {W : Wd} {Z Z' Z₁ : AddrSet} {s s' s₁ : Shared} {env : Env} {sc : Scope} {ρ ρ' : Slots} {α α' : Str → Addr} {A : Around} {d : Nat} {β : Type}
noncomputable def RaisesX (W : Wd) (A : Around) (env : Env) (Z : AddrSet) (s : Shared) (ρ : Slots) (α : Str → Addr) (t : Sem β) (cls : String) (msg : Str) : Prop :=
  ∀ (Q : β → Shared → Prop) (E' : Value → Shared → Prop), (∀ s₁ Z₁ ρ₁ α₁ h₂ tk e, FStep W env Z s ρ α Z₁ s₁ ρ₁ α₁ → NewX s₁.heap h₂ e cls msg → s₁.toks ≤ tk → E' (.ref e) { s₁ with heap := h₂, toks := tk }) → wpAny W.M A t Q E' s
noncomputable def missA : AV → Option Str
  | .none => some (noRepl "'NoneType' object has no attribute '")
  | .int _ => some (noRepl "'int' object has no attribute '")
  | .lst _ => some (noRepl "'list' object has no attribute '")
  | _ => none
set_option maxRecDepth 20000 in
theorem replace_miss {a : AV} {v : Value} {m : Str} {pl : Sem Bool} {Q : Value × List Value → Shared → Prop} {E' : Value → Shared → Prop} (hA : A.handled = none) (r : RepV Z s.heap v a) (hm : missA a = some m) (h : ∀ h' tk e, s.toks ≤ tk → NewX s.heap h' e "AttributeError" m → E' (.ref e) { s with heap := h', toks := tk }) :
    wpAny W.M A (getMethod v "replace" pl) Q E' s := by
  cases a with
  | none =>
    have hm : some (noRepl "'NoneType' object has no attribute '") = some m := hm
    cases hm
    rw [r.none']
    refine replace_none hA ?_
    exact h
  | int i =>
    have hm : some (noRepl "'int' object has no attribute '") = some m := hm
    cases hm
    obtain ⟨t, rfl⟩ := r.int'
    refine replace_int hA ?_
    exact h
  | lst l => cases hm; obtain ⟨b, vs, rfl, z, hl, rs⟩ := r.lstP; exact replace_list hl hA h
  | _ => cases hm
theorem raises_miss {x y : Str} {p p1 apos pos pos' : Pos} {es : List Expr} {a : AV} {m : Str} (hA : A.handled = none) (hE : EnvOk env sc) (I : Inv W Z s) (L : Loc W Z s.heap env ρ α) (hy : getV ρ y = some a) (hm : missA a = some m) (h1 : (y == ("__debug__" : Str)) = false) (hn : isPh y = false)
    (hs : ∀ env, swapsWith (.Call (.Attribute (.Name y p1) "replace" apos) es [] pos) (some (.Name x p)) pos'.line env = pure false)
    (pl : Env → Value → Sem Bool) (he : ∀ env, eval (.Call (.Attribute (.Name y p1) "replace" apos) es [] pos) env = (do
      let ov ← eval (.Name y p1) env
      standAt apos.atName
      let (f, first) ← holding [ov] (getMethod ov "replace" (pl env ov))
      callWith pos f first (backTo pos (starEach es env)) [])) :
    RaisesX W A env Z s ρ α (exec (.Assign [.Name x p] (.Call (.Attribute (.Name y p1) "replace" apos) es [] pos) pos') env) "AttributeError" m := by
  intro Q E' q
  refine wpAny_Assign_Name ?_ (hs env)
  rw [he env]
  refine wpAny_bind (wpAny_Name (L.load hE (getV_eq hy) (fun v r => ?_) hn) h1)
  exact wpAny_bind (wpAny_standAt (wpAny_bind (wpAny_holding (replace_miss hA r hm fun h' tk e htk hx => q s Z ρ α h' tk e (.id I L) hx htk))))
theorem raises_bytes {x y : Str} {p p1 apos pos pos' p2 p3 : Pos} {k2 k3 : Nat} {u v : Str} {b : Array UInt8} (hA : A.handled = none) (hE : EnvOk env sc) (I : Inv W Z s) (L : Loc W Z s.heap env ρ α) (hy : getV ρ y = some (.bytes b)) (h1 : (y == ("__debug__" : Str)) = false) (hn : isPh y = false)
    (hs : ∀ env, swapsWith (.Call (.Attribute (.Name y p1) "replace" apos) [.Constant (.str u) k2 p2, .Constant (.str v) k3 p3] [] pos) (some (.Name x p)) pos'.line env = pure false)
    (hbase : ∀ env, attributeBase (.Name y p1) "replace" env (eval (.Name y p1) env) = eval (.Name y p1) env) (hline : (apos.endLine == pos.line) = true) :
    RaisesX W A env Z s ρ α (exec (.Assign [.Name x p] (.Call (.Attribute (.Name y p1) "replace" apos) [.Constant (.str u) k2 p2, .Constant (.str v) k3 p3] [] pos) pos') env) "TypeError" (Str.ofString "a bytes-like object is required, not 'str'") := by
  intro Q E' q
  refine wpAny_Assign_Name (wpAny_Call_method (hbase env) rfl hline plainAttrs_bytes slot_bytes_replace type_bytes_replace (wpAny_Name (L.load hE (getV_eq hy) (fun w r => ?_) hn) h1)) (hs env)
  have r' : RepV Z s.heap w (.bytes b) := r
  cases r'
  rename_i t
  refine ⟨rfl, fun a e => (by cases e), ?_⟩
  refine callWith_of (P := W.K.In) rfl (keep_builtin "bytes.replace") (evalArgs_ns rfl (wpAny_items_cons (wpAny_Constant_str (wpAny_items_cons (wpAny_Constant_str (wpAny_items_nil ⟨I.kin, ?_⟩))))))
  have p : Step W .none Z s Z { s with toks := s.toks + 1 + 1 } := .toks I _ (by (first | lia | omega))
  refine call_meets slot_bytes_replace rfl entry_bytes_replace (args_bytes_replace _ _ _) (meets_bytes_replace b t u v _ _) ⟨hA, fun h' tk e htk hx => ?_⟩
  exact q { s with toks := s.toks + 1 + 1 } Z ρ α h' tk e (.pure L p) hx htk
theorem raises_expand {x y : Str} {p p1 apos pos pos' : Pos} {e : Expr} {f : Slots → Option AV} {t z : Str} (R : Room A d) (hE : EnvOk env sc) (I : Inv W Z s) (L : Loc W Z s.heap env ρ α) (hy : getV ρ y = some (.str t)) (he : DenP W d sc e f) (hf : f ρ = some (.str z)) (h1 : (y == ("__debug__" : Str)) = false) (hn : isPh y = false)
    (hst : ∀ env, starEach [e] env = [(false, eval e env)])
    (hs : ∀ env, swapsWith (.Call (.Attribute (.Name y p1) "expandtabs" apos) [e] [] pos) (some (.Name x p)) pos'.line env = pure false)
    (hbase : ∀ env, attributeBase (.Name y p1) "expandtabs" env (eval (.Name y p1) env) = eval (.Name y p1) env) (hline : (apos.endLine == pos.line) = true) :
    RaisesX W A env Z s ρ α (exec (.Assign [.Name x p] (.Call (.Attribute (.Name y p1) "expandtabs" apos) [e] [] pos) pos') env) "TypeError" (Str.ofString "'str' object cannot be interpreted as an integer") := by
  intro Q E' q
  refine wpAny_Assign_Name (wpAny_Call_method (hbase env) (by rw [hst]; rfl) hline PySem.F.plainAttrs_str PySem.F.slot_str_expandtabs PySem.F.type_str_expandtabs (wpAny_Name (L.load hE (getV_eq hy) (fun w r => ?_) hn) h1)) (hs env)
  have r' : RepV Z s.heap w (.str t) := r
  obtain ⟨u, rfl⟩ := r'.str'
  refine ⟨typeIs_str _ _ _, fun a e => (by cases e), ?_⟩
  refine callWith_den (first := [.str t u]) (keep_builtin "str.expandtabs") (denPs_cons he denPs_nil (fun env => by rw [hst]; rfl)) (fun env pos => by rw [hst]; rfl) R hE I L (l := [.str z]) (by simp [hf]) fun vs s₁ Z₁ p₁ r₁ => ?_
  obtain ⟨w, rfl, rw'⟩ := r₁.one
  obtain ⟨u', rfl⟩ := rw'.str'
  refine call_meets PySem.F.slot_str_expandtabs (typeIs_str _ _ _) PySem.F.entry_str_expandtabs (PySem.F.args_str_expandtabs_2 _ _) (meets_expand_str t z u u') ⟨R.handled, fun h' tk e htk hx => ?_⟩
  exact q s₁ Z₁ ρ α h' tk e (.pure L p₁) hx htk
theorem raises_first {st : Stmt} {rest : List Stmt} {cls : String} {msg : Str} (h : RaisesX W A env Z s ρ α (exec st env) cls msg) : RaisesX W A env Z s ρ α (execs (st :: rest) env) cls msg :=
  fun Q E' q => wpAny_execs_cons (h _ _ q)
theorem raises_next {st : Stmt} {rest : List Stmt} {F : Slots → Option (AFlow × Slots)} {cls : String} {msg : Str} (hs : DenS W d sc st F) (R : Room A d) (hE : EnvOk env sc) (I : Inv W Z s) (L : Loc W Z s.heap env ρ α) (hF : F ρ = some (.next, ρ'))
    (h : ∀ s₁ Z₁ α₁, FStep W env Z s ρ α Z₁ s₁ ρ' α₁ → RaisesX W A env Z₁ s₁ ρ' α₁ (execs rest env) cls msg) : RaisesX W A env Z s ρ α (execs (st :: rest) env) cls msg := by
  intro Q E' q
  refine wpAny_execs_cons (hs A env Z s ρ α .next ρ' R hE I L hF _ _ fun fl s₁ Z₁ α₁ p₁ r₁ => ?_)
  cases fl <;> try exact r₁.elim
  exact h s₁ Z₁ α₁ p₁ _ _ fun s₂ Z₂ ρ₂ α₂ h₂ tk e p₂ hx htk => q s₂ Z₂ ρ₂ α₂ h₂ tk e (p₁.trans p₂) hx htk
end
end Mine
end
section
set_option linter.unusedVariables false
namespace Mine
structure Fly (base : Heap) (l : List Env) (cls : String) (msg : Str) (e : Addr) (fl : Value) (h : Heap) : Prop where
  stays : base.StaysIn h
  new : base.get? e = none
  frames : h.FunFrames base l
  words : ∃ t u, base.get? t = none ∧ h.TupAt t [.str msg u] ∧ h.TracedAtW base e (.type cls) (.ref t) fl
section
variable {M : Model} {A : Around} {E : Value → Shared → Prop} {s : Shared} {base : Heap} {env : Env} {outer l : List Env} {L e : Addr} {cls : String} {msg : Str} {fl : Value} {Q : Unit → Shared → Prop}
theorem Fly.exc {h : Heap} (x : Fly base l cls msg e fl h) : ∃ t u, h.ExcAt e cls (.ref t) ∧ h.TupAt t [.str msg u] := by
  obtain ⟨t, u, _, ht, oe, vs, T, oT, ts, he, ⟨hc, h0⟩, hd, _⟩ := x.words
  exact ⟨t, u, ⟨oe, vs, he, hc, hd, h0⟩, ht⟩
theorem fly_first {h₂ : Heap} {tk : Nat} (hfr : A.frames = some (env :: outer)) (hf : env.frame = some L) (hkb : base.StaysIn s.heap) (hl : s.heap.FunFrames base (env :: outer)) (hx : NewX s.heap h₂ e cls msg)
    (hQ : ∀ h', Fly base outer cls msg e .none h' → s.heap.UpToSlots h' → Q () { s with heap := h', toks := tk }) : wpAny M A (leaving env (.ref e)) Q E { s with heap := h₂, toks := tk } := by
  obtain ⟨t, u, oe, vs, htn, ht, he, hc, hd, h0, h1⟩ := hx.there
  have fresh : ∀ b, s.heap.get? b = none → base.get? b = none := fun b hb => by
    cases hq : base.get? b with
    | none => rfl
    | some o' => have := hkb b o' hq; rw [hb] at this; cases this
  refine wpAny_leaving_firstW (s := { s with heap := h₂, toks := tk }) (a0 := .ref t) hfr (hl.of_keeps fun b o hb _ => ⟨o, hx.keeps b o hb, rfl⟩) hf he (fun b o hb => hx.keeps b o (hkb b o hb)) (fresh e hx.new) hd h1 h0 fun h' hL => ?_
  obtain ⟨k1, ⟨_, _, k2⟩, k3, k4⟩ := hL
  rw [hc] at k3
  exact hQ h' ⟨k1, fresh e hx.new, k2, t, u, fresh t htn, Heap.TupAt.of_slots ht k4, k3⟩ ((Heap.UpToSlots.of_keeps hx.keeps).trans k4)
theorem fly_set (x : Fly base l cls msg e fl s.heap) (hQ : ∀ h', Fly base l cls msg e .none h' → s.heap.UpToSlots h' → Q () { s with heap := h' }) : wpAny M A (setFlight (.ref e) none) Q E s := by
  obtain ⟨t, u, h1, h2, h3⟩ := x.words
  exact wpAny_setFlight_noneW x.stays x.frames h3 fun h' k1 k2 k3 k4 => hQ h' ⟨k1, x.new, k2, t, u, h1, h2.of_slots fun b o hb hn => ⟨o.slots, k4 b o hb hn⟩, k3⟩ fun b o hb hn => ⟨o.slots, k4 b o hb hn⟩
theorem fly_mark {fr : Option Addr} (x : Fly base l cls msg e fl s.heap) (hQ : ∀ h' fl', Fly base l cls msg e fl' h' → s.heap.UpToSlots h' → Q () { s with heap := h' }) : wpAny M A (setFlight (.ref e) fr) Q E s := by
  obtain ⟨t, u, g1, g2, oe, vs, T, oT, ts, he, hcls, hd, h1, hnT, hTe, hT, hdT, h3⟩ := x.words
  have hsz3 : 3 < ts.size := (Array.getElem?_eq_some_iff.mp h3).1
  have other : ∀ b, b ≠ T → (s.heap.update T (Obj.mapFields (·.setIfInBounds 3 (fr.elim Value.none fun f => rawInt f)))).get? b = s.heap.get? b := fun b hb => Heap.get?_update_other _ _ (Ne.symm hb)
  have noRecord : ∀ b o, s.heap.get? b = some o → (∀ vs, o.data ≠ .fields vs) → b ≠ T := fun b o hb hnf q => by
    rw [q, hT] at hb; injection hb with hb; subst hb; exact hnf ts hdT
  have up : s.heap.UpToSlots (s.heap.update T (Obj.mapFields (·.setIfInBounds 3 (fr.elim Value.none fun f => rawInt f)))) := fun b o hb hn => ⟨o.slots, (other b (noRecord b o hb hn)).trans hb⟩
  unfold setFlight
  refine wpAny_bind (wpAny_field he hd h1 ?_)
  rw [if_pos (show (Value.ref T != Value.none) = true from by simp)]
  refine wpAny_setField hT hdT hsz3 (hQ _ (fr.elim Value.none fun f => rawInt f) ⟨fun b o hb => (other b fun q => by rw [q, hnT] at hb; cases hb).trans (x.stays b o hb), x.new, x.frames.of_keeps fun b o hb hnf => ⟨o, (other b (noRecord b o hb hnf)).trans hb, rfl⟩, t, u, g1, g2.of_slots up, ?_⟩ up)
  exact ⟨oe, vs, T, _, _, (other e (Ne.symm hTe)).trans he, hcls, hd, h1, hnT, hTe, Heap.get?_update_self _ hT (Obj.isFreed_of_fields (Obj.data_mapFields hdT _)), Obj.data_mapFields hdT _, by rw [Array.getElem?_setIfInBounds_self, if_pos hsz3]⟩
theorem fly_pass {α : Type} {what : String} {cenv : Env} {Q : α → Shared → Prop} (x : Fly base l cls msg e fl s.heap) (hE : ∀ h' fl', Fly base l cls msg e fl' h' → s.heap.UpToSlots h' → E (.ref e) { s with heap := h' }) : wpAny M A (PySem.passOn what (.ref e) cenv : Sem α) Q E s := by
  obtain ⟨t, u, g1, g2, oe, vs, T, oT, ts, he, hcls, hd, h1, _⟩ := id x.words
  unfold PySem.passOn
  refine wpAny_bind (wpAny_field he hd h1 ?_)
  rw [if_neg (by simp)]
  exact wpAny_bind (fly_mark x fun h' fl' x' up => wpAny_throw (hE h' fl' x' up))
theorem fly_leave (hfr : A.frames = some (env :: outer)) (hf : env.frame = some L) (x : Fly base (env :: outer) cls msg e fl s.heap) (hQ : ∀ h', Fly base outer cls msg e .none h' → s.heap.UpToSlots h' → Q () { s with heap := h' }) : wpAny M A (leaving env (.ref e)) Q E s := by
  obtain ⟨t, u, g1, g2, g3⟩ := id x.words
  by_cases hm : (fl == rawInt L) = true
  · have hm' : fl = rawInt L := by simpa using hm
    subst hm'
    unfold leaving
    refine wpAny_bind (wpAny_noteFrame_againW hf g3 ?_)
    refine fly_set x fun h' y up => hQ h' ⟨y.stays, y.new, y.frames.2.2, y.words⟩ up
  · obtain ⟨oe, vs, T, oT, ts, he, ⟨hcls, h0⟩, hd, h1, hnT, hTe, hT, hdT, h3⟩ := g3
    unfold leaving noteFrame
    simp only [hf]
    refine wpAny_bind (wpAny_bind (wpAny_field he hd h1 ?_))
    rw [if_pos (show (Value.ref T != Value.none) = true from by simp)]
    refine wpAny_bind (wpAny_field hT hdT h3 ?_)
    rw [if_neg hm]
    refine wpAny_bind (wpAny_setField hT hdT (Array.getElem?_eq_some_iff.mp h3).1 ?_)
    have other : ∀ b, b ≠ T → (s.heap.update T (Obj.mapFields (·.setIfInBounds 3 Value.none))).get? b = s.heap.get? b := fun b hb => Heap.get?_update_other _ _ (Ne.symm hb)
    have noRecord : ∀ b o, s.heap.get? b = some o → (∀ vs, o.data ≠ .fields vs) → b ≠ T := fun b o hb hnf q => by
      rw [q, hT] at hb; injection hb with hb; subst hb; exact hnf ts hdT
    refine wpAny_newEntryW hfr (x.frames.of_keeps fun b o hb hnf => ⟨o, (other b (noRecord b o hb hnf)).trans hb, rfl⟩) hf ((other e (Ne.symm hTe)).trans he)
      (fun b o hbo => (other b fun q => by rw [q, hnT] at hbo; cases hbo).trans (x.stays b o hbo)) x.new hd (Array.getElem?_eq_some_iff.mp h1).1 h0 fun h' hL => ?_
    obtain ⟨k1, ⟨_, _, k2⟩, k3, k4⟩ := hL
    have up : s.heap.UpToSlots h' := fun b o hb hnf => k4 b o ((other b (noRecord b o hb hnf)).trans hb) hnf
    rw [hcls] at k3
    exact hQ h' ⟨k1, x.new, k2, t, u, g1, g2.of_slots up, k3⟩ up
theorem fly_note {cenv : Env} (hfr : A.frames = some (env :: outer)) (hf : env.frame = some L) (hc : cenv.frame = env.frame) (x : Fly base (env :: outer) cls msg e .none s.heap) (hQ : ∀ h' fl', Fly base (env :: outer) cls msg e fl' h' → s.heap.UpToSlots h' → Q () { s with heap := h' }) :
    wpAny M A (noteFrame (.ref e) cenv) Q E s := by
  have e1 : noteFrame (.ref e) cenv = noteFrame (.ref e) env := by
    unfold noteFrame PySem.frameOf
    rw [hc]
  rw [e1]
  obtain ⟨t, u, g1, g2, g3⟩ := x.words
  refine wpAny_looks_onW hfr hf ⟨x.stays, x.new, x.frames, g3⟩ fun h' y up => hQ h' _ ⟨y.1, y.2.1, y.2.2.1, t, u, g1, g2.of_slots up, y.2.2.2⟩ up
theorem Fly.same {h h' : Heap} {C : Addr} {m : Str → Option Value} (x : Fly base l cls msg e fl h) (hs : Heap.SameBut C h h') (hb : base.get? C = none) (hns : h.Ns C m) (hl : ∀ env ∈ l, env.frame ≠ some C) : Fly base l cls msg e fl h' := by
  obtain ⟨o, es, ep, ho, hd, _⟩ := hns
  have kf : ∀ b ob vs, ob.data = .fields vs → h.get? b = some ob → h'.get? b = some ob := fun b ob vs hv e => hs.extBut b ob (fun q => by rw [q, ho] at e; cases e; rw [hd] at hv; cases hv) e
  refine ⟨fun b o' e' => hs.extBut b o' (fun q => by rw [q, hb] at e'; cases e') (x.stays b o' e'), x.new, ?_, ?_⟩
  · have key : ∀ l : List Env, (∀ env ∈ l, env.frame ≠ some C) → h.FunFrames base l → h'.FunFrames base l := fun l => by
      induction l with
      | nil => exact fun _ _ => trivial
      | cons env r ih =>
        intro hl ⟨hk, ⟨L, oL, hf, hn, hL, hdL⟩, hr⟩
        exact ⟨hk, ⟨L, oL, hf, hn, hs.extBut L oL (fun q => hl env List.mem_cons_self (by rw [hf, q])) hL, hdL⟩, ih (fun e he => hl e (List.mem_cons_of_mem _ he)) hr⟩
    exact key l hl x.frames
  · obtain ⟨t, u, g1, ⟨ot, n, hot, hct, hdt⟩, oe, vs, T, oT, ts, he, hcls, hde, h1, hnT, hTe, hT, hdT, h3⟩ := x.words
    exact ⟨t, u, g1, ⟨ot, n, hs.extBut t ot (fun q => by rw [q, ho] at hot; cases hot; rw [hd] at hdt; cases hdt) hot, hct, hdt⟩, oe, vs, T, oT, ts, kf _ _ _ hde he, hcls, hde, h1, hnT, hTe, kf _ _ _ hdT hT, hdT, h3⟩
end
end Mine
end
section
set_option linter.unusedVariables false
namespace Mine
section
variable {W : Wd} {Z Z' Z₁ : AddrSet} {s s' s₁ : Shared} {env : Env} {sc : Scope} {ρ ρ' : Slots} {α α' : Str → Addr} {A : Around} {d : Nat}
structure Rest (s s' : Shared) : Prop where
  up : s.heap.UpToSlots s'.heap
  os : s'.os = s.os
  bare : AllBare s'.gens
  gens : ∀ (i : Nat) x, s.gens[i]? = some x → s'.gens[i]? = some x
  tk : 1 ≤ s'.toks
theorem clo_raise {f c : Addr} {fd : FuncData} {body : List Stmt} {v : Value} {self : AV} {names : List Str} {vals : List Value} {args : List AV} {cls : String} {msg : Str} {base : Heap} {outer : List Env} (k : FnS W f c fd body v self) (hb : ∀ s (vals : List Value), vals.length = names.length → BindsTo s fd ⟨vals, []⟩ (names.zip vals))
    (hl : ∀ x ∈ names, fd.scope.names.lookup x = some .local) (hn : frz ∉ names) (R : Room A (d + 1)) (I : Inv W Z s) (r : RepVs Z s.heap vals args) (hlen : args.length = names.length)
    (hX : ∀ env s₁, Room (A.deeper env) d → EnvOk env fd.scope → Inv W Z s₁ → Loc W Z s₁.heap env ((bindA names args).set frz (.val self)) (fun _ => 0) → RaisesX W (A.deeper env) env Z s₁ ((bindA names args).set frz (.val self)) (fun _ => 0) (execs body env) cls msg)
    (hfr : A.frames = some outer) (hkb : base.StaysIn s.heap) (hfl : s.heap.FunFrames base outer) {Q : Value → Shared → Prop} {E' : Value → Shared → Prop}
    (q : ∀ e s', Fly base outer cls msg e .none s'.heap → Rest s s' → E' (.ref e) s') : wpAny W.M A (call (.ref f) vals) Q E' s := by
  refine clo_enter k hb hl hn R.lt I r hlen fun env s₁ hE hf hN p₁ L fo => ?_
  refine hX env s₁ (R.deeper env) hE p₁.inv L _ _ fun s₂ Z₂ ρ₂ α₂ h₂ tk e p₂ hx htk => ?_
  have keep : ∀ b o, s.heap.get? b = some o → s₂.heap.get? b = some o := fun b o e => p₂.step.keep b o (fun fb => by rw [fo b fb, hN] at e; cases e) (p₁.keep b o id e)
  obtain ⟨m, ns, _⟩ := p₂.loc.ns
  have hfl₂ : s₂.heap.FunFrames base (env :: outer) :=
    Heap.FunFrames.cons (by rw [hE.kfn]; decide) hf ns (by
      cases e : base.get? env.locals with
      | none => rfl
      | some o => have := hkb _ _ e; rw [hN] at this; cases this) (hfl.of_keeps fun b o hb _ => ⟨o, keep b o hb, rfl⟩)
  refine fly_first (Around.frames_deeper hfr) hf (fun b o e => keep b o (hkb b o e)) hfl₂ hx fun h' y up => q e _ y ⟨(Heap.UpToSlots.of_keeps keep).trans up, p₂.step.inv.os.trans I.os.symm, p₂.step.inv.bare, fun i x e => p₂.step.gens i x id (p₁.gens i x id e), Nat.le_trans p₂.step.inv.tk htk⟩
end
end Mine
end
section
set_option linter.unusedVariables false
namespace Mine
section
variable {W : Wd} {Z Z' Z₁ : AddrSet} {s s' s₁ : Shared} {env : Env} {sc : Scope} {ρ ρ' : Slots} {α α' : Str → Addr} {A : Around} {d : Nat}
theorem exec_innerM {M : Addr → Prop} {name : Str} {params : Arguments} {body : List Stmt} {scope : Scope} {pos : Pos} {c P : Addr} {clos : List (Str × Addr)} {qual : Str} (I : Inv W Z s) (L : Loc W Z s.heap env ρ α) (hE : EnvOk env sc) (hX : ∀ a, W.X a → a = P) (hq : qualnameIn env name name = qual)
    (hd0 : params.defaults = []) (hk0 : params.kw_defaults = []) (ha : annTrees params none env = []) (hcl : closureFor scope env = pure clos) (hcode : env.code = .ref c) (C : CodeHd s.heap c P) (hT : (W.X P ∧ s.heap.get? P = some (tabObj #[])) ∨ TabAt P pos qual s.heap) (hb : s.heap.BuiltinsAt W.mg P) (hgP : mainGlobals ≠ P)
    (hk : Kd sc name) (hM : ∀ a, M a → W.h₀.get? a = none) {Q : Flow → Shared → Prop} {E' : Value → Shared → Prop}
    (q : ∀ (fn c' : Addr) (ctv doc : Value) (g : Heap) (tk : Nat) (s' : Shared) (α' : Str → Addr), (∀ b o, ¬ W.X b → s.heap.get? b = some o → g.get? b = some o) → (∀ a, g.get? a = none → s.heap.get? a = none) → s.heap.get? fn = none → TabAt P pos qual g →
      g.get? fn = some (fnMade name qual params body scope clos doc ((W.mg "__name__").getD .none) c' ctv) → g.CodeRec (.ref c') qual → ¬ FOwn env ρ α fn →
      FStep (W.at (maskH g fun a => FOwn env ρ α a ∨ M a) Z) env Z { s with heap := g, toks := tk } ρ α Z s' (ρ.set name (.val (.raw (.ref fn)))) α' → Q .next s') :
    wpAny W.M A (exec (.FunctionDef name params body [] none [] scope none name pos) env) Q E' s := by
  have fin : ∀ (c' : Addr) (ctv doc : Value) (h' : Heap) (tk : Nat), s.toks ≤ tk → (∀ b o, ¬ W.X b → s.heap.get? b = some o → h'.get? b = some o) → (∀ a, h'.get? a = none → s.heap.get? a = none) → s.heap.objs.size ≤ h'.objs.size → h'.CodeRec (.ref c') qual → TabAt P pos qual h' →
      wpAny W.M A (storeName env name (.ref h'.objs.size)) (fun _ s'' => Q .next s'') E' { s with heap := h'.push (fnMade name qual params body scope clos doc ((W.mg "__name__").getD .none) c' ctv), toks := tk } := fun c' ctv doc h' tk htk hx hx0 hsz hrec htb => by
    have hkeep : ∀ b o, ¬ W.X b → s.heap.get? b = some o → (h'.push (fnMade name qual params body scope clos doc ((W.mg "__name__").getD .none) c' ctv)).get? b = some o := fun b o hne e => Heap.get?_push_of_some _ (hx b o hne e)
    have hown : ∀ a, (FOwn env ρ α a ∨ M a) → W.h₀.get? a = none := fun a f => f.elim (fun f => (L.nb a f).1) (hM a)
    have hfn : s.heap.get? h'.objs.size = none := Heap.get?_none_of_le hsz
    have hnf : ¬ FOwn env ρ α h'.objs.size := fun f => by obtain ⟨o, e⟩ := L.alive f; rw [hfn] at e; cases e
    have I' := I.rebase' (g := h'.push (fnMade name qual params body scope clos doc ((W.mg "__name__").getD .none) c' ctv)) (own := fun a => FOwn env ρ α a ∨ M a) (tk := tk) hkeep hown htk
    have L' := Loc.rebase' (g := h'.push (fnMade name qual params body scope clos doc ((W.mg "__name__").getD .none) c' ctv)) (own := fun a => FOwn env ρ α a ∨ M a) I L hkeep fun _ f => .inl f
    have hw : (W.at (maskH (h'.push (fnMade name qual params body scope clos doc ((W.mg "__name__").getD .none) c' ctv)) fun a => FOwn env ρ α a ∨ M a) Z).M = W.M := rfl
    rw [← hw]
    refine Loc.storeV I' L' hE hk (.raw (.ref h'.objs.size)) fun s' α' p => ?_
    refine q h'.objs.size c' ctv doc _ tk s' α' hkeep (fun a e => hx0 a ?_) hfn (htb.keep fun b o _ _ e => Heap.get?_push_of_some _ e) (Heap.get?_push_size _ rfl) (codeRec_keep hrec fun b o _ _ e => Heap.get?_push_of_some _ e) hnf p
    cases e' : h'.get? a with
    | none => rfl
    | some o => rw [Heap.get?_push_of_some _ e'] at e; cases e
  rcases hT with ⟨hxP, hP⟩ | ⟨c', hP, hrec⟩
  · refine nestDef_K hd0 hk0 ha (wpAny_with_toks (Nat.le_refl _) (makeFunction_K (mg := W.mg) hcl hE.globals I.g hcode C hP trivial rfl hgP hb fun c' ctv doc h' tk hx hge hlt hrec htb => fun (htk : s.toks ≤ tk) => ?_))
    rw [hq] at hrec ⊢
    have htb' : h'.get? P = some (tabObj #[rawInt pos.line, rawInt pos.col, .ref c']) := by rw [htb, Array.empty_append]
    refine fin c' ctv doc h' tk htk (fun b o hne e => hx b o (fun e' => hne (e' ▸ hxP)) e) (fun a e => ?_) (Nat.le_of_lt (Nat.lt_of_le_of_lt hge hlt)) hrec ⟨c', htb', hrec⟩
    cases e' : s.heap.get? a with
    | none => rfl
    | some o =>
      by_cases hp : a = P
      · rw [hp, htb'] at e; cases e
      · rw [hx a o hp e'] at e; cases e
  · refine nestDef_K hd0 hk0 ha (wpAny_with_toks (Nat.le_refl _) (makeFunction_hit (mg := W.mg) (cv := .ref c') hcl hE.globals I.g hcode C hP trivial (codeAmong_snoc [] trivial rfl) hb fun ctv doc h' tk hx hsz => fun (htk : s.toks ≤ tk) => ?_))
    rw [hq]
    refine fin c' ctv doc h' tk htk (fun b o _ e => hx b o e) (fun a e => ?_) hsz (codeRec_keep hrec fun b o _ _ e => hx b o e) ⟨c', hx _ _ hP, codeRec_keep hrec fun b o _ _ e => hx b o e⟩
    cases e' : s.heap.get? a with
    | none => rfl
    | some o => rw [hx a o e'] at e; cases e
structure MkK (W : Wd) (P : Addr) (pos : Pos) (qual : Str) (Z : AddrSet) (s : Shared) (Z₁ : AddrSet) (s₂ : Shared) (F : Addr → Prop) : Prop where
  keep : ∀ b o, ¬ W.X b → s.heap.get? b = some o → s₂.heap.get? b = some o
  nn : ∀ a, s₂.heap.get? a = none → s.heap.get? a = none
  fo : ∀ a, F a → s.heap.get? a = none
  zs : ∀ a, Z a → Z₁ a
  zn : ∀ a, Z₁ a → Z a ∨ s.heap.get? a = none
  os : s₂.os = s.os
  gens : ∀ (i : Nat) x, s.gens[i]? = some x → s₂.gens[i]? = some x
  tab : TabAt P pos qual s₂.heap
structure Moves (W : Wd) (Z : AddrSet) (h : Heap) (M : Addr → Prop) : Prop where
  base : ∀ a, M a → W.h₀.get? a = none
  z : ∀ a, M a → ¬ Z a
  x : ∀ a, M a → ¬ W.X a
  code : ∀ a, M a → ∃ o, h.get? a = some o ∧ ∀ vs, o.data = .fields vs → ∀ q t, vs[1]? ≠ some (.str q t)
theorem enter_makerM {M : Addr → Prop} {f c P : Addr} {qual : Str} {fd : FuncData} {names : List Str} {name : Str} {params : Arguments} {ibody : List Stmt} {iscope : Scope} {pos : Pos} {rest : List Stmt} {inames : List Str} {vals : List Value} {args : List AV} {me : AV}
    (k : MakerF W f c P qual fd names name params ibody iscope pos rest inames) (hM : Moves W Z s.heap M) (hX : ∀ a, W.X a → a = P) (hroom : A.depth < recursionLimit) (I : Inv W Z s) (hT : (W.X P ∧ s.heap.get? P = some (tabObj #[])) ∨ TabAt P pos qual s.heap) (hbu : s.heap.BuiltinsAt W.mg P) (hPg : mainGlobals ≠ P) (r : RepVs Z s.heap vals args) (hlen : args.length = names.length) (hme : bindA names args frz = some (.val me))
    {Q : Value → Shared → Prop} {E' : Value → Shared → Prop}
    (h : ∀ (env : Env) (h₀ : Heap) (Z₁ : AddrSet) (fn cs : Addr) (v : Value) (fdI : FuncData) (s₂ : Shared) (α₂ : Str → Addr), EnvOk env fd.scope → env.frame = some env.locals → FnS (W.at h₀ Z₁) fn cs fdI ibody v me → fdI.scope = iscope → (∀ s (vals : List Value), vals.length = inames.length → BindsTo s fdI ⟨vals, []⟩ (inames.zip vals)) →
      (∀ Z s, Inv (W.at h₀ Z₁) Z s → FnAt fn s.heap) → Inv (W.at h₀ Z₁) Z₁ s₂ → Loc (W.at h₀ Z₁) Z₁ s₂.heap env ((bindA names args).set name (.val (.raw (.ref fn)))) α₂ → (∀ a, M a → h₀.get? a = none) →
      MkK W P pos qual Z s Z₁ s₂ (FOwn env ((bindA names args).set name (.val (.raw (.ref fn)))) α₂) →
      wpAny W.M (A.deeper env) (execs rest env) (fun f s' => Q (match f with | .ret v => v | _ => .none) s') (fun e s' => wpAny W.M (A.deeper env) (leaving env e) (fun _ s'' => E' e s'') (fun e' s'' => E' e' s'') s') s₂) :
    wpAny W.M A (call (.ref f) vals) Q E' s := by
  obtain ⟨o, hk, hd⟩ := k.fn.look
  have hz : ∀ x ∈ names.zip vals, fd.scope.names.lookup x.1 = some .local ∨ fd.scope.names.lookup x.1 = some .cell := fun x hx => k.loc _ (List.of_mem_zip (show (x.1, x.2) ∈ _ from hx)).1
  refine wpAny_call (call_cells hroom (I.kin _ _ hk) hd I.nolimit (codeRec_of I.kin k.fn.code) k.fn.body (k.bind vals (r.length.trans hlen)) k.fn.closure (fun x hx => (hz x hx).imp id fun h => ⟨h, cells_acc _ _ _ (.inr h)⟩) (fun s₁ htk x => ?_) k.fn.co k.fn.gen k.fn.kind)
  obtain ⟨p₁, L₁, fo₁⟩ := enter_loc (ρ := bindA names args) (α := fun _ => 0) I hz (fun y sv hy => by
    obtain ⟨b, hb1, e⟩ := Option.map_eq_some_iff.mp hy
    obtain ⟨v, hv, rv⟩ := (zip_look r names y).1 b hb1
    exact ⟨v, b, hv, e.symm, rv⟩) htk x
  have hE := enter_env (f := f) (L := s.heap.objs.size) k.fn.globals k.fn.builtins k.fn.nofree k.fn.kind
  have hcode : (callEnvC fd s.heap.objs.size f).code = .ref c := k.code
  have hq := k.qual s.heap.objs.size
  have hfr : (callEnvC fd s.heap.objs.size f).frame = some (callEnvC fd s.heap.objs.size f).locals := rfl
  obtain ⟨cs, hcs⟩ := Option.isSome_iff_exists.mp (cells_acc (x := frz) fd.scope.names (s.heap.objs.size + 1) [] (.inr k.self))
  have hcs : (callEnvC fd s.heap.objs.size f).cells.lookup frz = some cs := hcs
  have hkf : (callEnvC fd s.heap.objs.size f).kindOf frz = some .cell := k.self
  clear x hz
  generalize callEnvC fd s.heap.objs.size f = env at *
  have hcl : closureFor iscope env = pure [(frz, cs)] := by
    rw [closureFor_eq fun n hn => ?_, closeL_filter, k.ifrees]
    · show pure [(frz, (env.cells.lookup frz).getD 0)] = _; rw [hcs]; rfl
    · have : (n, NameKind.free) ∈ iscope.names.filter (fun x => x.2 == .free) := List.mem_filter.mpr ⟨hn, rfl⟩
      rw [k.ifrees] at this
      cases List.mem_singleton.mp this
      exact ⟨cs, hcs⟩
  have hT₁ : (W.X P ∧ s₁.heap.get? P = some (tabObj #[])) ∨ TabAt P pos qual s₁.heap := hT.imp (fun h => ⟨h.1, p₁.keep P _ id h.2⟩) fun h => h.keep fun b o _ _ e => p₁.keep b o id e
  refine wpAny_execs_cons (exec_innerM (M := M) p₁.inv L₁ hE hX hq k.d0 k.k0 (k.ann _) hcl hcode (codeHd_of_K p₁.inv.kin k.codeHd) hT₁ (hbu.keeps fun b o e => p₁.keep b o id e) hPg k.kd hM.base fun fn c' ctv doc g tk s₂ α₂ hkeep hgn hfn htab hfnobj hcr hnf p₂ => ?_)
  have hzs : withSelf Z env cs := .inr hcs
  have Lg := Loc.rebase' (g := g) (own := fun a => FOwn env (bindA names args) (fun _ => 0) a ∨ M a) p₁.inv L₁ hkeep fun _ f => .inl f
  obtain ⟨m, ns, hv⟩ := L₁.ns
  obtain ⟨v, hat, rv⟩ := hv frz _ hme
  have rv : RepV (withSelf Z env) s₁.heap v me := rv
  have hMs : ∀ a, M a → s.heap.get? a ≠ none := fun a m e => by obtain ⟨o, ho, _⟩ := hM.code a m; rw [ho] at e; cases e
  have hMz : ∀ a, M a → ¬ withSelf Z env a := fun a m z => by
    rcases p₁.znew a z with z | z | z
    · exact hM.z a m z
    · exact z
    · exact hMs a m z
  have hnm : ¬ M fn := fun m => hMs fn m (p₁.none_back hfn |>.resolve_left id)
  have hcell : s₁.heap.IsCell cs (some v) := by
    rcases hat with ⟨e, _⟩ | ⟨_, c₂, e2, e3⟩ | ⟨e, _⟩
    · rw [hkf] at e; cases e
    · rw [hcs] at e2; cases e2; exact e3
    · rw [hkf] at e; cases e
  have km : ∀ a o, withSelf Z env a → s₁.heap.get? a = some o → (maskH g fun a => FOwn env (bindA names args) (fun _ => 0) a ∨ M a).get? a = some o := fun a o z e => by
    rw [maskH_out fun f => f.elim (fun f => L₁.nz a f z) fun m => hMz a m z]; exact hkeep a o (p₁.inv.zx a z) e
  have kS : FnS (W.at (maskH g fun a => FOwn env (bindA names args) (fun _ => 0) a ∨ M a) (withSelf Z env)) fn cs (fnX name qual params ibody iscope [(frz, cs)] .none .none doc ((W.mg "__name__").getD .none) none (.ref c') ctv) ibody v me := by
    refine ⟨⟨_, (maskH_out (fun f => f.elim hnf hnm)).trans hfnobj, rfl⟩, fun _ h => h, ?_, rfl, rfl, rfl, rfl, k.inocell, k.ifree, k.ihfree, k.ikind, k.ico, k.igen, hzs, ?_, ?_⟩
    · obtain ⟨c₂, oc, vs, t, e2, hoc, hd', hv'⟩ := hcr
      exact ⟨c₂, oc, vs, t, e2, (maskH_out fun f => f.elim (fun f => Lg.nofields f hoc hd') fun m => by
        obtain ⟨o, ho, hno⟩ := hM.code _ m
        have h1 := hkeep _ _ (hM.x _ m) (p₁.keep _ _ id ho)
        rw [hoc] at h1; cases h1
        exact hno _ hd' _ _ hv').trans hoc, hd', hv'⟩
    · obtain ⟨o, e, d'⟩ := hcell; exact ⟨o, km _ _ hzs e, d'⟩
    · exact rv.mono (fun _ z => z) km
  have gn : ∀ a, g.get? a = none → s.heap.get? a = none := fun a e => by
    cases e' : s.heap.get? a with
    | none => rfl
    | some o => have := hgn a e; rw [p₁.keep a o id e'] at this; cases this
  have fo₂ : ∀ a, FOwn env ((bindA names args).set name (.val (.raw (.ref fn)))) α₂ a → s.heap.get? a = none := fun a f => (p₂.fo a f).elim (fo₁ a) (gn a)
  refine h env _ _ fn cs v _ s₂ α₂ hE hfr kS rfl (fun s vals hv => k.ibind _ _ _ _ _ _ s vals hv) (fun Z s I' => ⟨_, _, _, _, I'.base fn _ ((maskH_out (fun f => f.elim hnf hnm)).trans hfnobj) id⟩) p₂.step.inv p₂.loc (fun a m => maskH_in (.inr m))
    ⟨fun b o hne e => ?_, fun a e => ?_, fo₂, fun a z => .inl z, fun a z => ?_, p₂.step.inv.os.trans I.os.symm, fun i x e => p₂.step.gens i x id (p₁.gens i x id e), htab.keep fun b o vs hd e => p₂.step.keep b o (fun f => Lg.nofields f e hd) e⟩
  · exact p₂.step.keep b o (fun f => by rw [fo₁ b f] at e; cases e) (hkeep b o hne (p₁.keep b o id e))
  · rcases p₂.step.none_back e with f | e
    · exact fo₁ a f
    · exact gn a e
  · rcases p₁.znew a z with z | z | z
    · exact .inl z
    · exact z.elim
    · exact .inr z
end
end Mine
end
section
set_option linter.unusedVariables false
namespace Mine
section
variable {prog : Program} {w : World} {A : Around} {E : Value → Shared → Prop} {s : Shared}
noncomputable def Spent (h : Heap) (J : Addr) : Prop := ∃ o i, h.get? J = some o ∧ o.cls = .type "list_iterator" ∧ o.data = .fields #[.none, .int i 0]
theorem Spent.typeIs {J : Addr} (x : Spent s.heap J) : s.TypeIs (.ref J) "list_iterator" := let ⟨o, _, ho, hc, _⟩ := x; ⟨o, ho, hc⟩
theorem next_end {it l : Addr} {i : Nat} {items} {Q : Option Value → Shared → Prop} (hh : A.handled = none)
    (hit : s.heap.IsListIter it l i) (hl : s.heap.IsList l items) (hx : items[i]? = none)
    (hQ : ∀ h', Heap.ExtBut it s.heap h' → Spent h' it → Q none { s with heap := h' }) : wpAny (model prog w) A (pyNext (.ref it)) Q E s := by
  obtain ⟨o, ho, hc, hd⟩ := id hit
  obtain ⟨ol, hol, _, nl, hdl⟩ := hl
  unfold pyNext
  refine wpAny_bind (wpAny_attempt (wpAny_callSpecial?_slot (name := Str.ofString "__next__") hit.typeIs slot_listiter_next
    (wpAny_call_entry slot_listiter_next hit.typeIs entry_listiter_next ?_ (args_listiter_next _))))
  show wpAny _ _ (field (.ref it) 0 >>= _) _ _ s
  refine wpAny_bind (wpAny_field ho hd (x := .ref l) rfl ?_)
  show wpAny _ _ (if (Value.ref l == Value.none) = true then _ else _) _ _ s
  rw [if_neg (show ¬ ((Value.ref l == Value.none) = true) from Bool.false_ne_true)]
  show wpAny _ _ (field (.ref it) 1 >>= _) _ _ s
  refine wpAny_bind (wpAny_field ho hd (x := .int i 0) rfl ?_)
  show wpAny _ _ (seqItems? (.ref l) >>= _) _ _ s
  refine wpAny_bind (wpAny_seqItems hol hdl ?_)
  simp only [Int.toNat_natCast, hx]
  refine wpAny_bind (wpAny_rule (wpAny_bind (wpAny_setField ho hd (by simp) ?_)))
  show wpAny _ _ (newExc (.type "StopIteration") [] >>= _) _ _ _
  refine wpAny_bind ?_
  simp only [newExc, newTuple]
  refine wpAny_bind (wpAny_newObj_type ?_ (by size_fits))
  refine wpAny_bind (m := firstArgMember _ _) (wpAny_of_eq (a := Value.none) (by first | rfl | (simp only [firstArgMember]; rfl)) ?_)
  refine wpAny_newObj_type ?_ (by size_fits)
  simp only [raiseNew]
  refine wpAny_bind (wpAny_handled ?_)
  rw [show A.in1.handled = none from hh]
  refine wpAny_bind (wpAny_pure (wpAny_throw ?_))
  refine wpAny_bind (wpAny_isInstance (T := "StopIteration") (b := true) ⟨_, Heap.get?_push_size _ rfl, rfl⟩ isSubtype_stop ?_)
  exact wpAny_pure (hQ _ (((Heap.SameBut.update ..).extBut.push _).push _) ⟨_, i, Heap.get?_push_of_some _ (Heap.get?_push_of_some _ (Heap.get?_update_self _ ho (Obj.isFreed_of_fields (Obj.data_mapFields hd _)))), (Obj.cls_mapFields ..).trans hc, by rw [Obj.data_mapFields hd]; simp⟩)
theorem next_spent {it : Addr} {Q : Option Value → Shared → Prop} (hh : A.handled = none) (hit : Spent s.heap it)
    (hQ : ∀ h', (∀ b o, s.heap.get? b = some o → h'.get? b = some o) → Q none { s with heap := h' }) : wpAny (model prog w) A (pyNext (.ref it)) Q E s := by
  obtain ⟨o, i, ho, hc, hd⟩ := id hit
  unfold pyNext
  refine wpAny_bind (wpAny_attempt (wpAny_callSpecial?_slot (name := Str.ofString "__next__") hit.typeIs slot_listiter_next
    (wpAny_call_entry slot_listiter_next hit.typeIs entry_listiter_next ?_ (args_listiter_next _))))
  show wpAny _ _ (field (.ref it) 0 >>= _) _ _ s
  refine wpAny_bind (wpAny_field ho hd (x := .none) rfl ?_)
  show wpAny _ _ (if (Value.none == Value.none) = true then _ else _) _ _ s
  rw [if_pos (show (Value.none == Value.none) = true from rfl)]
  refine wpAny_bind (wpAny_rule ?_)
  refine wpAny_bind ?_
  show wpAny _ _ (newExc (.type "StopIteration") [] >>= _) _ _ _
  refine wpAny_bind ?_
  simp only [newExc, newTuple]
  refine wpAny_bind (wpAny_newObj_type ?_ (by size_fits))
  refine wpAny_bind (m := firstArgMember _ _) (wpAny_of_eq (a := Value.none) (by first | rfl | (simp only [firstArgMember]; rfl)) ?_)
  refine wpAny_newObj_type ?_ (by size_fits)
  simp only [raiseNew]
  refine wpAny_bind (wpAny_handled ?_)
  rw [show A.in1.handled = none from hh]
  refine wpAny_bind (wpAny_pure (wpAny_throw ?_))
  refine wpAny_bind (wpAny_isInstance (T := "StopIteration") (b := true) ⟨_, Heap.get?_push_size _ rfl, rfl⟩ isSubtype_stop ?_)
  exact wpAny_pure (hQ _ fun b o hb => Heap.get?_push_of_some _ (Heap.get?_push_of_some _ hb))
theorem pyIter_listit {it : Addr} {Q : Value → Shared → Prop} (hit : s.TypeIs (.ref it) "list_iterator") (h : Q (.ref it) s) : wpAny (model prog w) A (pyIter (.ref it)) Q E s := by
  refine wpAny_pyIter_slot hit slot_listiter_iter (wpAny_call_entry slot_listiter_iter hit entry_listiter_iter ?_ (args_listiter_iter _))
  show wpAny _ _ (ret (.ref it)) _ _ s
  exact wpAny_pure ⟨_, rfl, "list_iterator", _, hit, slot_listiter_next.lookup, h⟩
theorem call_iter_list {Q : Value → Shared → Prop} {l : Addr} {items : Array Value} (hl : s.heap.IsList l items)
    (hQ : Q (.ref s.heap.objs.size) { s with heap := s.heap.push { cls := .type "list_iterator", data := .fields #[.ref l, .int 0 0] } }) : wpAny (model prog w) A (call (.builtin "iter") [.ref l]) Q E s := by
  refine PySem.Calls.call_function_entry (by decide +kernel) (by decide +kernel) kdk_entry_iter (kdk_args_iter _) ?_
  unfold Builtin.«iter»
  refine wpAny_bind (m := someArgs "iter" 1 2 _) (wpAny_of_eq (a := [Value.ref l]) (by first | rfl | kernel_rfl!) ?_)
  refine wpAny_bind (wpAny_pyIter_list hl ?_)
  exact wpAny_pure ⟨_, rfl, hQ⟩
noncomputable def WellAt (h : Heap) (it w : Addr) (n i : Nat) : Prop := h.IsListIter it w i ∨ (i = n ∧ Spent h it)
theorem WellAt.obj {h : Heap} {it w : Addr} {n i : Nat} (x : WellAt h it w n i) : ∃ o vs, h.get? it = some o ∧ o.cls = .type "list_iterator" ∧ o.data = .fields vs ∧ ∀ q t, vs[1]? ≠ some (.str q t) := by
  rcases x with ⟨o, ho, hc, hd⟩ | ⟨_, o, i, ho, hc, hd⟩
  · exact ⟨o, _, ho, hc, hd, fun q t e => by cases e⟩
  · exact ⟨o, _, ho, hc, hd, fun q t e => by cases e⟩
theorem WellAt.typeIs {it w : Addr} {n i : Nat} (x : WellAt s.heap it w n i) : s.TypeIs (.ref it) "list_iterator" := let ⟨o, _, ho, hc, _⟩ := x.obj; ⟨o, ho, hc⟩
theorem WellAt.at {h h' : Heap} {it w : Addr} {n i : Nat} (x : WellAt h it w n i) (e : ∀ o, h.get? it = some o → h'.get? it = some o) : WellAt h' it w n i := by
  rcases x with ⟨o, ho, r⟩ | ⟨hi, o, i, ho, r⟩
  · exact .inl ⟨o, e o ho, r⟩
  · exact .inr ⟨hi, o, i, e o ho, r⟩
theorem Walks.well (hh : A.handled = none) (it w' : Addr) (hne : w' ≠ it) (vs : Array Value) (i₀ : Nat) (hi : i₀ ≤ vs.size) :
    Walks prog w A it [it, w'] [it] (vs.size - i₀) (fun j v => vs[i₀ + j]? = some v) (fun j h => WellAt h it w' vs.size (i₀ + j) ∧ h.IsList w' vs) where
  sub b hb := by simp at hb; simp [hb]
  frame _ _ _ st hk := ⟨st.1.at fun o e => hk it (by simp) o e, st.2.at fun o e => hk w' (by simp) o e⟩
  item j s Q E hj st hQ := by
    have hit : s.heap.IsListIter it w' (i₀ + j) := by
      rcases st.1 with h | ⟨e, _⟩
      · exact h
      · (first | lia | omega)
    have hlt : i₀ + j < vs.size := by (first | lia | omega)
    refine wpAny_pyNext_list_item hit st.2 (x := vs[i₀ + j]) (by simp [hlt]) fun h' hit' hs' => ?_
    exact hQ _ h' s.toks (by simp [hlt]) ⟨.inl hit', st.2.extBut hs'.extBut hne⟩ fun b o hb e => hs'.extBut b o (fun h => hb (by simp [h])) e
  done s Q E st hQ := by
    rcases st.1 with h | ⟨_, h⟩
    · exact next_end hh h st.2 (by rw [Array.getElem?_eq_none]; (first | lia | omega)) fun h' he' _ => hQ h' s.toks fun b o hb e => he' b o (fun h => hb (by simp [h])) e
    · exact next_spent hh h fun h' hk => hQ h' s.toks fun b o _ e => hk b o e
  self _ _ _ _ st hQ := pyIter_listit st.1.typeIs hQ
theorem well_end (hh : A.handled = none) {it w' : Addr} {vs : Array Value} {Q : Option Value → Shared → Prop} (hx : WellAt s.heap it w' vs.size vs.size) (hl : s.heap.IsList w' vs)
    (hQ : ∀ h', (∀ b o, b ≠ it → s.heap.get? b = some o → h'.get? b = some o) → Spent h' it → Q none { s with heap := h' }) : wpAny (model prog w) A (pyNext (.ref it)) Q E s := by
  rcases hx with h | ⟨_, h⟩
  · exact next_end hh h hl (by rw [Array.getElem?_eq_none]; (first | lia | omega)) fun h' he' sp => hQ h' (fun b o hb e => he' b o hb e) sp
  · exact next_spent hh h fun h' hk => hQ h' (fun b o _ e => hk b o e) (let ⟨o, i, ho, r⟩ := h; ⟨o, i, hk _ _ ho, r⟩)
end
end Mine
end
section
set_option linter.unusedVariables false
namespace Mine
section
variable {W : Wd} {Z Z' Z₁ : AddrSet} {s s' s₁ : Shared} {env : Env} {sc : Scope} {ρ ρ' : Slots} {α α' : Str → Addr} {A : Around} {d : Nat}
theorem comp_loop7 {elt target iter : Expr} {ifs : List Expr} {scope : Scope} {pos : Pos} {sc' : Scope} {T : AV → Slots → Option Slots} {t : Slots → Option Bool} {f : Slots → Option AV} {items l : List AV} {cenv : Env} {ρc : Slots} {αc : Str → Addr} {D J : Addr} {Z₂ : AddrSet} {s₄ : Shared} {g : Nat} {Pρ : Slots → Prop}
    {fp wr : List Addr} {P : Nat → Value → Prop} {St : Nat → Heap → Prop} {Fin : Heap → Prop}
    (htg : DenTgC W d sc' target T) (hif : DenIfs W d sc' ifs t) (helt : DenP W d sc' elt f) (R : Room A d) (hE : EnvOk cenv sc') (I : Inv W Z s) (hg : g ≤ items.length) (hc : compA T t f (items.take g) ρc = some l) (hz : items.length ≤ 1000000)
    (hPc : Pρ ρc) (hPT : ∀ a ρ ρ', Pρ ρ → T a ρ = some ρ' → Pρ ρ') (hTt : ∀ a ρ, ∃ ρ', T a ρ = some ρ' ∧ t ρ' = some true)
    (p : Step W .none Z s Z₂ s₄) (Lc : Loc W Z₂ s₄.heap cenv ρc αc) (Wk : Walks W.prog W.w A J fp wr items.length P St) (st : St 0 s₄.heap) (hP : ∀ i v, P i v → ∃ a, items[i]? = some a ∧ RepV Z₂ s₄.heap v a) (hwr : ∀ b ∈ wr, s.heap.get? b = none ∧ ¬ Z₂ b) (hfp : ∀ b ∈ fp, b ∈ wr ∨ Z₂ b) (hob : ∀ i h, St i h → ∀ b ∈ wr, ∃ o, h.get? b = some o)
    (hgo : ∀ i v (s' : Shared) (Q : Unit → Shared → Prop) (E' : Value → Shared → Prop), St i s'.heap → Q () s' → wpAny W.M A (letOwnedTupleGo target (.ref J) v) Q E' s')
    (hend : ∀ (s' : Shared) (Q : Option Value → Shared → Prop) (E' : Value → Shared → Prop), St items.length s'.heap → (∀ h', (∀ b o, b ∉ wr → s'.heap.get? b = some o → h'.get? b = some o) → Fin h' → Q none { s' with heap := h' }) → wpAny W.M A (pyNext (.ref J)) Q E' s')
    (hDp : s₄.heap.PlainList D #[]) (hD : s.heap.get? D = none) (hDz : ¬ Z₂ D) (hDo : ¬ FOwn cenv ρc αc D) (hC : s.heap.get? cenv.locals = none) (hwd : ∀ b ∈ wr, b ≠ D ∧ ¬ FOwn cenv ρc αc b) {Rr : Result → Shared → Prop}
    (q0 : g = items.length → ∀ s' Z' vs m, Step W .none Z s Z' s' → Fin s'.heap → (∀ b ∈ wr, ¬ Z' b) → ¬ Z' D → s'.heap.PlainList D vs.toArray → RepVs Z' s'.heap vs l → s'.heap.Ns cenv.locals m → ¬ Z' cenv.locals → Rr (.ok .next) s')
    (q1 : ∀ a, items[g]? = some a → ∀ s₆ Z₆ ρ₅ ρ₆ α₆, Pρ ρ₅ → T a ρ₅ = some ρ₆ → Step W .none Z s Z₆ s₆ → Loc W Z₆ s₆.heap cenv ρ₆ α₆ → St (g + 1) s₆.heap → (∀ b ∈ wr, ¬ Z₆ b) → wpAny W.M A (eval elt cenv) (fun _ _ => False) (notedBy W.M A cenv fun e s' => Rr (.error e) s') s₆) :
    codeAny W.M A (.compLoop (.ListComp elt [⟨target, iter, ifs, 0⟩] scope pos) 0 (.ref J) (.ref D) cenv) Rr s₄ := by
  have k : CompAt W A cenv Z s ρc αc fp wr St P items.length J D Z₂ := ⟨I, Wk, hwr, hfp, hob, hD, hDz, hDo, hC, hwd⟩
  refine codeAny_comp (fun k s' => ∃ i vs l₁ Z' ρ₁ α₁, CompInv W cenv Z s ρc αc fp wr St D Z₂ s₄ s' i vs l₁ Z' ρ₁ α₁ ∧ k = items.length - i ∧ i ≤ g ∧ (compA T t f ((items.take g).drop i) ρ₁).map (l₁ ++ ·) = some l ∧ Pρ ρ₁) ?_ items.length
    ⟨0, [], [], Z₂, ρc, αc, ⟨p, Lc, st, hDp, .nil, fun _ h => h, hDz, fun b hb => (hwr b hb).2, fun _ _ _ e => e, fun _ z => z⟩, rfl, Nat.zero_le _, by rw [List.drop_zero, hc]; rfl, hPc⟩
  clear p Lc st hDp hwr hfp hob hD hDz hDo hC hwd I
  have hlen : (items.take g).length = g := by rw [List.length_take]; exact Nat.min_eq_left hg
  rintro _ s₃ ⟨i, vs, l₁, Z₃, ρ₃, α₃, c, rfl, hi', hca, hPr⟩
  obtain ⟨l₂, hca, hl⟩ := Option.map_eq_some_iff.mp hca
  by_cases hlt : i < items.length
  · refine wpAny_with_toks (Nat.le_refl _) (Wk.item i s₃ _ _ hlt c.st fun v h' tk hv st₄ hk => fun (htk : s₃.toks ≤ tk) => ?_)
    obtain ⟨a, ha, ra⟩ := hP i v hv
    have c4 := c.drawn (tk := tk) k st₄ hk htk
    refine hgo (i + 1) v _ _ _ st₄ ?_
    by_cases hig : i < g
    · have hlt2 : i < (items.take g).length := by rw [hlen]; exact hig
      have hat : (items.take g)[i]? = some a := by rw [List.getElem?_take, if_pos hig]; exact ha
      rw [List.drop_eq_getElem_cons hlt2, Option.some.inj ((List.getElem?_eq_getElem hlt2).symm.trans hat)] at hca
      unfold compA at hca
      obtain ⟨ρ₅, h₅, hca⟩ := bindO hca
      obtain ⟨b, hb, hca⟩ := bindO hca
      refine htg A cenv Z₃ _ ρ₃ α₃ v a ρ₅ R hE c4.p.inv c4.L (ra.mono c4.zz c4.z) h₅ _ _ fun s₅ α₅ p₅ fo₅ L₅ => ?_
      have c5 := c4.bound k p₅ fo₅ L₅
      clear c4 c
      refine hif A cenv Z₃ s₅ ρ₅ α₅ b R hE p₅.inv L₅ hb _ _ fun s₆ Z₆ p₆ => ?_
      have c6 := c5.pure k p₆
      clear c5
      have hlt' : items.length - (i + 1) < items.length - i := Nat.sub_lt_sub_left hlt (Nat.lt_succ_self i)
      have hPr' := hPT _ _ _ hPr h₅
      cases b with
      | false => exact ⟨items.length - (i + 1), hlt', i + 1, vs, l₁, Z₆, ρ₅, α₅, c6, rfl, hig, Option.map_eq_some_iff.mpr ⟨l₂, hca, hl⟩, hPr'⟩
      | true =>
        obtain ⟨x, hx, hca⟩ := bindO hca
        obtain ⟨l₃, hl₃, hl₂⟩ := Option.map_eq_some_iff.mp hca
        refine helt A cenv Z₆ s₆ ρ₅ α₅ x R hE p₆.inv c6.L hx _ _ fun w s₇ Z₇ p₇ rw' => ?_
        have c7 := c6.pure k p₇
        clear c6
        have hvl : vs.length ≤ 1000000 := by
          have h1 := compA_bound hc
          have h2 := c7.rs.length
          rw [← hl, List.length_append, hlen] at h1
          (first | lia | omega)
        obtain ⟨nD, r6⟩ := c7.hD
        refine append_at (n := nD) r6 (fun h'' hsb ho' => ?_) (by rw [List.size_toArray]; unfold sizeLine; (first | lia | omega))
        exact ⟨items.length - (i + 1), hlt', i + 1, vs ++ [w], l₁ ++ [x], Z₇, ρ₅, α₅, c7.snoc k rw' hsb ho', rfl, hig, Option.map_eq_some_iff.mpr ⟨l₃, hl₃, by rw [List.append_assoc, ← hl, ← hl₂]; rfl⟩, hPr'⟩
    · have hig' : i = g := Nat.le_antisymm hi' (Nat.le_of_not_lt hig)
      subst hig'
      obtain ⟨ρ₅, h₅, ht⟩ := hTt a ρ₃
      refine htg A cenv Z₃ _ ρ₃ α₃ v a ρ₅ R hE c4.p.inv c4.L (ra.mono c4.zz c4.z) h₅ _ _ fun s₅ α₅ p₅ fo₅ L₅ => ?_
      have c5 := c4.bound k p₅ fo₅ L₅
      clear c4 c
      refine hif A cenv Z₃ s₅ ρ₅ α₅ true R hE p₅.inv L₅ ht _ _ fun s₆ Z₆ p₆ => ?_
      have c6 := c5.pure k p₆
      exact wpAny_mono (q1 a ha s₆ Z₆ ρ₃ ρ₅ α₅ hPr h₅ c6.p c6.L c6.st c6.w) (fun _ _ f => f.elim) fun _ _ x => x
  · have hin : i = items.length := Nat.le_antisymm (Nat.le_trans hi' hg) (Nat.le_of_not_lt hlt)
    have hgi : g = items.length := Nat.le_antisymm hg (hin ▸ hi')
    rw [hin, hgi, List.take_length, List.drop_length] at hca
    cases hca
    rw [List.append_nil] at hl
    refine hend s₃ _ _ (hin ▸ c.st) fun h' hk fin => ?_
    have p₄ : Step W (.addrs (· ∈ wr)) Z₃ s₃ Z₃ { s₃ with heap := h', toks := s₃.toks } := .writes c.p.inv hk fun b hb => ⟨k.I.fresh_b (k.hw b hb).1, k.I.fresh_x (k.hw b hb).1, c.w b hb⟩
    have L₄ := c.L.step p₄ fun b hb => ⟨fun fo => (k.wd b hb).2 (c.fo b fo), c.w b hb⟩
    obtain ⟨m, ns, _⟩ := L₄.ns
    obtain ⟨nD, hDg⟩ := c.hD
    exact q0 hgi _ Z₃ vs m (c.p.trans p₄ (fun a h => .inr (k.hw a h).1) fun _ h => h.elim) fin c.w c.Dz ⟨nD, hk D _ (fun h => (k.wd D h).1 rfl) hDg⟩ (hl ▸ p₄.reps (fun b z h => c.w b h z) c.rs) ns (c.L.nz _ (.inl rfl))
end
end Mine
end
section
set_option linter.unusedVariables false
namespace Mine
section
variable {W : Wd} {Z Z' Z₁ : AddrSet} {s s' s₁ s₀ : Shared} {env : Env} {sc : Scope} {ρ ρ' : Slots} {α α' : Str → Addr} {A : Around} {d : Nat}
structure Well (Z : AddrSet) (h : Heap) (it w : Addr) (b : List AV) (i : Nat) : Prop where
  lst : ∃ vs : List Value, IsLst h w vs.toArray ∧ RepVs Z h vs b
  zw : Z w
  nz : ¬ Z it
  le : i ≤ b.length
  at' : WellAt h it w b.length i
theorem Well.mono {h h' : Heap} {it w : Addr} {b : List AV} {i : Nat} (x : Well Z h it w b i) (hz : ∀ a, Z a → Z' a) (hk : ∀ a o, Z a → h.get? a = some o → h'.get? a = some o) (hi : ∀ o, h.get? it = some o → h'.get? it = some o) (hn : ¬ Z' it) : Well Z' h' it w b i :=
  ⟨let ⟨vs, ⟨o, ho, r⟩, rs⟩ := x.lst; ⟨vs, ⟨o, hk _ _ x.zw ho, r⟩, rs.mono hz hk⟩, hz _ x.zw, hn, x.le, x.at'.at hi⟩
theorem Well.alive {h : Heap} {it w : Addr} {b : List AV} {i : Nat} (x : Well Z h it w b i) : ∃ o, h.get? it = some o := let ⟨o, _, ho, _⟩ := x.at'.obj; ⟨o, ho⟩
theorem assign_comp7 {x y : Str} {px py spos : Pos} {elt target : Expr} {ifs : List Expr} {scope : Scope} {pos : Pos} {T : AV → Slots → Option Slots} {t : Slots → Option Bool} {f : Slots → Option AV} {b l : List AV} {it w : Addr} {i₀ g : Nat} {Pρ : Slots → Prop} (hs : CompScope scope sc)
    (htg : DenTgC W d (relabelS scope sc) target T) (hif : DenIfs W d (relabelS scope sc) ifs t) (helt : DenP W d (relabelS scope sc) elt f) (ht : PlainTg target) (hset : ∀ env x, foldedSetIterable (.Name y py) env x = pure x)
    (hk : sc.names.lookup x = some .local) (hline : px.line = pos.line) (hany : (scope.names.any fun (n, k) => n == x && (k == .local || k == .cell)) = false) (h1 : (y == ("__debug__" : Str)) = false) (hn : isPh y = false)
    (R : Room A d) (hE : EnvOk env sc) (I₀ : Inv W Z s₀) (L₀ : Loc W Z s₀.heap env ρ α) (p₀ : Step W .none Z s₀ Z s) (hy : getV ρ y = some (.raw (.ref it))) (hit : s₀.heap.get? it = none) (wl : Well Z s.heap it w b i₀)
    (hg : g ≤ (b.drop i₀).length) (hz : b.length ≤ 1000000) (hc : compA T t f ((b.drop i₀).take g) (capt scope ρ) = some l) (hPc : Pρ (capt scope ρ)) (hPT : ∀ a ρ ρ', Pρ ρ → T a ρ = some ρ' → Pρ ρ') (hTt : ∀ a ρ, ∃ ρ', T a ρ = some ρ' ∧ t ρ' = some true)
    {Q : Flow → Shared → Prop} {E' : Value → Shared → Prop}
    (q0 : g = (b.drop i₀).length → ∀ s' Z' α', FStep W env Z s₀ ρ α Z' s' (ρ.set x (.own ⟨none, l⟩)) α' → Spent s'.heap it → ¬ Z' it → Q .next s')
    (q1 : ∀ a, (b.drop i₀)[g]? = some a → ∀ cenv s₆ Z₆ ρ₅ ρ₆ α₆, EnvOk cenv (relabelS scope sc) → cenv.frame = env.frame → s.heap.get? cenv.locals = none → Pρ ρ₅ → T a ρ₅ = some ρ₆ → Step W .none Z s₀ Z₆ s₆ → Loc W Z₆ s₆.heap cenv ρ₆ α₆ → WellAt s₆.heap it w b.length (i₀ + (g + 1)) → ¬ Z₆ it →
      wpAny W.M A (eval elt cenv) (fun _ _ => False) (notedBy W.M A cenv fun e s' => ∃ m, s'.heap.Ns cenv.locals m ∧ ∀ h', Heap.SameBut cenv.locals s'.heap h' → ∀ cenv' : Env, cenv'.locals = cenv.locals → wpAny W.M A (PySem.passOn "comprehension.variables-let-go" e cenv' : Sem Value) (fun _ _ => False) E' { s' with heap := h' }) s₆) :
    wpAny W.M A (exec (.Assign [.Name x px] (.ListComp elt [⟨target, .Name y py, ifs, 0⟩] scope pos) spos) env) Q E' s := by
  have hsw : swapsWith (.ListComp elt [⟨target, .Name y py, ifs, 0⟩] scope pos) (some (.Name x px)) spos.line env = pure true := by
    unfold swapsWith
    have h1 : (env.blockKind == ScopeKind.function) = true := by unfold Env.blockKind; rw [hE.kfn]; rfl
    have h2 : (env.kindOf x == some NameKind.local) = true := by rw [hE.kind, hk]; rfl
    have h3 : (px.line == (Expr.ListComp elt [⟨target, .Name y py, ifs, 0⟩] scope pos).pos.line) = true := by
      show (px.line == pos.line) = true
      rw [hline]; exact beq_self_eq_true _
    show pure (env.blockKind == ScopeKind.function && env.kindOf x == some NameKind.local && px.line == (Expr.ListComp elt [⟨target, .Name y py, ifs, 0⟩] scope pos).pos.line && !(scope.names.any fun (n, k) => n == x && (k == .local || k == .cell))) = pure true
    rw [h1, h2, h3, hany]; rfl
  rw [exec_Assign_Name_used _ _ _ _ hsw]
  refine wpAny_bind (wpAny_standAt (wpAny_bind ?_))
  show wpAny _ A (do let _ ← comprehension (.ListComp elt [⟨target, .Name y py, ifs, 0⟩] scope pos) scope env _ (newList []) false (eval (.Name y py) env) (some (assign (.Name x px) env))) _ _ s
  have L := L₀.step0 p₀
  obtain ⟨vs, hl, rl⟩ := wl.lst
  have hwl := wl.at'
  have hsz : b.length = vs.toArray.size := by rw [List.size_toArray, rl.length]
  rw [hsz] at hwl
  have hle : i₀ ≤ vs.toArray.size := hsz ▸ wl.le
  have hne : w ≠ it := fun e => wl.nz (e ▸ wl.zw)
  have hgl : (b.drop i₀).length = vs.toArray.size - i₀ := by rw [List.length_drop, hsz]
  refine wpAny_bind (wpAny_comprehension_free rfl (hset env) (closureFor_eq (free_cells hE hs)) hs.fn hs.locals (wpAny_Name (L.load hE (getV_eq hy) (fun v r => ?_) hn) h1))
  have hv : v = .ref it := by
    have r' : RepV Z s.heap v (.raw (.ref it)) := r
    cases r'; rfl
  subst hv
  refine pyIter_listit hwl.typeIs ?_
  refine wpAny_newObj_type (wpAny_newFunctionEnv hs.nocell (fun x hx => by cases hx) (fun h₄ ns₄ sb₄ => ?_) hs.fn)
  have hC : (s.heap.push { cls := .type "list", data := .seq #[] }).get? (s.heap.push { cls := .type "list", data := .seq #[] }).objs.size = none := push_none _
  have kC : ∀ b o, (s.heap.push { cls := .type "list", data := .seq #[] }).get? b = some o → h₄.get? b = some o := fun b o e => sb₄.extBut b o (Nat.ne_of_lt (Heap.lt_size e)) (Heap.get?_push_of_some _ e)
  have k4 : ∀ b o, s.heap.get? b = some o → h₄.get? b = some o := fun b o e => kC b o (push_keep _ _ b o e)
  have hD2 : s.heap.get? s.heap.objs.size = none := push_none _
  have hC2 : s.heap.get? (s.heap.push { cls := .type "list", data := .seq #[] }).objs.size = none := by
    cases e : s.heap.get? (s.heap.push { cls := .type "list", data := .seq #[] }).objs.size with
    | none => rfl
    | some o => rw [push_keep _ _ _ _ e] at hC; cases hC
  have hDg : h₄.get? s.heap.objs.size = some { cls := .type "list", data := .seq #[] } := kC _ _ (Heap.get?_push_size s.heap rfl)
  have hCD : (s.heap.push { cls := .type "list", data := .seq #[] }).objs.size ≠ s.heap.objs.size := fun e => by
    rw [e, Heap.get?_push_size s.heap rfl] at hC; cases hC
  have p24 : Step W .none Z s Z { s with heap := h₄, toks := s.toks } := .grow p₀.inv k4
  have hDs : s₀.heap.get? s.heap.objs.size = none := (p₀.none_back hD2).resolve_left id
  have hCs : s₀.heap.get? (s.heap.push { cls := .type "list", data := .seq #[] }).objs.size = none := (p₀.none_back hC2).resolve_left id
  have rel := relabel_eq (scope := scope) hE
  have Wk := Walks.well (prog := W.prog) (w := W.w) R.handled it w hne vs.toArray i₀ hle
  have st : WellAt s.heap it w vs.toArray.size (i₀ + 0) ∧ s.heap.IsList w vs.toArray := ⟨hwl, hl.list⟩
  have st4 := Wk.frame 0 _ _ st fun b _ o e => k4 b o e
  rw [← hgl] at Wk
  obtain ⟨oit, hoit⟩ := wl.alive
  refine codeAny_compStart_list (R := compPost W.M A E' _ _ _ _) ?_ (pyIter_listit (hwl.at fun o e => k4 it o e).typeIs ?_)
  all_goals
    have Lc : Loc W Z h₄ (compEnvC scope (closeL env scope.names []) (s.heap.push { cls := .type "list", data := .seq #[] }).objs.size env) (capt scope ρ) α :=
      capt_loc hE L hs k4 (fun b z => .inl z) (fun _ z => z) hC2 (p₀.inv.fresh_z hC2) ⟨p₀.inv.fresh_b hC2, p₀.inv.fresh_x hC2⟩ ns₄ _ rfl rfl rel
    have fo : ∀ b, FOwn (compEnvC scope (closeL env scope.names []) (s.heap.push { cls := .type "list", data := .seq #[] }).objs.size env) (capt scope ρ) α b → b = (s.heap.push { cls := .type "list", data := .seq #[] }).objs.size ∨ ∃ o, s₀.heap.get? b = some o := by
      rintro b (e | ⟨x, hn, hx⟩ | ⟨x, m, hx, rfl⟩)
      · exact .inl e
      · exact .inr (L₀.alive (.inr (.inl ⟨x, hn, (closeL_lookup scope.names [] (free_cells hE hs) x b hx).resolve_right (fun h => by cases h)⟩)))
      · refine .inr (L₀.alive (.inr (.inr ⟨x, m, ?_, rfl⟩)))
        unfold capt at hx
        split at hx
        · exact hx
        · cases hx
    refine comp_loop7 (D := s.heap.objs.size) (cenv := compEnvC scope (closeL env scope.names []) (s.heap.push { cls := .type "list", data := .seq #[] }).objs.size env) (Fin := fun h => Spent h it) (items := b.drop i₀) (g := g) htg hif helt R (capt_env hE hs _ rfl rel rfl rfl) I₀ hg hc (by rw [List.length_drop]; (first | lia | omega)) hPc hPT hTt (p₀.tr p24) Lc Wk st4 (fun i v hv => ?_) (fun b hb => ?_) (fun b hb => ?_) (fun i h st b hb => ?_) (fun i v s' Q E'' st q => ?_)
      (fun s' Q E'' st q => ?_) ⟨0, hDg⟩ hDs (p₀.inv.fresh_z hD2) (fun f => ?_) hCs (fun b hb => ⟨fun e => ?_, fun f => ?_⟩) (fun hgeq s' Z' ws m p fin hw hz' hp rs ns hzC => ?_) fun a ha s₆ Z₆ ρ₅ ρ₆ α₆ hP hT p L₆ st₆ hw => ?_
    · obtain ⟨a, ha, ra⟩ := rl.back hv
      exact ⟨a, by rw [List.getElem?_drop]; exact ha, p24.rep0 ra⟩
    · cases List.mem_singleton.mp hb; exact ⟨hit, wl.nz⟩
    · rcases List.mem_cons.mp hb with e | e
      · exact .inl (e ▸ List.mem_singleton_self _)
      · cases List.mem_singleton.mp e; exact .inr wl.zw
    · cases List.mem_singleton.mp hb; obtain ⟨o, _, ho, _⟩ := st.1.obj; exact ⟨o, ho⟩
    · obtain ⟨o, _, ho, hc, _⟩ := st.1.obj
      exact letGo_cls ht ho hc (by decide) q
    · rw [hgl, Nat.add_sub_cancel' hle] at st
      exact well_end R.handled st.1 st.2 fun h' hk sp => q h' (fun b o hb e => hk b o (fun q => hb (by rw [q]; exact List.mem_singleton_self _)) e) sp
    · rcases fo _ f with e | ⟨o, e⟩
      · exact hCD e.symm
      · rw [hDs] at e; cases e
    · cases List.mem_singleton.mp hb; rw [e, hD2] at hoit; cases hoit
    · cases List.mem_singleton.mp hb
      rcases fo _ f with e | ⟨o, e⟩
      · rw [e, hC2] at hoit; cases hoit
      · rw [hit] at e; cases e
    · show wpAny _ A (assign (.Name x px) env (.ref s.heap.objs.size)) _ _ _
      have L₁ := L₀.step0 p
      have spz : ¬ Z' it := hw it (List.mem_singleton_self _)
      refine wpAny_assign_Name (L₁.store (sv := .own ⟨none, l⟩) (a := s.heap.objs.size) p.inv hE (.inl hk) ⟨rfl, ws, hp, rs⟩ (fun l₀ e₀ => ⟨hz', I₀.fresh_b hDs, I₀.fresh_x hDs, (fun b h => by cases e₀; cases h), fun y l' _ hy e => ?_⟩) fun s₂ p₂ fo L₂ => ?_)
      · obtain ⟨o, ho⟩ := L₀.alive (.inr (.inr ⟨y, l', hy, rfl⟩))
        rw [e, hDs] at ho; cases ho
      · have hCf : ¬ FOwn env ρ α (s.heap.push { cls := .type "list", data := .seq #[] }).objs.size := fun f => by
          obtain ⟨o, ho⟩ := L₀.alive f; rw [hCs] at ho; cases ho
        have hCf₂ : ¬ FOwn env (ρ.set x (.own ⟨none, l⟩)) (setA α x s.heap.objs.size) (s.heap.push { cls := .type "list", data := .seq #[] }).objs.size := fun f => by
          rcases fo _ f with f | ⟨_, e⟩
          · exact hCf f
          · exact hCD e
        obtain ⟨o, es, ep, e, dd, rest⟩ := ns
        have ns₂ : s₂.heap.Ns (s.heap.push { cls := .type "list", data := .seq #[] }).objs.size m := ⟨o, es, ep, p₂.keep _ o (fun h => hCf h) e, dd, rest⟩
        refine ⟨m, ns₂, fun h' sb => ?_⟩
        have p₃ : Step W (.addrs (· ∈ [(s.heap.push { cls := .type "list", data := .seq #[] }).objs.size])) Z' s₂ Z' { s₂ with heap := h' } := .writes (tk := s₂.toks) p₂.inv (fun b o hb e => sb.extBut b o (fun q => hb (List.mem_singleton.mpr q)) e) (fun b hb => by cases List.mem_singleton.mp hb; exact ⟨I₀.fresh_b hCs, I₀.fresh_x hCs, hzC⟩)
        have L₃ := L₂.step p₃ fun b hb => by cases List.mem_singleton.mp hb; exact ⟨hCf₂, hzC⟩
        refine wpAny_pure (wpAny_pure (q0 hgeq _ Z' (setA α x s.heap.objs.size) ⟨(p.weak.trans p₂ (fun _ h => .inl h) (fun _ h => h.elim)).trans p₃ (fun b h => .inr (by cases List.mem_singleton.mp h; exact hCs)) (fun _ h => h.elim), fun b f => (fo b f).imp id fun ⟨_, e⟩ => e ▸ hDs, L₃⟩ ?_ spz))
        obtain ⟨oi, ii, hoi, ri⟩ := fin
        have hitC : it ≠ (s.heap.push { cls := .type "list", data := .seq #[] }).objs.size := fun e => by rw [e, hC2] at hoit; cases hoit
        exact ⟨oi, ii, sb.extBut _ _ hitC (p₂.keep _ _ (fun f => by obtain ⟨o, e⟩ := L₀.alive f; rw [hit] at e; cases e) hoi), ri⟩
    · exact wpAny_mono (q1 a ha _ s₆ Z₆ ρ₅ ρ₆ α₆ (capt_env hE hs _ rfl rel rfl rfl) rfl hC2 hP hT p L₆ (hsz ▸ st₆.1) (hw it (List.mem_singleton_self _))) (fun _ _ f => f) fun _ _ h => wpAny_mono h (fun _ _ h => h) fun _ _ h => h
end
end Mine
end
section
set_option linter.unusedVariables false
namespace Mine
noncomputable def Frames (h : Heap) (l : List Env) : Prop := ∀ env ∈ l, env.scope.kind ≠ .module ∧ ∃ L o, env.frame = some L ∧ h.get? L = some o ∧ ∀ vs, o.data ≠ .fields vs
theorem Frames.fun {h base : Heap} {l : List Env} (f : Frames h l) (hb : ∀ env ∈ l, ∀ L, env.frame = some L → base.get? L = none) : h.FunFrames base l := by
  induction l with
  | nil => trivial
  | cons env r ih =>
    obtain ⟨hk, L, o, hf, ho, hd⟩ := f env List.mem_cons_self
    exact ⟨hk, ⟨L, o, hf, hb env List.mem_cons_self L hf, ho, hd⟩, ih (fun e he => f e (List.mem_cons_of_mem _ he)) fun e he => hb e (List.mem_cons_of_mem _ he)⟩
theorem Frames.keep {h h' : Heap} {l : List Env} (f : Frames h l) (hk : ∀ env ∈ l, ∀ L o, env.frame = some L → (∀ vs, o.data ≠ .fields vs) → h.get? L = some o → h'.get? L = some o) : Frames h' l := fun env he => by
  obtain ⟨k, L, o, hf, ho, hd⟩ := f env he
  exact ⟨k, L, o, hf, hk env he L o hf hd ho, hd⟩
structure Gone (X : Addr → Prop) (s s' : Shared) : Prop where
  up : ∀ b o, ¬ X b → s.heap.get? b = some o → (∀ vs, o.data ≠ .fields vs) → ∃ sl, s'.heap.get? b = some { o with slots := sl }
  os : s'.os = s.os
  bare : AllBare s'.gens
  gens : ∀ (i : Nat) x, s.gens[i]? = some x → s'.gens[i]? = some x
  tk : 1 ≤ s'.toks
theorem Rest.gone {X : Addr → Prop} {s s' : Shared} (r : Rest s s') : Gone X s s' := ⟨fun b o _ e h => r.up b o e h, r.os, r.bare, r.gens, r.tk⟩
theorem Gone.up1 {X : Addr → Prop} {s s' : Shared} {h : Heap} (r : Gone X s s') (u : s'.heap.UpToSlots h) : Gone X s { s' with heap := h } :=
  ⟨fun b o hx e hn => by
    obtain ⟨sl, e1⟩ := r.up b o hx e hn
    obtain ⟨sl2, e2⟩ := u b _ e1 hn
    exact ⟨sl2, e2⟩, r.os, r.bare, r.gens, r.tk⟩
theorem Gone.same {C : Addr} {s s' : Shared} {h : Heap} (r : Gone (· = C) s s') (u : Heap.SameBut C s'.heap h) : Gone (· = C) s { s' with heap := h } :=
  ⟨fun b o hx e hn => by
    obtain ⟨sl, e1⟩ := r.up b o hx e hn
    exact ⟨sl, u.extBut b _ hx e1⟩, r.os, r.bare, r.gens, r.tk⟩
section
variable {W : Wd} {Z Z' Z₁ : AddrSet} {s s' s₁ : Shared} {env cenv : Env} {sc : Scope} {ρ ρ' : Slots} {α α' : Str → Addr} {A : Around} {d : Nat}
noncomputable def FrAt (C : Addr) (l : List Env) (b : Addr) : Prop := b = C ∨ ∃ env ∈ l, env.frame = some b
theorem elt_raise {x y : Str} {np yp pos : Pos} {f c : Addr} {fd : FuncData} {body : List Stmt} {v : Value} {self a : AV} {name : Str} {cls : String} {msg : Str} {outer : List Env} (k : FnS W f c fd body v self) (hb : ∀ s (vals : List Value), vals.length = [name].length → BindsTo s fd ⟨vals, []⟩ ([name].zip vals))
    (hl : ∀ x ∈ [name], fd.scope.names.lookup x = some .local) (hn : frz ∉ [name]) (R : Room A (d + 1)) (hE : EnvOk cenv sc) (I : Inv W Z s) (L : Loc W Z s.heap cenv ρ α) (hfa : FnAt f s.heap)
    (hx : getV ρ x = some (.raw (.ref f))) (hy : getV ρ y = some a) (hx1 : (x == ("__debug__" : Str)) = false) (hx2 : isPh x = false) (hy1 : (y == ("__debug__" : Str)) = false) (hy2 : isPh y = false)
    (hX : ∀ (env : Env) (A : Around) s₁, Room A d → EnvOk env fd.scope → Inv W Z s₁ → Loc W Z s₁.heap env ((bindA [name] [a]).set frz (.val self)) (fun _ => 0) → RaisesX W A env Z s₁ ((bindA [name] [a]).set frz (.val self)) (fun _ => 0) (execs body env) cls msg)
    (hfr : A.frames = some (env :: outer)) (hf : env.frame = some env.locals) (hcf : cenv.frame = env.frame) (hfl : Frames s.heap (env :: outer)) (hC : ∀ e ∈ env :: outer, e.frame ≠ some cenv.locals)
    {E' : Value → Shared → Prop} (q : ∀ e s' fl, Fly (maskH s.heap (FrAt cenv.locals (env :: outer))) (env :: outer) cls msg e fl s'.heap → Gone (· = cenv.locals) s s' → E' (.ref e) s') :
    wpAny W.M A (eval (.Call (.Name x np) [.Name y yp] [] pos) cenv) (fun _ _ => False) (notedBy W.M A cenv fun e s' => ∃ m, s'.heap.Ns cenv.locals m ∧ ∀ h', Heap.SameBut cenv.locals s'.heap h' → ∀ cenv' : Env, cenv'.locals = cenv.locals → wpAny W.M A (PySem.passOn "comprehension.variables-let-go" e cenv' : Sem Value) (fun _ _ => False) E' { s' with heap := h' }) s := by
  show wpAny W.M A (do callWith pos (← eval (.Name x np) cenv) [] (backTo pos (starEach [.Name y yp] cenv)) (backToKw pos (keywordEach [] cenv))) _ _ _
  refine wpAny_bind (wpAny_Name (L.load hE (getV_eq hx) (fun w r => ?_) hx2) hx1)
  have hw : w = .ref f := by
    have r' : RepV Z s.heap w (.raw (.ref f)) := r
    cases r'; rfl
  subst hw
  refine callWith_of (P := FnAt f) rfl keeps_F (evalArgs_ns rfl (wpAny_items_cons (wpAny_Name (L.load hE (getV_eq hy) (fun u ru => wpAny_items_nil ⟨hfa, ?_⟩) hy2) hy1)))
  have hmask : ∀ e ∈ env :: outer, ∀ L, e.frame = some L → (maskH s.heap (FrAt cenv.locals (env :: outer))).get? L = none := fun e he L h => maskH_in (.inr ⟨e, he, h⟩)
  refine clo_raise (vals := [] ++ [u]) (args := [a]) k hb hl hn R I (.cons ru .nil) rfl (fun env s₁ R' hE' I' L' => hX env _ s₁ R' hE' I' L') hfr (fun b o e => (maskH_some e).2) (hfl.fun hmask) fun e s' fly rest => ?_
  obtain ⟨m, ns, _⟩ := L.ns
  refine fly_note hfr hf hcf fly fun h' fl' fly' up => ?_
  refine ⟨m, (rest.up.trans up).ns ns, fun h'' sb cenv' hc' => ?_⟩
  have fly2 := fly'.same sb (maskH_in (.inl rfl)) ((rest.up.trans up).ns ns) hC
  exact fly_pass fly2 fun h3 fl3 fly3 up3 => q e _ fl3 fly3 (((rest.gone.up1 up).same sb).up1 up3)
end
end Mine
end
section
set_option linter.unusedVariables false
namespace Mine
section
variable {W : Wd} {Z Z' Z₁ : AddrSet} {s s' s₁ : Shared} {env cenv : Env} {sc : Scope} {ρ ρ' : Slots} {α α' : Str → Addr} {A : Around} {d : Nat}
noncomputable def noAt (s : Shared) (it : Addr) : Shared := { s with heap := maskH s.heap (· = it) }
theorem noAt_ne {it b : Addr} (h : b ≠ it) : (noAt s it).heap.get? b = s.heap.get? b := maskH_out (p := (· = it)) h
theorem noAt_self {it : Addr} : (noAt s it).heap.get? it = none := maskH_in (p := (· = it)) rfl
theorem noAt_some {it b : Addr} {o : Obj} (e : (noAt s it).heap.get? b = some o) : b ≠ it ∧ s.heap.get? b = some o := maskH_some (p := (· = it)) e
theorem noAt_none {it b : Addr} (e : (noAt s it).heap.get? b = none) : b = it ∨ s.heap.get? b = none := by
  by_cases h : b = it
  · exact .inl h
  · rw [noAt_ne h] at e; exact .inr e
theorem noAt_inv {it : Addr} (I : Inv W Z s) (hz : ¬ Z it) (hb : W.h₀.get? it = none) (hx : ¬ W.X it) : Inv W Z (noAt s it) :=
  ⟨I.ok, fun b o e x => (noAt_ne fun h => by rw [h, hb] at e; cases e).trans (I.base b o e x), fun b x => let ⟨o, e⟩ := I.xs b x; ⟨o, (noAt_ne (b := b) fun h => hx (by rw [← h]; exact x)).trans e⟩, fun a z => let ⟨o, e⟩ := I.zin a z; ⟨o, (noAt_ne (b := a) fun h => hz (by rw [← h]; exact z)).trans e⟩, I.os, I.bare, I.zx, I.z0, I.tk⟩
theorem noAt_step {it : Addr} (I : Inv W Z s) : Step W .none Z (noAt s it) Z s := ⟨I, fun b o _ e => (noAt_some e).2, fun _ z => z, fun _ z => .inl z, fun _ _ _ e => e⟩
theorem noAt_loc {it : Addr} (L : Loc W Z s.heap env ρ α) (hz : ¬ Z it) (hf : ¬ FOwn env ρ α it) : Loc W Z (noAt s it).heap env ρ α := by
  have kz : ∀ c o, Z c → s.heap.get? c = some o → (noAt s it).heap.get? c = some o := fun c o z e => (noAt_ne (b := c) fun h => hz (by rw [← h]; exact z)).trans e
  have kf : ∀ c o, FOwn env ρ α c → s.heap.get? c = some o → (noAt s it).heap.get? c = some o := fun c o f e => (noAt_ne (b := c) fun h => hf (by rw [← h]; exact f)).trans e
  have kc : ∀ x c o, env.cells.lookup x = some c → s.heap.get? c = some o → (noAt s it).heap.get? c = some o := fun x c o hc e => by
    by_cases q : x = frz
    · exact kz c o (L.slf c (q ▸ hc)) e
    · exact kf c o (.inr (.inl ⟨x, q, hc⟩)) e
  obtain ⟨m, ⟨o, es, ep, e, r⟩, hv⟩ := L.ns
  refine ⟨⟨m, ⟨o, es, ep, kf _ _ (.inl rfl) e, r⟩, fun x sv hx => ?_⟩, L.nz, L.nb, L.fix, L.inj, fun x c hc => ?_, L.cinj, L.slf⟩
  · obtain ⟨v, a, r⟩ := hv x sv hx
    refine ⟨v, a.mono kc, ?_⟩
    cases sv with
    | val av => exact RepV.mono (fun _ z => z) kz r
    | own l => obtain ⟨e, vs, ⟨n, hn⟩, rs⟩ := r; exact ⟨e, vs, ⟨n, kf _ _ (.inr (.inr ⟨x, l, hx, rfl⟩)) hn⟩, rs.mono (fun _ z => z) kz⟩
  · obtain ⟨v, o, e, dd⟩ := L.cell x c hc; exact ⟨v, o, kc x c o hc e, dd⟩
structure CompT where
  px : Pos
  np : Pos
  lp : Pos
  cp : Pos
  tp : Pos
  py : Pos
  pos : Pos
  spos : Pos
  scope : Scope
noncomputable def CompT.elt (c : CompT) : Expr := .Call (.Name "expand_tabs" c.np) [.Name "line" c.lp] [] c.cp
noncomputable def CompT.stmt (c : CompT) (x : Str) : Stmt := .Assign [.Name x c.px] (.ListComp c.elt [⟨.Name "line" c.tp, .Name x c.py, [], 0⟩] c.scope c.pos) c.spos
structure CompT.Ok (c : CompT) (sc : Scope) (x : Str) : Prop where
  hs : CompScope c.scope sc
  line : (relabelS c.scope sc).names.lookup ("line" : Str) = some .local
  fr : c.scope.names.lookup ("expand_tabs" : Str) = some .free
  hk : sc.names.lookup x = some .local
  hline : c.px.line = c.pos.line
  hany : (c.scope.names.any fun (n, k) => n == x && (k == .local || k == .cell)) = false
  h1 : (x == ("__debug__" : Str)) = false
  hn : isPh x = false
noncomputable def lineT : AV → Slots → Option Slots := fun a ρ => some (Slots.set ρ "line" (.val a))
noncomputable def eltF (f : Addr) (G : List AV → Option AV) : Slots → Option AV := fun ρ => getV ρ "expand_tabs" >>= fun v => locA f v ((getV ρ "line" >>= fun a => (some []) >>= fun l => some (a :: l)) >>= G)
noncomputable def holdsF (f : Addr) (ρ : Slots) : Prop := getV ρ "expand_tabs" = some (.raw (.ref f))
theorem elt_val {f : Addr} {G : List AV → Option AV} {ρ : Slots} {a c : AV} (hf : holdsF f ρ) (hl : getV ρ "line" = some a) (hG : G [a] = some c) : eltF f G ρ = some c := by
  unfold eltF
  rw [show getV ρ "expand_tabs" = some (.raw (.ref f)) from hf]
  rw [Option.bind_eq_bind, Option.bind_some, locA_hit, hl]
  exact hG
theorem line_keeps {f : Addr} {a : AV} {ρ ρ' : Slots} (h : holdsF f ρ) (e : lineT a ρ = some ρ') : holdsF f ρ' ∧ getV ρ' "line" = some a := by
  cases e
  exact ⟨h, rfl⟩
theorem comp_good {f : Addr} {G : List AV → Option AV} {H : AV → AV} : ∀ (items : List AV) (ρ : Slots), holdsF f ρ → (∀ a ∈ items, G [a] = some (H a)) → compA lineT (fun _ => some true) (eltF f G) items ρ = some (items.map H)
  | [], _, _, _ => rfl
  | a :: l, ρ, hf, hg => by
    obtain ⟨h1, h2⟩ := line_keeps (ρ' := Slots.set ρ "line" (.val a)) hf rfl
    show (some (Slots.set ρ "line" (.val a)) >>= fun ρ₁ => some true >>= fun b => if b = true then (eltF f G ρ₁ >>= fun x => (compA lineT (fun _ => some true) (eltF f G) l ρ₁).map (x :: ·)) else compA lineT (fun _ => some true) (eltF f G) l ρ₁) = _
    show (eltF f G (Slots.set ρ "line" (.val a)) >>= fun x => (compA lineT (fun _ => some true) (eltF f G) l (Slots.set ρ "line" (.val a))).map (x :: ·)) = _
    rw [elt_val h1 h2 (hg a List.mem_cons_self), comp_good l _ h1 fun b hb => hg b (List.mem_cons_of_mem _ hb)]
    rfl
theorem den_elt {c : CompT} {sc : Scope} {f : Addr} {G : List AV → Option AV} (hfa : ∀ Z s, Inv W Z s → FnAt f s.heap) (hF : FSpec W d (.ref f) G) : DenP W d sc c.elt (eltF f G) :=
  den_call_localx (by decide) (by decide) hfa (denPs_cons (den_name "line" _ (by decide) (by decide)) denPs_nil fun _ => rfl) (fun _ _ => rfl) hF fun _ => rfl
theorem comp_stmt {c : CompT} {x : Str} {f cc : Addr} {fd : FuncData} {body : List Stmt} {v : Value} {self : AV} {outer : List Env} {G : List AV → Option AV} {H : AV → AV} {b : List AV} {it w : Addr} {i₀ g : Nat} (hc : c.Ok sc x) (k : FnS W f cc fd body v self) (hb : ∀ s (vals : List Value), vals.length = [("line" : Str)].length → BindsTo s fd ⟨vals, []⟩ ([("line" : Str)].zip vals))
    (hl : ∀ x ∈ [("line" : Str)], fd.scope.names.lookup x = some .local) (hfa : ∀ Z s, Inv W Z s → FnAt f s.heap) (hF : FSpec W (d + 1) (.ref f) G) (R : Room A (d + 1)) (hE : EnvOk env sc) (I : Inv W Z s) (L : Loc W Z s.heap env ρ α) (hy : getV ρ x = some (.raw (.ref it))) (hex : holdsF f ρ) (wl : Well Z s.heap it w b i₀)
    (hbit : W.h₀.get? it = none) (hxit : ¬ W.X it) (hfit : ¬ FOwn env ρ α it) (hg : g ≤ (b.drop i₀).length) (hz : b.length ≤ 1000000) (hgood : ∀ a ∈ (b.drop i₀).take g, G [a] = some (H a))
    (hfr : A.frames = some (env :: outer)) (hf : env.frame = some env.locals) (hfl : Frames s.heap outer) (hfi : ∀ e ∈ env :: outer, e.frame ≠ some it) {Q : Flow → Shared → Prop} {E' : Value → Shared → Prop}
    (q0 : g = (b.drop i₀).length → ∀ s' Z' α', FStep W env Z (noAt s it) ρ α Z' s' (ρ.set x (.own ⟨none, ((b.drop i₀).take g).map H⟩)) α' → Spent s'.heap it → ¬ Z' it → Q .next s')
    (q1 : ∀ a, (b.drop i₀)[g]? = some a → ∃ cls msg, (∀ (env : Env) (A : Around) Z s₁, Room A d → EnvOk env fd.scope → Inv W Z s₁ → Loc W Z s₁.heap env ((bindA [("line" : Str)] [a]).set frz (.val self)) (fun _ => 0) → RaisesX W A env Z s₁ ((bindA [("line" : Str)] [a]).set frz (.val self)) (fun _ => 0) (execs body env) cls msg) ∧
      ∀ e s₆ Z₆ s' fl C, Step W .none Z (noAt s it) Z₆ s₆ → WellAt s₆.heap it w b.length (i₀ + (g + 1)) → s.heap.get? C = none → Fly (maskH s₆.heap (FrAt C (env :: outer))) (env :: outer) cls msg e fl s'.heap → Gone (· = C) s₆ s' → E' (.ref e) s') :
    wpAny W.M A (exec (c.stmt x) env) Q E' s := by
  have I₀ := noAt_inv I wl.nz hbit hxit
  have L₀ := noAt_loc L wl.nz hfit
  have hcap : holdsF f (capt c.scope ρ) := by
    unfold holdsF getV capt
    rw [if_pos hc.fr]
    exact hex
  refine assign_comp7 (T := lineT) (t := fun _ => some true) (f := eltF f G) (g := g) (Pρ := holdsF f) (l := ((b.drop i₀).take g).map H) hc.hs (tgc_name hc.line) ifs_nil (den_elt hfa hF) (.name _ _) (fun _ _ => rfl) hc.hk hc.hline hc.hany hc.h1 hc.hn R hE I₀ L₀ (noAt_step I) hy noAt_self wl hg hz
    (comp_good _ _ hcap hgood) hcap (fun a ρ ρ' h e => (line_keeps h e).1) (fun a ρ => ⟨_, rfl, rfl⟩) q0 fun a ha cenv s₆ Z₆ ρ₅ ρ₆ α₆ hEc hcf hCn hP hT p L₆ w₆ hz₆ => ?_
  obtain ⟨cls, msg, hX, hq⟩ := q1 a ha
  obtain ⟨h1, h2⟩ := line_keeps hP hT
  have keep : ∀ b o, b ≠ it → s.heap.get? b = some o → s₆.heap.get? b = some o := fun b o hb e => p.keep b o id ((noAt_ne hb).trans e)
  obtain ⟨m, ⟨oE, es, ep, eE, dE, _⟩, _⟩ := L.ns
  have hfl' : Frames s.heap (env :: outer) := fun e he => by
    rcases List.mem_cons.mp he with rfl | he
    · exact ⟨by rw [hE.kfn]; decide, _, oE, hf, eE, fun vs h => by rw [dE] at h; cases h⟩
    · exact hfl e he
  refine elt_raise k hb hl (by decide) R hEc p.inv L₆ (hfa _ _ p.inv) h1 h2 (by decide) (by decide) (by decide) (by decide) (fun env A s₁ => hX env A _ s₁) hfr hf hcf (hfl'.keep fun e he L o hL _ ho => keep L o (fun h => hfi e he (h ▸ hL)) ho) (fun e he h => ?_) fun e s' fl fly gone => hq e s₆ Z₆ s' fl cenv.locals p w₆ hCn fly gone
  obtain ⟨_, L', o', h1', h2', _⟩ := hfl' e he
  rw [h] at h1'; cases h1'
  rw [hCn] at h2'; cases h2'
end
end Mine
end
section
set_option linter.unusedVariables false
namespace Mine
section
variable {W W' : Wd} {Z Z' Z₁ Z₂ : AddrSet} {s s' s₁ s₂ r : Shared} {env cenv : Env} {sc : Scope} {ρ ρ' : Slots} {α α' : Str → Addr} {A : Around} {d : Nat} {M F : Addr → Prop} {P : Addr} {tpos : Pos} {qual : Str}
noncomputable def NoCode (h : Heap) (M : Addr → Prop) : Prop := ∀ a, M a → ∃ o vs, h.get? a = some o ∧ o.data = .fields vs ∧ ∀ q t, vs[1]? ≠ some (.str q t)
theorem TabAt.keepM {h h' : Heap} (x : TabAt P tpos qual h) (hM : NoCode h M) (hP : ¬ M P) (hk : ∀ b o vs, ¬ M b → o.data = .fields vs → h.get? b = some o → h'.get? b = some o) : TabAt P tpos qual h' := by
  obtain ⟨c', e, c₂, oc, vs, t, e2, hoc, hd, hv⟩ := x
  refine ⟨c', hk _ _ _ hP rfl e, c₂, oc, vs, t, e2, hk _ _ _ (fun m => ?_) hd hoc, hd, hv⟩
  obtain ⟨o, ws, ho, hw, hn⟩ := hM _ m
  rw [hoc] at ho; cases ho
  rw [hd] at hw; cases hw
  exact hn _ _ hv
structure Mid (W : Wd) (M : Addr → Prop) (P : Addr) (tpos : Pos) (qual : Str) (Z : AddrSet) (s : Shared) (Z' : AddrSet) (s' : Shared) (F : Addr → Prop) : Prop where
  keep : ∀ b o, ¬ W.X b → ¬ M b → s.heap.get? b = some o → s'.heap.get? b = some o
  zs : ∀ a, Z a → Z' a
  zn : ∀ a, Z' a → Z a ∨ s.heap.get? a = none
  fo : ∀ a, F a → s.heap.get? a = none
  nn : ∀ a, s'.heap.get? a = none → s.heap.get? a = none
  os : s'.os = s.os
  gens : ∀ (i : Nat) x, s.gens[i]? = some x → s'.gens[i]? = some x
  tab : TabAt P tpos qual s'.heap
  code : NoCode s'.heap M
theorem MkK.mid (k : MkK W P tpos qual Z s Z₁ s₂ F) (hc : NoCode s₂.heap M) : Mid W M P tpos qual Z s Z₁ s₂ F := ⟨fun b o hx _ e => k.keep b o hx e, k.zs, k.zn, k.fo, k.nn, k.os, k.gens, k.tab, hc⟩
theorem Mid.step {Z₃ : AddrSet} {s₃ : Shared} (k : Mid W M P tpos qual Z s Z₁ s₂ (FOwn env ρ α)) (L : Loc W' Z₁ s₂.heap env ρ α) (p : FStep W' env Z₁ r ρ α Z₃ s₃ ρ' α') (hr1 : ∀ b o, ¬ M b → s₂.heap.get? b = some o → r.heap.get? b = some o) (hr2 : ∀ b, r.heap.get? b = none → M b ∨ s₂.heap.get? b = none) (hro : r.os = s₂.os) (hrg : r.gens = s₂.gens) (hI : W'.os = s₂.os)
    (hc : NoCode s₃.heap M) (hz : ∀ a, M a → ¬ Z₃ a) (hP : ¬ M P) (hMs : ∀ a, M a → s.heap.get? a ≠ none) : Mid W M P tpos qual Z s Z₃ s₃ (FOwn env ρ' α') where
  keep b o hx hm e := p.step.keep b o (fun f => by have := k.fo b f; rw [e] at this; cases this) (hr1 b o hm (k.keep b o hx hm e))
  zs a z := p.step.zsub a (k.zs a z)
  zn a z := by
    rcases p.step.znew a z with h | h | h
    · exact k.zn a h
    · exact .inr (k.fo a h)
    · rcases hr2 a h with m | h
      · exact (hz a m z).elim
      · exact .inr (k.nn a h)
  fo a f := by
    rcases p.fo a f with h | h
    · exact k.fo a h
    · rcases hr2 a h with m | h
      · obtain ⟨o, vs, ho, hd, _⟩ := hc a m
        exact (p.loc.nofields f ho hd).elim
      · exact k.nn a h
  nn a e := by
    rcases p.step.none_back e with f | h
    · exact k.fo a f
    · rcases hr2 a h with m | h
      · obtain ⟨o, vs, ho, _⟩ := hc a m; rw [e] at ho; cases ho
      · exact k.nn a h
  os := (p.step.inv.os.trans hI).trans k.os
  gens i x e := p.step.gens i x id (hrg ▸ k.gens i x e)
  tab := k.tab.keepM k.code hP fun b o vs hm hd e => p.step.keep b o (fun f => L.nofields f e hd) (hr1 b o hm e)
  code := hc
theorem Mid.out (k : Mid W M P tpos qual Z s Z₁ s₂ F) (I : Inv W Z s) (I₂ : Inv W' Z₁ s₂) (hM : ∀ a, M a → W.h₀.get? a = none) (hX : ∀ a, W.X a → a = P) : Step W (.addrs fun b => W.X b ∨ M b) Z s Z₁ s₂ where
  inv := ⟨I.ok, fun b o e x => k.keep b o x (fun m => by rw [hM b m] at e; cases e) (I.base b o e x), fun b x => (let ⟨c', e, _⟩ := k.tab; ⟨_, hX b x ▸ e⟩), I₂.zin, k.os.trans I.os, I₂.bare, fun a z x => (by
    rcases k.zn a z with h | h
    · exact I.zx a h x
    · obtain ⟨o, e⟩ := I.xs a x; rw [h] at e; cases e), fun a z => k.zs a (I.z0 a z), I₂.tk⟩
  keep b o h e := k.keep b o (fun x => h (.inl x)) (fun m => h (.inr m)) e
  zsub := k.zs
  znew a z := (k.zn a z).imp id .inr
  gens i x _ e := k.gens i x e
structure Crash (W : Wd) (M : Addr → Prop) (P : Addr) (tpos : Pos) (qual : Str) (outer : List Env) (s : Shared) (base : Heap) (s' : Shared) : Prop where
  keep : ∀ b o, ¬ W.X b → ¬ M b → (∀ env ∈ outer, env.frame ≠ some b) → s.heap.get? b = some o → base.get? b = some o
  fr : ∀ env ∈ outer, ∀ L o, env.frame = some L → s.heap.get? L = some o → ∃ sl, s'.heap.get? L = some { o with slots := sl }
  os : s'.os = s.os
  bare : AllBare s'.gens
  gens : ∀ (i : Nat) x, s.gens[i]? = some x → s'.gens[i]? = some x
  tk : 1 ≤ s'.toks
  tab : TabAt P tpos qual base
theorem Mid.crash {C : Addr} {outer : List Env} {s₆ : Shared} {h' : Heap} (k : Mid W M P tpos qual Z s Z₁ s₂ F) (I₂ : s₂.os = s₆.os) (hg : ∀ (i : Nat) x, s₂.gens[i]? = some x → s₆.gens[i]? = some x) (hk : ∀ b o, ¬ M b → s₂.heap.get? b = some o → s₆.heap.get? b = some o) (hC : s₂.heap.get? C = none) (hF : F env.locals) (hf : env.frame = some env.locals) (hE : ∃ o, s₂.heap.get? env.locals = some o ∧ ∀ vs, o.data ≠ .fields vs) (hout : Frames s.heap outer) (hxo : ∀ e ∈ outer, ∀ L, e.frame = some L → ¬ W.X L ∧ ¬ M L) (hP : ¬ M P)
    (gone : Gone (· = C) s₆ s') (up : s'.heap.UpToSlots h') : Crash W M P tpos qual outer s (maskH s₆.heap (FrAt C (env :: outer))) { s' with heap := h' } := by
  have nC : s.heap.get? C = none := k.nn C hC
  have out2 : ∀ e ∈ outer, ∀ L, e.frame = some L → ∃ o, s₂.heap.get? L = some o ∧ ∀ vs, o.data ≠ .fields vs := fun e he L hL => by
    obtain ⟨_, L', o, h1, h2, h3⟩ := hout e he
    rw [hL] at h1; cases h1
    exact ⟨o, k.keep _ o (hxo e he _ hL).1 (hxo e he _ hL).2 h2, h3⟩
  refine ⟨fun b o hx hm hne e => ?_, fun e he L o hL ho => ?_, gone.os.trans (I₂.symm.trans k.os), gone.bare, fun i x e => gone.gens i x (hg i x (k.gens i x e)), gone.tk, k.tab.keepM k.code hP fun b o vs hm hd e => ?_⟩
  · rw [maskH_out]
    · exact hk b o hm (k.keep b o hx hm e)
    · rintro (h | ⟨e', he', h⟩)
      · rw [h, nC] at e; cases e
      · rcases List.mem_cons.mp he' with rfl | he'
        · rw [hf] at h; cases h
          rw [k.fo _ hF] at e; cases e
        · exact hne e' he' h
  · obtain ⟨_, L', o', h1, h2, h3⟩ := hout e he
    rw [hL] at h1; cases h1
    rw [ho] at h2; cases h2
    obtain ⟨sl, e1⟩ := gone.up L o (fun h => by
      have h : L = C := h
      rw [h, nC] at ho; cases ho) (hk L o (hxo e he L hL).2 (k.keep L o (hxo e he L hL).1 (hxo e he L hL).2 ho)) h3
    obtain ⟨sl2, e2⟩ := up L _ e1 h3
    exact ⟨sl2, e2⟩
  · rw [maskH_out]
    · exact hk b o hm e
    · rintro (h | ⟨e', he', h⟩)
      · rw [h, hC] at e; cases e
      · rcases List.mem_cons.mp he' with rfl | he'
        · rw [hf] at h; cases h
          obtain ⟨o', e1, h1⟩ := hE
          rw [e1] at e; cases e
          exact h1 _ hd
        · obtain ⟨o', e1, h1⟩ := out2 e' he' b h
          rw [e1] at e; cases e
          exact h1 _ hd
end
end Mine
end
section
set_option linter.unusedVariables false
namespace Mine
noncomputable def firstBad (bad : AV → Option (String × Str)) : List AV → Option (Nat × String × Str)
  | [] => none
  | a :: l => match bad a with
    | some w => some (0, w)
    | none => (firstBad bad l).map fun r => (r.1 + 1, r.2)
theorem firstBad_none {bad : AV → Option (String × Str)} : ∀ {l : List AV}, firstBad bad l = none → ∀ a ∈ l, bad a = none
  | [], _, a, h => by cases h
  | b :: l, h, a, ha => by
    unfold firstBad at h
    split at h
    · cases h
    · rename_i hb
      rcases List.mem_cons.mp ha with rfl | ha
      · exact hb
      · exact firstBad_none (Option.map_eq_none_iff.mp h) a ha
theorem firstBad_some {bad : AV → Option (String × Str)} : ∀ {l : List AV} {k : Nat} {w : String × Str}, firstBad bad l = some (k, w) → k < l.length ∧ (∃ a, l[k]? = some a ∧ bad a = some w) ∧ ∀ a ∈ l.take k, bad a = none
  | [], k, w, h => by cases h
  | b :: l, k, w, h => by
    unfold firstBad at h
    split at h
    · rename_i w' hb
      cases h
      exact ⟨Nat.succ_pos _, ⟨b, rfl, hb⟩, fun a ha => by cases ha⟩
    · rename_i hb
      obtain ⟨⟨k', w'⟩, h', e⟩ := Option.map_eq_some_iff.mp h
      cases e
      obtain ⟨h1, ⟨a, h2, h3⟩, h4⟩ := firstBad_some h'
      refine ⟨Nat.succ_lt_succ h1, ⟨a, h2, h3⟩, fun c hc => ?_⟩
      rw [List.take_succ_cons] at hc
      rcases List.mem_cons.mp hc with rfl | hc
      · exact hb
      · exact h4 c hc
noncomputable def goodLen (bad : AV → Option (String × Str)) (l : List AV) : Nat := match firstBad bad l with
  | some r => r.1
  | none => l.length
theorem goodLen_le {bad : AV → Option (String × Str)} (l : List AV) : goodLen bad l ≤ l.length := by
  unfold goodLen
  split
  · rename_i r h; exact Nat.le_of_lt (firstBad_some (w := r.2) (k := r.1) h).1
  · exact Nat.le_refl _
theorem goodLen_good {bad : AV → Option (String × Str)} {l : List AV} : ∀ a ∈ l.take (goodLen bad l), bad a = none := by
  unfold goodLen
  split
  · rename_i r h; exact (firstBad_some (w := r.2) (k := r.1) h).2.2
  · rename_i h; rw [List.take_length]; exact firstBad_none h
theorem goodLen_end {bad : AV → Option (String × Str)} {l : List AV} (h : goodLen bad l = l.length) : firstBad bad l = none := by
  cases e : firstBad bad l with
  | none => rfl
  | some r =>
    have := (firstBad_some (w := r.2) (k := r.1) e).1
    unfold goodLen at h; rw [e] at h
    exact absurd h (Nat.ne_of_lt this)
theorem goodLen_bad {bad : AV → Option (String × Str)} {l : List AV} {a : AV} (h : l[goodLen bad l]? = some a) : ∃ w, firstBad bad l = some (goodLen bad l, w) ∧ bad a = some w := by
  cases e : firstBad bad l with
  | none =>
    have : goodLen bad l = l.length := by unfold goodLen; rw [e]
    rw [this, List.getElem?_eq_none (Nat.le_refl _)] at h; cases h
  | some r =>
    obtain ⟨k, w⟩ := r
    have hg : goodLen bad l = k := by unfold goodLen; rw [e]
    rw [hg] at h
    obtain ⟨_, ⟨b, h1, h2⟩, _⟩ := firstBad_some e
    rw [h] at h1; cases h1
    exact ⟨w, by rw [hg], h2⟩
theorem Well.move {Z Z' : AddrSet} {h h' : Heap} {it w : Addr} {b : List AV} {i i' : Nat} (x : Well Z h it w b i) (hz : ∀ a, Z a → Z' a) (hk : ∀ a o, Z a → h.get? a = some o → h'.get? a = some o) (hn : ¬ Z' it) (hi : i' ≤ b.length) (ha : WellAt h' it w b.length i') : Well Z' h' it w b i' :=
  ⟨let ⟨vs, ⟨o, ho, r⟩, rs⟩ := x.lst; ⟨vs, ⟨o, hk _ _ x.zw ho, r⟩, rs.mono hz hk⟩, hz _ x.zw, hn, hi, ha⟩
section
variable {W : Wd} {Z Z' Z₁ : AddrSet} {s s' s₁ : Shared} {env cenv : Env} {sc : Scope} {ρ ρ' : Slots} {α α' : Str → Addr} {A : Around} {d : Nat}
structure RetT where
  p1 : Pos
  p2 : Pos
  k : Nat
  p3 : Pos
  p4 : Pos
noncomputable def RetT.stmt (r : RetT) : Stmt := .Return (some (.Tuple [.Name "fromlines" r.p1, .Name "tolines" r.p2] r.k r.p3)) r.p4
theorem den_ret {r : RetT} : DenSs W d sc [r.stmt] fun ρ => ((((getV ρ "fromlines" >>= fun a => (getV ρ "tolines" >>= fun b => some [] >>= fun l => some (b :: l)) >>= fun l => some (a :: l)) >>= fun l => if l.length ≤ 1000000 then some (.tup l) else none) >>= fun a => some (.ret a, ρ)) >>= thenA fun ρ => some (.next, ρ)) :=
  dens_cons (den_return (den_tuple (denPs_cons (den_name "fromlines" _ (by decide) (by decide)) (denPs_cons (den_name "tolines" _ (by decide) (by decide)) denPs_nil fun _ => rfl) fun _ => rfl))) dens_nil
theorem meth7 {m c P : Addr} {qual : Str} {fd : FuncData} {params : Arguments} {ibody : List Stmt} {iscope : Scope} {tpos : Pos} {cA cB : CompT} {rT : RetT} {self : AV} {it0 it1 w0 w1 : Addr} {b0 b1 : List AV} {i j : Nat} {vals : List Value} {FI : Slots → Option (AFlow × Slots)} {bad : AV → Option (String × Str)} {H : AV → AV} {outer : List Env}
    (k : MakerF W m c P qual fd ["self", "fromlines", "tolines"] "expand_tabs" params ibody iscope tpos [cA.stmt "fromlines", cB.stmt "tolines", rT.stmt] ["line"]) (okA : cA.Ok fd.scope "fromlines") (okB : cB.Ok fd.scope "tolines")
    (hX : ∀ a, W.X a ↔ a = P) (R : Room A (d + 2)) (I : Inv W Z s) (hT : (W.X P ∧ s.heap.get? P = some (tabObj #[])) ∨ TabAt P tpos qual s.heap) (hbu : s.heap.BuiltinsAt W.mg P) (hPg : mainGlobals ≠ P) (r : RepVs Z s.heap vals [self, .raw (.ref it0), .raw (.ref it1)])
    (wl0 : Well Z s.heap it0 w0 b0 i) (wl1 : Well Z s.heap it1 w1 b1 j) (hne : it0 ≠ it1) (hb : ∀ a, (a = it0 ∨ a = it1) → W.h₀.get? a = none ∧ ¬ W.X a) (hz0 : b0.length ≤ 1000) (hz1 : b1.length ≤ 1000)
    (hfr : A.frames = some outer) (hout : Frames s.heap outer) (hI : ∀ h₀ Z₀, DenSs (W.at h₀ Z₀) d iscope ibody FI)
    (hgood : ∀ a, (a ∈ b0 ∨ a ∈ b1) → bad a = none → ∃ ρ', FI ((bindA ["line"] [a]).set frz (.val self)) = some (.ret (H a), ρ'))
    (hbad : ∀ a w, (a ∈ b0 ∨ a ∈ b1) → bad a = some w → ∀ h₀ Z₀ (env : Env) (A : Around) Z s₁, Room A d → EnvOk env iscope → Inv (W.at h₀ Z₀) Z s₁ → Loc (W.at h₀ Z₀) Z s₁.heap env ((bindA ["line"] [a]).set frz (.val self)) (fun _ => 0) → RaisesX (W.at h₀ Z₀) A env Z s₁ ((bindA ["line"] [a]).set frz (.val self)) (fun _ => 0) (execs ibody env) w.1 w.2)
    {Q : Value → Shared → Prop} {E' : Value → Shared → Prop}
    (q0 : firstBad bad (b0.drop i) = none → firstBad bad (b1.drop j) = none → ∀ rv s' Z', Step W (.addrs fun b => W.X b ∨ (b = it0 ∨ b = it1)) Z s Z' s' → TabAt P tpos qual s'.heap → Well Z' s'.heap it0 w0 b0 b0.length → Well Z' s'.heap it1 w1 b1 b1.length → RepV Z' s'.heap rv (.tup [.lst ((b0.drop i).map H), .lst ((b1.drop j).map H)]) → Q rv s')
    (q1 : ∀ n w i' j', (firstBad bad (b0.drop i) = some (n, w) ∧ i' = i + (n + 1) ∧ j' = j) ∨ (firstBad bad (b0.drop i) = none ∧ firstBad bad (b1.drop j) = some (n, w) ∧ i' = b0.length ∧ j' = j + (n + 1)) →
      ∀ e s' base, Crash W (fun b => b = it0 ∨ b = it1) P tpos qual outer s base s' → Fly base outer w.1 w.2 e .none s'.heap → WellAt base it0 w0 b0.length i' → WellAt base it1 w1 b1.length j' → E' (.ref e) s') :
    wpAny W.M A (call (.ref m) vals) Q E' s := by
  have hM : ∀ a, (a = it0 ∨ a = it1) → ∃ o vs, s.heap.get? a = some o ∧ o.data = .fields vs ∧ ∀ q t, vs[1]? ≠ some (.str q t) := by
    rintro a (rfl | rfl)
    · obtain ⟨o, vs, h1, _, h2, h3⟩ := wl0.at'.obj; exact ⟨o, vs, h1, h2, h3⟩
    · obtain ⟨o, vs, h1, _, h2, h3⟩ := wl1.at'.obj; exact ⟨o, vs, h1, h2, h3⟩
  have hMz : ∀ a, (a = it0 ∨ a = it1) → ¬ Z a := by
    rintro a (rfl | rfl)
    · exact wl0.nz
    · exact wl1.nz
  have hMs : ∀ a, (a = it0 ∨ a = it1) → s.heap.get? a ≠ none := fun a h e => by obtain ⟨o, vs, h1, _⟩ := hM a h; rw [h1] at e; cases e
  have hPdat : ∃ o vs, s.heap.get? P = some o ∧ o.data = .fields vs := by
    rcases hT with ⟨_, h⟩ | ⟨c', h, _⟩
    · exact ⟨_, _, h, rfl⟩
    · exact ⟨_, _, h, rfl⟩
  have hxo : ∀ e ∈ outer, ∀ L, e.frame = some L → ¬ W.X L ∧ ¬ (L = it0 ∨ L = it1) := fun e he L hL => by
    obtain ⟨_, L', o, h1, h2, h3⟩ := hout e he
    rw [hL] at h1; cases h1
    refine ⟨fun x => ?_, fun hm => ?_⟩
    · obtain ⟨o', vs, e1, e2⟩ := hPdat
      rw [(hX L).mp x, e1] at h2; cases h2; exact h3 _ e2
    · obtain ⟨o', vs, e1, e2, _⟩ := hM L hm
      rw [e1] at h2; cases h2; exact h3 _ e2
  have hMP : ¬ (P = it0 ∨ P = it1) := fun h => (hb P h).2 ((hX P).mpr rfl)
  have hMd : ∀ e ∈ outer, ∀ it, (it = it0 ∨ it = it1) → e.frame ≠ some it := fun e he it hm h => (hxo e he it h).2 hm
  refine enter_makerM (M := fun b => b = it0 ∨ b = it1) k ⟨fun a h => (hb a h).1, hMz, fun a h => (hb a h).2, fun a h => (let ⟨o, vs, h1, h2, h3⟩ := hM a h; ⟨o, h1, fun vs' e => by rw [h2] at e; cases e; exact h3⟩)⟩ (fun a x => (hX a).mp x) R.lt I hT hbu hPg r rfl (me := self) rfl fun env h₀ Z₁ fn cs v fdI s₂ α₂ hE hf kS hsc hbi hfa I₂ L₂ hM0 K => ?_
  generalize hρ₂ : (bindA ["self", "fromlines", "tolines"] [self, .raw (.ref it0), .raw (.ref it1)]).set "expand_tabs" (.val (.raw (.ref fn))) = ρ₂ at L₂ K
  have g0 : getV ρ₂ "fromlines" = some (.raw (.ref it0)) := by subst hρ₂; rfl
  have g1 : getV ρ₂ "tolines" = some (.raw (.ref it1)) := by subst hρ₂; rfl
  have ge : holdsF fn ρ₂ := by subst hρ₂; rfl
  have spec := clo_spec (d := d) (names := ["line"]) kS hbi (by rw [hsc]; exact k.iloc) k.inot (by rw [hsc]; exact hI h₀ Z₁)
  have hgd : ∀ a, (a ∈ b0 ∨ a ∈ b1) → bad a = none → (fun as : List AV => if as.length = [("line" : Str)].length then (FI ((bindA ["line"] as).set frz (.val self))).map fun r => retA r.1 else none) [a] = some (H a) := fun a ha hb => by
    obtain ⟨ρ', h⟩ := hgood a ha hb
    show (if ([a] : List AV).length = 1 then (FI ((bindA ["line"] [a]).set frz (.val self))).map fun r => retA r.1 else none) = _
    exact (if_pos (rfl : ([a] : List AV).length = 1)).trans (by rw [h]; rfl)
  have hl : ∀ x ∈ [("line" : Str)], fdI.scope.names.lookup x = some .local := by rw [hsc]; exact k.iloc
  have hXa : ∀ a w, (a ∈ b0 ∨ a ∈ b1) → bad a = some w → ∀ (env : Env) (A : Around) Z s₁, Room A d → EnvOk env fdI.scope → Inv (W.at h₀ Z₁) Z s₁ → Loc (W.at h₀ Z₁) Z s₁.heap env ((bindA ["line"] [a]).set frz (.val self)) (fun _ => 0) → RaisesX (W.at h₀ Z₁) A env Z s₁ ((bindA ["line"] [a]).set frz (.val self)) (fun _ => 0) (execs ibody env) w.1 w.2 := by
    rw [hsc]
    exact fun a w ha hb env A Z s₁ => hbad a w ha hb h₀ Z₁ env A Z s₁
  have hNC : NoCode s₂.heap fun b => b = it0 ∨ b = it1 := fun a h => (let ⟨o, vs, h1, h2, h3⟩ := hM a h; ⟨o, vs, K.keep a o (hb a h).2 h1, h2, h3⟩)
  have mid₂ := K.mid hNC
  have kz : ∀ a o, Z a → s.heap.get? a = some o → s₂.heap.get? a = some o := fun a o z e => K.keep a o (I.zx a z) e
  have nz₁ : ∀ a, (a = it0 ∨ a = it1) → ¬ Z₁ a := fun a h z => (K.zn a z).elim (hMz a h) (hMs a h)
  have wA := wl0.mono K.zs kz (fun o e => K.keep _ o (hb _ (.inl rfl)).2 e) (nz₁ _ (.inl rfl))
  have wB := wl1.mono K.zs kz (fun o e => K.keep _ o (hb _ (.inr rfl)).2 e) (nz₁ _ (.inr rfl))
  have nf₂ : ∀ a, (a = it0 ∨ a = it1) → ¬ FOwn env ρ₂ α₂ a := fun a h f => hMs a h (K.fo a f)
  have hfr' : (A.deeper env).frames = some (env :: outer) := Around.frames_deeper hfr
  have out₂ : Frames s₂.heap outer := hout.keep fun e he L o hL _ ho => K.keep L o (hxo e he L hL).1 ho
  have hfi : ∀ it, (it = it0 ∨ it = it1) → ∀ e ∈ env :: outer, e.frame ≠ some it := fun it h e he hq => by
    rcases List.mem_cons.mp he with rfl | he
    · rw [hf] at hq; cases hq; exact nf₂ _ h (.inl rfl)
    · exact hMd e he it h hq
  have hEl : ∃ o, s₂.heap.get? env.locals = some o ∧ ∀ vs, o.data ≠ .fields vs := by
    obtain ⟨m, ⟨o, es, ep, e, d, _⟩, _⟩ := L₂.ns
    exact ⟨o, e, fun vs h => by rw [d] at h; cases h⟩
  have memA : ∀ {a : AV} {n : Nat}, (b0.drop i)[n]? = some a → a ∈ b0 ∨ a ∈ b1 := fun h => .inl (List.mem_of_mem_drop (List.mem_of_getElem? h))
  have memB : ∀ {a : AV} {n : Nat}, (b1.drop j)[n]? = some a → a ∈ b0 ∨ a ∈ b1 := fun h => .inr (List.mem_of_mem_drop (List.mem_of_getElem? h))
  refine wpAny_execs_cons (comp_stmt (W := W.at h₀ Z₁) (c := cA) (x := "fromlines") (H := H) (g := goodLen bad (b0.drop i)) okA kS hbi hl hfa spec (R.deeper env) hE I₂ L₂ g0 ge wA (hM0 _ (.inl rfl)) (fun h => h) (nf₂ _ (.inl rfl)) (goodLen_le _) (by (first | lia | omega)) (fun a ha => hgd a (.inl (List.mem_of_mem_drop (List.mem_of_mem_take ha))) (goodLen_good a ha)) hfr' hf out₂ (hfi _ (.inl rfl)) (fun hge s₃ Z₃ α₃ p₃ sp₃ nz₃ => ?_) fun a ha => ?_)
  · have hb0 := goodLen_end hge
    have l0 : (b0.drop i).take (goodLen bad (b0.drop i)) = b0.drop i := by rw [hge, List.take_length]
    rw [l0] at p₃
    have e1₃ : ∀ o, s₂.heap.get? it1 = some o → s₃.heap.get? it1 = some o := fun o e => p₃.step.keep _ o (nf₂ _ (.inr rfl)) ((noAt_ne (Ne.symm hne)).trans e)
    obtain ⟨oB, hoB⟩ := wB.alive
    have wt0 : WellAt s₃.heap it0 w0 b0.length b0.length := .inr ⟨rfl, sp₃⟩
    have wt1 := wB.at'.at e1₃
    have hNC₃ : NoCode s₃.heap fun b => b = it0 ∨ b = it1 := by
      rintro a (rfl | rfl)
      · obtain ⟨o, vs, h1, _, h2, h3⟩ := wt0.obj; exact ⟨o, vs, h1, h2, h3⟩
      · obtain ⟨o, vs, h1, _, h2, h3⟩ := wt1.obj; exact ⟨o, vs, h1, h2, h3⟩
    have nzM₃ : ∀ a, (a = it0 ∨ a = it1) → ¬ Z₃ a := by
      rintro a (rfl | rfl)
      · exact nz₃
      · exact p₃.step.nz (nz₁ _ (.inr rfl)) (nf₂ _ (.inr rfl)) ((noAt_ne (Ne.symm hne)).trans hoB)
    have mid₃ := mid₂.step L₂ p₃ (fun b o hm e => (noAt_ne fun h => hm (.inl h)).trans e) (fun b e => (noAt_none e).imp .inl id) rfl rfl I₂.os.symm hNC₃ nzM₃ hMP hMs
    have kz₃ : ∀ a o, Z₁ a → s₂.heap.get? a = some o → s₃.heap.get? a = some o := fun a o z e => p₃.step.keep a o (fun f => L₂.nz a f z) ((noAt_ne fun h => nz₁ a (.inl h) z).trans e)
    have wA₃ := wA.move p₃.step.zsub kz₃ nz₃ (Nat.le_refl _) wt0
    have wB₃ := wB.move p₃.step.zsub kz₃ (nzM₃ _ (.inr rfl)) wB.le wt1
    generalize hρ₃ : ρ₂.set "fromlines" (.own ⟨none, (b0.drop i).map H⟩) = ρ₃ at p₃ mid₃
    have g3 : getV ρ₃ "tolines" = some (.raw (.ref it1)) := by subst hρ₃; exact g1
    have ge3 : holdsF fn ρ₃ := by subst hρ₃; exact ge
    have L₃ := p₃.loc
    have nf₃ : ∀ a, (a = it0 ∨ a = it1) → ¬ FOwn env ρ₃ α₃ a := fun a h f => by
      obtain ⟨o, vs, h1, h2, _⟩ := hNC₃ a h
      exact L₃.nofields f h1 h2
    have out₃ : Frames s₃.heap outer := hout.keep fun e he L o hL _ ho => mid₃.keep L o (hxo e he L hL).1 (hxo e he L hL).2 ho
    have hEl₃ : ∃ o, s₃.heap.get? env.locals = some o ∧ ∀ vs, o.data ≠ .fields vs := by
      obtain ⟨m, ⟨o, es, ep, e, d, _⟩, _⟩ := L₃.ns
      exact ⟨o, e, fun vs h => by rw [d] at h; cases h⟩
    refine wpAny_execs_cons (comp_stmt (W := W.at h₀ Z₁) (c := cB) (x := "tolines") (H := H) (g := goodLen bad (b1.drop j)) okB kS hbi hl hfa spec (R.deeper env) hE p₃.step.inv L₃ g3 ge3 wB₃ (hM0 _ (.inr rfl)) (fun h => h) (nf₃ _ (.inr rfl)) (goodLen_le _) (by (first | lia | omega)) (fun a ha => hgd a (.inr (List.mem_of_mem_drop (List.mem_of_mem_take ha))) (goodLen_good a ha)) hfr' hf out₃ (hfi _ (.inr rfl)) (fun hge₂ s₄ Z₄ α₄ p₄ sp₄ nz₄ => ?_) fun a ha => ?_)
    · have hb1 := goodLen_end hge₂
      have l1 : (b1.drop j).take (goodLen bad (b1.drop j)) = b1.drop j := by rw [hge₂, List.take_length]
      rw [l1] at p₄
      obtain ⟨oA, hoA⟩ := wA₃.alive
      have wt0₄ : WellAt s₄.heap it0 w0 b0.length b0.length := wt0.at fun o e => p₄.step.keep _ o (nf₃ _ (.inl rfl)) ((noAt_ne hne).trans e)
      have wt1₄ : WellAt s₄.heap it1 w1 b1.length b1.length := .inr ⟨rfl, sp₄⟩
      have hNC₄ : NoCode s₄.heap fun b => b = it0 ∨ b = it1 := by
        rintro a (rfl | rfl)
        · obtain ⟨o, vs, h1, _, h2, h3⟩ := wt0₄.obj; exact ⟨o, vs, h1, h2, h3⟩
        · obtain ⟨o, vs, h1, _, h2, h3⟩ := wt1₄.obj; exact ⟨o, vs, h1, h2, h3⟩
      have nzM₄ : ∀ a, (a = it0 ∨ a = it1) → ¬ Z₄ a := by
        rintro a (rfl | rfl)
        · exact p₄.step.nz nz₃ (nf₃ _ (.inl rfl)) ((noAt_ne hne).trans hoA)
        · exact nz₄
      have mid₄ := mid₃.step L₃ p₄ (fun b o hm e => (noAt_ne fun h => hm (.inr h)).trans e) (fun b e => (noAt_none e).imp .inr id) rfl rfl p₃.step.inv.os.symm hNC₄ nzM₄ hMP hMs
      have kz₄ : ∀ a o, Z₃ a → s₃.heap.get? a = some o → s₄.heap.get? a = some o := fun a o z e => p₄.step.keep a o (fun f => L₃.nz a f z) ((noAt_ne fun h => nzM₃ a (.inr h) z).trans e)
      have wA₄ := wA₃.move p₄.step.zsub kz₄ (nzM₄ _ (.inl rfl)) (Nat.le_refl _) wt0₄
      have wB₄ := wB₃.move p₄.step.zsub kz₄ nz₄ (Nat.le_refl _) wt1₄
      have L₄ := p₄.loc
      have nf₄ : ∀ a, (a = it0 ∨ a = it1) → ¬ FOwn env (ρ₃.set "tolines" (.own ⟨none, (b1.drop j).map H⟩)) α₄ a := fun a h f => by
        obtain ⟨o, vs, h1, h2, _⟩ := hNC₄ a h
        exact L₄.nofields f h1 h2
      obtain ⟨Z₅, pf⟩ := L₄.freeze "fromlines" p₄.step.inv
      obtain ⟨Z₆, pf'⟩ := pf.loc.freeze "tolines" pf.step.inv
      refine den_ret (A.deeper env) env Z₆ s₄ _ α₄ (.ret (.tup [.lst ((b0.drop i).map H), .lst ((b1.drop j).map H)])) (freeze "tolines" (freeze "fromlines" (ρ₃.set "tolines" (.own ⟨none, (b1.drop j).map H⟩)))) (R.deeper env) hE pf'.step.inv pf'.loc (by subst hρ₃; rfl) _ _ fun fl s₅ Z₇ α₅ p₅ r₅ => ?_
      cases fl <;> try exact r₅.elim
      have pp := (pf.trans pf').trans p₅
      have hNC₅ : NoCode s₅.heap fun b => b = it0 ∨ b = it1 := fun a h => (let ⟨o, vs, h1, h2, h3⟩ := hNC₄ a h; ⟨o, vs, pp.step.keep a o (nf₄ a h) h1, h2, h3⟩)
      have nzM₅ : ∀ a, (a = it0 ∨ a = it1) → ¬ Z₇ a := fun a h => (let ⟨o, vs, h1, h2, h3⟩ := hNC₄ a h; pp.step.nz (nzM₄ a h) (nf₄ a h) h1)
      have mid₅ := mid₄.step L₄ pp (fun _ _ _ e => e) (fun _ e => .inr e) rfl rfl p₄.step.inv.os.symm hNC₅ nzM₅ hMP hMs
      have kz₅ : ∀ a o, Z₄ a → s₄.heap.get? a = some o → s₅.heap.get? a = some o := fun a o z e => pp.step.keep a o (fun f => L₄.nz a f z) e
      exact q0 hb0 hb1 _ s₅ Z₇ (mid₅.out I pp.step.inv (fun a h => (hb a h).1) fun a x => (hX a).mp x) mid₅.tab (wA₄.move pp.step.zsub kz₅ (nzM₅ _ (.inl rfl)) (Nat.le_refl _) (wt0₄.at fun o e => pp.step.keep _ o (nf₄ _ (.inl rfl)) e)) (wB₄.move pp.step.zsub kz₅ (nzM₅ _ (.inr rfl)) (Nat.le_refl _) (wt1₄.at fun o e => pp.step.keep _ o (nf₄ _ (.inr rfl)) e)) r₅
    · obtain ⟨w, hfb, hba⟩ := goodLen_bad ha
      refine ⟨w.1, w.2, hXa a w (memB ha) hba, fun e s₆ Z₆ s' fl C p₆ w₆ hC fly gone => ?_⟩
      refine fly_leave hfr' hf fly fun h' fly' up => ?_
      have kp : ∀ b o, ¬ (b = it0 ∨ b = it1) → s₃.heap.get? b = some o → s₆.heap.get? b = some o := fun b o hm e => p₆.keep b o id ((noAt_ne fun h => hm (.inr h)).trans e)
      have msk : ∀ it o, (it = it0 ∨ it = it1) → s₆.heap.get? it = some o → (maskH s₆.heap (FrAt C (env :: outer))).get? it = some o := fun it o hm e => by
        rw [maskH_out]
        · exact e
        · rintro (h | ⟨e', he', h⟩)
          · obtain ⟨o', vs, h1, _⟩ := hNC₃ it hm; rw [h, hC] at h1; cases h1
          · exact hfi it hm e' he' h
      refine q1 (goodLen bad (b1.drop j)) w _ _ (.inr ⟨hb0, hfb, rfl, rfl⟩) e _ _ (mid₃.crash (p₃.step.inv.os.trans p₆.inv.os.symm) (fun i x e => p₆.gens i x id e) kp hC (.inl rfl) hf hEl₃ hout hxo hMP gone up) fly' ?_ (w₆.at fun o => msk _ o (.inr rfl))
      refine (wt0.at fun o e => ?_).at fun o => msk _ o (.inl rfl)
      exact p₆.keep _ o id ((noAt_ne hne).trans e)
  · obtain ⟨w, hfb, hba⟩ := goodLen_bad ha
    refine ⟨w.1, w.2, hXa a w (memA ha) hba, fun e s₆ Z₆ s' fl C p₆ w₆ hC fly gone => ?_⟩
    refine fly_leave hfr' hf fly fun h' fly' up => ?_
    have kp : ∀ b o, ¬ (b = it0 ∨ b = it1) → s₂.heap.get? b = some o → s₆.heap.get? b = some o := fun b o hm e => p₆.keep b o id ((noAt_ne fun h => hm (.inl h)).trans e)
    have msk : ∀ it o, (it = it0 ∨ it = it1) → s₂.heap.get? C = none → s₆.heap.get? it = some o → (maskH s₆.heap (FrAt C (env :: outer))).get? it = some o := fun it o hm hC e => by
      rw [maskH_out]
      · exact e
      · rintro (h | ⟨e', he', h⟩)
        · obtain ⟨o', vs, h1, _⟩ := hNC it hm; rw [h, hC] at h1; cases h1
        · exact hfi it hm e' he' h
    refine q1 (goodLen bad (b0.drop i)) w _ _ (.inl ⟨hfb, rfl, rfl⟩) e _ _ (mid₂.crash (I₂.os.trans p₆.inv.os.symm) (fun i x e => p₆.gens i x id e) kp hC (.inl rfl) hf hEl hout hxo hMP gone up) fly' (w₆.at fun o => msk _ o (.inl rfl) hC) ?_
    refine (wB.at'.at fun o e => ?_).at fun o => msk _ o (.inr rfl) hC
    exact p₆.keep _ o id ((noAt_ne (Ne.symm hne)).trans e)
end
end Mine
end
section
set_option linter.unusedVariables false
namespace Mine
section
variable {W : Wd} {Z Z' Z₁ : AddrSet} {s s' s₁ : Shared} {h' base : Heap} {env : Env} {sc : Scope} {ρ ρ' : Slots} {α α' : Str → Addr} {A : Around} {d : Nat} {M : Addr → Prop} {P e : Addr} {tpos : Pos} {qual : Str} {cls : String} {msg : Str} {fl : Value}
theorem Loc.through (L : Loc W Z s.heap env ρ α) (kz : ∀ a o, Z a → s.heap.get? a = some o → h'.get? a = some o) (kf : ∀ a o, FOwn env ρ α a → a ≠ env.locals → s.heap.get? a = some o → h'.get? a = some o) (hl : ∀ o, s.heap.get? env.locals = some o → ∃ sl, h'.get? env.locals = some { o with slots := sl }) : Loc W Z h' env ρ α := by
  obtain ⟨m, ns, hv⟩ := L.ns
  have kc : ∀ x c o, env.cells.lookup x = some c → s.heap.get? c = some o → h'.get? c = some o := fun x c o hc e => by
    by_cases q : x = frz
    · exact kz c o (L.slf c (q ▸ hc)) e
    · obtain ⟨w, hw⟩ := L.cell x c hc
      exact kf c o (.inr (.inl ⟨x, q, hc⟩)) (ns_cell hw ns) e
  refine ⟨⟨m, ?_, fun x sv hx => ?_⟩, L.nz, L.nb, L.fix, L.inj, fun x c hc => ?_, L.cinj, L.slf⟩
  · obtain ⟨o, es, ep, e, d, r⟩ := ns
    obtain ⟨sl, e'⟩ := hl o e
    exact ⟨_, es, ep, e', d, r⟩
  · obtain ⟨v, a, r⟩ := hv x sv hx
    refine ⟨v, a.mono kc, ?_⟩
    cases sv with
    | val av => exact RepV.mono (fun _ z => z) kz r
    | own l =>
      obtain ⟨e, vs, ⟨n, hn⟩, rs⟩ := r
      refine ⟨e, vs, ⟨n, kf _ _ (.inr (.inr ⟨x, l, hx, rfl⟩)) (fun q => ?_) hn⟩, rs.mono (fun _ z => z) kz⟩
      obtain ⟨o, es, ep, e2, d2, _⟩ := ns
      rw [q, e2] at hn; cases hn; cases d2
  · obtain ⟨v, o, e, dd⟩ := L.cell x c hc; exact ⟨v, o, kc x c o hc e, dd⟩
theorem Loc.goes {x : Str} {v : Option Value} {m : Str → Option Value} (L : Loc W Z s.heap env ρ α) (hns : s.heap.Ns env.locals m) (ns' : h'.Ns env.locals fun y => if y = x then v else m y) (sb : Heap.SameBut env.locals s.heap h') (hsub : ∀ y sv, ρ' y = some sv → y ≠ x ∧ ρ y = some sv) : Loc W Z h' env ρ' α := by
  obtain ⟨m₀, ns₀, hv⟩ := L.ns
  have hm : m₀ = m := by
    obtain ⟨o, es, ep, e, d, _, h1⟩ := ns₀
    obtain ⟨o2, es2, ep2, e2, d2, _, h2⟩ := hns
    rw [e] at e2; cases e2
    rw [d] at d2; cases d2
    funext y; rw [← h1 y, h2 y]
  subst hm
  have fb : FOwn env ρ α env.locals := .inl rfl
  have kz : ∀ a o, Z a → s.heap.get? a = some o → h'.get? a = some o := fun a o z e => sb.extBut a o (fun q => L.nz _ fb (q ▸ z)) e
  have fo : ∀ a, FOwn env ρ' α a → FOwn env ρ α a := fun a f => f.imp id (·.imp id fun ⟨y, l, hy, e⟩ => ⟨y, l, (hsub y _ hy).2, e⟩)
  have kc : ∀ x c o, env.cells.lookup x = some c → s.heap.get? c = some o → h'.get? c = some o := fun x c o hc e => by
    obtain ⟨w, hw⟩ := L.cell x c hc
    exact sb.extBut c o (ns_cell hw ns₀) e
  refine ⟨⟨_, ns', fun y sv hy => ?_⟩, fun a f => L.nz a (fo a f), fun a f => L.nb a (fo a f), fun y l b hy => L.fix y l b (hsub y _ hy).2, fun y z l l' hy hz => L.inj y z l l' (hsub y _ hy).2 (hsub z _ hz).2, fun y c hc => ?_, L.cinj, L.slf⟩
  · obtain ⟨hne, hy⟩ := hsub y sv hy
    obtain ⟨w, a, r⟩ := hv y sv hy
    refine ⟨w, ?_, ?_⟩
    · rcases a with ⟨k, e⟩ | ⟨k, c, hc, o, ho, hd⟩ | k
      · exact .inl ⟨k, (if_neg hne).trans e⟩
      · exact .inr (.inl ⟨k, c, hc, o, kc y c o hc ho, hd⟩)
      · exact .inr (.inr k)
    · cases sv with
      | val av => exact RepV.mono (fun _ z => z) kz r
      | own l =>
        obtain ⟨e, vs, ⟨n, hn⟩, rs⟩ := r
        refine ⟨e, vs, ⟨n, sb.extBut _ _ (fun q => ?_) hn⟩, rs.mono (fun _ z => z) kz⟩
        obtain ⟨o, es, ep, e2, d2, _⟩ := ns₀
        rw [q, e2] at hn; cases hn; cases d2
  · obtain ⟨w, o, e, dd⟩ := L.cell y c hc; exact ⟨w, o, kc y c o hc e, dd⟩
structure Landed (W : Wd) (M : Addr → Prop) (P : Addr) (tpos : Pos) (qual : Str) (env : Env) (s : Shared) (base : Heap) (cls : String) (msg : Str) (e : Addr) (fl : Value) (s' : Shared) : Prop where
  crash : Crash W M P tpos qual [env] s base s'
  fly : Fly base [env] cls msg e fl s'.heap
theorem Landed.up {fl' : Value} (x : Landed W M P tpos qual env s base cls msg e fl s') (y : Fly base [env] cls msg e fl' h') (u : s'.heap.UpToSlots h') (hf : ∃ L o, env.frame = some L ∧ s.heap.get? L = some o ∧ ∀ vs, o.data ≠ .fields vs) : Landed W M P tpos qual env s base cls msg e fl' { s' with heap := h' } :=
  ⟨⟨x.crash.keep, fun env' he L o hL ho => (by
    obtain ⟨sl, e1⟩ := x.crash.fr env' he L o hL ho
    cases List.mem_singleton.mp he
    obtain ⟨L', o', h1, h2, h3⟩ := hf
    rw [hL] at h1; cases h1
    rw [ho] at h2; cases h2
    obtain ⟨sl2, e2⟩ := u L _ e1 h3
    exact ⟨sl2, e2⟩), x.crash.os, x.crash.bare, x.crash.gens, x.crash.tk, x.crash.tab⟩, y⟩
theorem Landed.keep (x : Landed W M P tpos qual env s base cls msg e fl s') (hf : env.frame = some env.locals) {b : Addr} {o : Obj} (hx : ¬ W.X b) (hm : ¬ M b) (hl : b ≠ env.locals) (e : s.heap.get? b = some o) : s'.heap.get? b = some o :=
  x.fly.stays b o (x.crash.keep b o hx hm (fun env' he h => by cases List.mem_singleton.mp he; rw [hf] at h; cases h; exact hl rfl) e)
theorem Landed.inv (x : Landed W M P tpos qual env s base cls msg e fl s') (I : Inv W Z s) (L : Loc W Z s.heap env ρ α) (hf : env.frame = some env.locals) (hX : ∀ a, W.X a → a = P) (hM : ∀ a, M a → W.h₀.get? a = none ∧ ¬ Z a) : Inv W Z s' :=
  ⟨I.ok, fun b o e hx => x.keep hf hx (fun m => by rw [(hM b m).1] at e; cases e) (fun h => by rw [h, (L.nb _ (.inl rfl)).1] at e; cases e) (I.base b o e hx), fun b hx => (let ⟨c', h, _⟩ := x.crash.tab; ⟨_, hX b hx ▸ x.fly.stays _ _ h⟩),
    fun a z => (let ⟨o, h⟩ := I.zin a z; ⟨o, x.keep hf (I.zx a z) (fun m => (hM a m).2 z) (fun h => L.nz _ (.inl rfl) (h ▸ z)) h⟩), x.crash.os.trans I.os, x.crash.bare, I.zx, I.z0, x.crash.tk⟩
theorem Landed.loc (x : Landed W M P tpos qual env s base cls msg e fl s') (I : Inv W Z s) (L : Loc W Z s.heap env ρ α) (hf : env.frame = some env.locals) (hM : ∀ a, M a → ¬ Z a ∧ ¬ FOwn env ρ α a) : Loc W Z s'.heap env ρ α :=
  L.through (fun a o z h => x.keep hf (I.zx a z) (fun m => (hM a m).1 z) (fun h => L.nz _ (.inl rfl) (h ▸ z)) h) (fun a o f hl h => x.keep hf (L.nb a f).2 (fun m => (hM a m).2 f) hl h) fun o h => x.crash.fr env List.mem_cons_self _ o hf h
end
end Mine
end
section
set_option linter.unusedVariables false
namespace Mine
structure HandT where
  a1 : Pos
  a2 : Pos
  a3 : Pos
  a4 : Pos
  a5 : Pos
  a6 : Pos
  a7 : Pos
  k : Nat
noncomputable def HandT.stmt (h : HandT) (pre : Str) : Stmt := .Assign [.Name "told" h.a1] (.BinOp (.Constant (.str pre) h.k h.a2) .Add (.Call (.Name "str" h.a3) [.Name "fault" h.a4] [] h.a5) h.a6) h.a7
section
variable {W : Wd} {Z Z' Z₁ : AddrSet} {s s' s₁ : Shared} {h' base : Heap} {env : Env} {sc : Scope} {ρ ρ' : Slots} {α α' : Str → Addr} {A : Around} {d : Nat} {M : Addr → Prop} {P e : Addr} {tpos : Pos} {qual : Str} {cls : String} {msg : Str} {fl : Value}
structure Turn (W : Wd) (M : Addr → Prop) (env : Env) (Z : AddrSet) (s : Shared) (ρ : Slots) (α : Str → Addr) (Z' : AddrSet) (s' : Shared) (ρ' : Slots) (α' : Str → Addr) : Prop where
  step : Step W (.addrs fun b => W.X b ∨ M b ∨ FOwn env ρ α b) Z s Z' s'
  fo : ∀ a, FOwn env ρ' α' a → FOwn env ρ α a ∨ s.heap.get? a = none
  loc : Loc W Z' s'.heap env ρ' α'
theorem hand_suite {ht : HandT} {pre : Str} {sid : String} {hpos : Pos} {Q : Flow → Shared → Prop} {E Ex Ex' Ex'' : Value → Shared → Prop} (hgs : W.Glob "str" (.type "str")) (hks : sc.names.lookup ("str" : Str) = some .globalImplicit) (FX : StrX cls sid) (hE : EnvOk env sc) (hkt : sc.names.lookup ("told" : Str) = some .local) (hkf : sc.names.lookup ("fault" : Str) = some .local) (hu : A.units + 2 < cLine) (hf : env.frame = some env.locals)
    (I : Inv W Z s) (L : Loc W Z s.heap env ρ α) (hX : ∀ a, W.X a → a = P) (hM : ∀ a, M a → W.h₀.get? a = none ∧ ¬ Z a ∧ ¬ FOwn env ρ α a) (x : Landed W M P tpos qual env s base cls msg e fl s₁) (hlen : pre.length + msg.length ≤ 16777216) (hnf : ρ "fault" = none)
    (q : ∀ s' α', Turn W M env Z s ρ α Z s' (ρ.set "told" (.val (.str (pre ++ msg)))) α' → (∀ b o, b ≠ env.locals → base.get? b = some o → s'.heap.get? b = some o) → Q .next s') :
    wpAny W.M (A.mark (some (.ref e))) (setFlight (.ref e) none) (fun _ s₂ => wpAny W.M (A.mark (some (.ref e))) (storeName env "fault" (.ref e)) (fun _ s₃ => wpAny W.M (A.mark (some (.ref e))) (execs [ht.stmt pre] env)
      (fun f s₄ => wpAny W.M A (do bindName env "fault" .none; unbindBehindTheSuite env "fault" hpos) (fun _ s₅ => Q f s₅) E s₄) Ex s₃) Ex' s₂) Ex'' s₁ := by
  obtain ⟨m₀, ⟨oE, esE, epE, eE, dE, rE⟩, hv₀⟩ := L.ns
  have hEl : ∃ L o, env.frame = some L ∧ s.heap.get? L = some o ∧ ∀ vs, o.data ≠ .fields vs := ⟨_, oE, hf, eE, fun vs h => by rw [dE] at h; cases h⟩
  refine fly_set x.fly fun h₂ y up => ?_
  have x2 := x.up y up hEl
  have I2 := x2.inv I L hf hX fun a m => ⟨(hM a m).1, (hM a m).2.1⟩
  have L2 := x2.loc I L hf fun a m => ⟨(hM a m).2.1, (hM a m).2.2⟩
  obtain ⟨t, u, xe, xt⟩ := y.exc
  refine L2.store' (sv := .val (.raw (.ref e))) (a := α "fault") I2 hE (.inl hkf) (.raw _) (fun l e => by cases e) fun s₃ c fc hc p₃ fo₃ L₃ => ?_
  have hc := hc hkf
  subst hc
  have hel : e ≠ env.locals ∧ t ≠ env.locals := by
    obtain ⟨m, ⟨o, es, ep, e0, d0, _⟩, _⟩ := L2.ns
    obtain ⟨oe, vs, h1, _, h2, _⟩ := xe
    obtain ⟨ot, n, h3, _, h4⟩ := xt
    exact ⟨fun q => (by rw [q, e0] at h1; cases h1; rw [d0] at h2; cases h2), fun q => (by rw [q, e0] at h3; cases h3; rw [d0] at h4; cases h4)⟩
  have xe₃ : s₃.heap.ExcAt e cls (.ref t) := let ⟨oe, vs, h1, r⟩ := xe; ⟨oe, vs, p₃.keep _ _ (fun h => hel.1 h) h1, r⟩
  have xt₃ : s₃.heap.TupAt t [.str msg u] := let ⟨ot, n, h1, r⟩ := xt; ⟨ot, n, p₃.keep _ _ (fun h => hel.2 h) h1, r⟩
  have fo3 : ∀ b, FOwn env (ρ.set "fault" (.val (.raw (.ref e)))) (setA α "fault" (α "fault")) b → FOwn env ρ α b := fun b f => (fo₃ b f).elim id fun ⟨⟨l, h⟩, _⟩ => by cases h
  have gF : (ρ.set "fault" (.val (.raw (.ref e)))) "fault" = some (.val (.raw (.ref e))) := rfl
  generalize hρ₃ : ρ.set "fault" (.val (.raw (.ref e))) = ρ₃ at L₃ fo3 gF
  refine wpAny_execs_cons (wpAny_Assign_Name (wpAny_BinOp (wpAny_Constant_str ?_)) rfl)
  have p₄ : Step W .none Z s₃ Z { s₃ with toks := s₃.toks + 1 } := .toks p₃.inv _
  show wpAny _ _ (do callWith ht.a5 (← eval (.Name "str" ht.a3) env) [] (backTo ht.a5 (starEach [.Name "fault" ht.a4] env)) (backToKw ht.a5 (keywordEach [] env))) _ _ _
  refine wpAny_bind (load_glob hE p₄.inv hgs hks (by decide) (callWith_of (P := W.K.In) rfl (keep_type "str") (evalArgs_ns rfl (wpAny_items_cons (wpAny_Name (Loc.load (s := { s₃ with toks := s₃.toks + 1 }) L₃ hE gF (fun w rw' => wpAny_items_nil ⟨p₄.inv.kin, ?_⟩) (by decide)) (by decide))))))
  have hw : w = .ref e := by
    have r' : RepV Z s₃.heap w (.raw (.ref e)) := rw'
    cases r'; rfl
  subst hw
  refine str_of_x (A := A.mark (some (.ref e))) FX hu (t0 := t) xe₃ xt₃ ?_
  refine wpAny_with_toks (Nat.le_refl _) (add_str (fun t' tk => fun (htk : s₃.toks + 1 ≤ tk) => ?_) hlen)
  have p₅ : Step W .none Z { s₃ with toks := s₃.toks + 1 } Z { s₃ with toks := tk } := .toks p₄.inv tk htk
  refine Loc.store' (s := { s₃ with toks := tk }) (sv := .val (.str (pre ++ msg))) (a := setA α "fault" (α "fault") "told") p₅.inv L₃ hE (.inl hkt) (.str _ _) (fun l e => by cases e) fun s₆ c₆ fc₆ hc₆ p₆ fo₆ L₆ => ?_
  have hc₆ := hc₆ hkt
  subst hc₆
  refine wpAny_execs_nil ?_
  obtain ⟨m₆, ns₆, hv₆⟩ := L₆.ns
  have hkk : env.kindOf "fault" = some .local := (hE.kind _).trans hkf
  refine wpAny_nameGoes_keeps hkk ns₆ (by rw [hE.kfn]; rfl) fun h₇ v₇ ns₇ sb₇ => ?_
  have fo6 : ∀ b, FOwn env (ρ₃.set "told" (.val (.str (pre ++ msg)))) (setA (setA α "fault" (α "fault")) "told" (setA α "fault" (α "fault") "told")) b → FOwn env ρ α b := fun b f => (fo₆ b f).elim (fo3 b) fun ⟨⟨l, h⟩, _⟩ => by cases h
  have hsub : ∀ y sv, (ρ.set "told" (.val (.str (pre ++ msg)))) y = some sv → y ≠ "fault" ∧ (ρ₃.set "told" (.val (.str (pre ++ msg)))) y = some sv := fun y sv hy => by
    subst hρ₃
    unfold Slots.set at hy ⊢
    by_cases h1 : y = "told"
    · rw [if_pos h1] at hy ⊢
      exact ⟨by rw [h1]; decide, hy⟩
    · rw [if_neg h1] at hy ⊢
      have h2 : y ≠ "fault" := fun h => by rw [h, hnf] at hy; cases hy
      rw [if_neg h2]
      exact ⟨h2, hy⟩
  have L₇ := L₆.goes ns₆ ns₇ sb₇ hsub
  have p₇ : Step W (.addrs (· = env.locals)) Z s₆ Z { s₆ with heap := h₇, toks := s₆.toks + 1 } := store_step p₆.inv L₆ (.inl rfl) sb₇
  have kp : ∀ b o, b ≠ env.locals → h₂.get? b = some o → h₇.get? b = some o := fun b o hb e0 => p₇.keep b o (fun h => hb h) (p₆.keep b o (fun h => hb h) (p₃.keep b o (fun h => hb h) e0))
  refine q _ _ ⟨⟨p₇.inv, fun b o hb e0 => ?_, fun _ z => z, fun _ z => .inl z, fun i xg _ e0 => p₇.gens i xg id (p₆.gens i xg id (p₃.gens i xg id (x2.crash.gens i xg e0)))⟩, fun a f => .inl (fo6 a ?_), L₇⟩ fun b o hb e0 => kp b o hb (y.stays b o e0)
  · have hl : b ≠ env.locals := fun h => hb (.inr (.inr (.inl h)))
    exact kp b o hl (x2.keep hf (fun h => hb (.inl h)) (fun h => hb (.inr (.inl h))) hl e0)
  · exact f.imp id (·.imp id fun ⟨y, l, hy, h⟩ => ⟨y, l, (hsub y _ hy).2, h⟩)
end
end Mine
end
section
set_option linter.unusedVariables false
namespace Mine
structure TryT where
  p : Pos
  p1 : Pos
  apos : Pos
  p2 : Pos
  p3 : Pos
  pos : Pos
  pos' : Pos
  q1 : Pos
  hp1 : Pos
  q2 : Pos
  hp2 : Pos
  tpos : Pos
  hA : HandT
  hB : HandT
noncomputable def TryT.call (t : TryT) : Expr := .Call (.Attribute (.Name "sheet" t.p1) "_tab_newline_replace" t.apos) [.Name "first" t.p2, .Name "second" t.p3] [] t.pos
noncomputable def preA : Str := "AttributeError: "
noncomputable def preB : Str := "TypeError: "
noncomputable def TryT.stmt (t : TryT) : Stmt := .Try [.Assign [.Name "told" t.p] t.call t.pos'] [.ExceptHandler (some (.Name "AttributeError" t.q1)) (some "fault") [t.hA.stmt preA] t.hp1, .ExceptHandler (some (.Name "TypeError" t.q2)) (some "fault") [t.hB.stmt preB] t.hp2] [] [] t.tpos
theorem len_preA : preA.length = 16 := by decide +kernel
theorem len_preB : preB.length = 11 := by decide +kernel
noncomputable def toldX (w : String × Str) : Str := (if w.1 = "AttributeError" then preA else preB) ++ w.2
theorem sub_attr_base : isSubtype (.type "AttributeError") (.type "BaseException") = pure true := by rw [isSubtype_type]; kernel_rfl
theorem sub_type_base : isSubtype (.type "TypeError") (.type "BaseException") = pure true := by rw [isSubtype_type]; kernel_rfl
theorem sub_attr_attr : isSubtype (.type "AttributeError") (.type "AttributeError") = pure true := by rw [isSubtype_type]; kernel_rfl
theorem sub_type_attr : isSubtype (.type "TypeError") (.type "AttributeError") = pure false := by rw [isSubtype_type]; kernel_rfl
theorem sub_type_type : isSubtype (.type "TypeError") (.type "TypeError") = pure true := by rw [isSubtype_type]; kernel_rfl
theorem meta_attr : isSubtype (.type ((Manifest.find? "AttributeError").elim "type" fun x => x.metatype)) (.type "tuple") = pure false := by rw [isSubtype_type]; kernel_rfl
theorem meta_type : isSubtype (.type ((Manifest.find? "TypeError").elim "type" fun x => x.metatype)) (.type "tuple") = pure false := by rw [isSubtype_type]; kernel_rfl
section
variable {W : Wd} {Z Z' Z₁ : AddrSet} {s s' s₁ : Shared} {h' base : Heap} {env : Env} {sc : Scope} {ρ ρ' : Slots} {α α' : Str → Addr} {A : Around} {d : Nat} {M : Addr → Prop} {P e : Addr} {tpos : Pos} {qual : Str} {cls : String} {msg : Str} {fl : Value}
structure LawSc (W : Wd) (sc : Scope) : Prop where
  gA : W.Glob "AttributeError" (.type "AttributeError")
  gB : W.Glob "TypeError" (.type "TypeError")
  gS : W.Glob "str" (.type "str")
  kA : sc.names.lookup ("AttributeError" : Str) = some .globalImplicit
  kB : sc.names.lookup ("TypeError" : Str) = some .globalImplicit
  kS : sc.names.lookup ("str" : Str) = some .globalImplicit
  told : sc.names.lookup ("told" : Str) = some .local
  fault : sc.names.lookup ("fault" : Str) = some .local
theorem catch7 {t : TryT} {base : Heap} {w : String × Str} {Q : Flow → Shared → Prop} {E : Value → Shared → Prop} (ls : LawSc W sc) (hE : EnvOk env sc) (hu : A.units + 2 < cLine) (hfr : A.frames = some [env]) (hf : env.frame = some env.locals)
    (I : Inv W Z s) (L : Loc W Z s.heap env ρ α) (hX : ∀ a, W.X a → a = P) (hM : ∀ a, M a → W.h₀.get? a = none ∧ ¬ Z a ∧ ¬ FOwn env ρ α a) (hw : w.1 = "AttributeError" ∨ w.1 = "TypeError") (hlen : w.2.length ≤ 1000) (hnf : ρ "fault" = none)
    (cr : Crash W M P tpos qual [env] s base s₁) (fly : Fly base [env] w.1 w.2 e .none s₁.heap)
    (q : ∀ s' α', Turn W M env Z s ρ α Z s' (ρ.set "told" (.val (.str (toldX w)))) α' → (∀ b o, b ≠ env.locals → base.get? b = some o → s'.heap.get? b = some o) → Q .next s') :
    wpAny W.M A (noteFrame (.ref e) env) (fun _ s₂ => wpAny W.M A (setFlight (.ref e) none) (fun _ s₃ => wpAny W.M A (handleBy (.ref e) env [.ExceptHandler (some (.Name "AttributeError" t.q1)) (some "fault") [t.hA.stmt preA] t.hp1, .ExceptHandler (some (.Name "TypeError" t.q2)) (some "fault") [t.hB.stmt preB] t.hp2]) Q E s₃) E s₂) E s₁ := by
  obtain ⟨m₀, ⟨oE, esE, epE, eE, dE, rE⟩, hv₀⟩ := L.ns
  have hEl : ∃ L o, env.frame = some L ∧ s.heap.get? L = some o ∧ ∀ vs, o.data ≠ .fields vs := ⟨_, oE, hf, eE, fun vs h => by rw [dE] at h; cases h⟩
  have x0 : Landed W M P tpos qual env s base w.1 w.2 e .none s₁ := ⟨cr, fly⟩
  refine fly_note hfr hf rfl fly fun h₂ fl₂ y₂ up₂ => ?_
  have x2 := x0.up y₂ up₂ hEl
  refine fly_set (s := { s₁ with heap := h₂ }) y₂ fun h₃ y₃ up₃ => ?_
  have x3 := x2.up y₃ up₃ hEl
  obtain ⟨w1, w2⟩ := w
  simp only at hw x3 y₃
  have I3 := x3.inv I L hf hX fun a m => ⟨(hM a m).1, (hM a m).2.1⟩
  have hT : Shared.TypeIs { s₁ with heap := h₃ } (.ref e) w1 := let ⟨t, u, ⟨o, vs, h1, h2, _⟩, _⟩ := y₃.exc; ⟨o, h1, h2⟩
  rcases hw with rfl | rfl
  · refine wpAny_handleBy_builtin_as (X := "AttributeError") (T := "AttributeError") (b := true) sub_attr_base meta_attr sub_attr_attr (load_glob hE I3 ls.gA ls.kA (by decide) ⟨rfl, hT, ?_⟩)
    rw [if_pos rfl]
    exact hand_suite ls.gS ls.kS strx_attr hE ls.told ls.fault hu hf I L hX hM x3 (by rw [len_preA]; simp only at hlen; (first | lia | omega)) hnf q
  · refine wpAny_handleBy_builtin_as (X := "TypeError") (T := "AttributeError") (b := false) sub_attr_base meta_attr sub_type_attr (load_glob hE I3 ls.gA ls.kA (by decide) ⟨rfl, hT, ?_⟩)
    rw [if_neg Bool.false_ne_true]
    refine wpAny_handleBy_builtin_as (X := "TypeError") (T := "TypeError") (b := true) sub_type_base meta_type sub_type_type (load_glob hE I3 ls.gB ls.kB (by decide) ⟨rfl, hT, ?_⟩)
    rw [if_pos rfl]
    exact hand_suite ls.gS ls.kS strx_type hE ls.told ls.fault hu hf I L hX hM x3 (by rw [len_preB]; simp only at hlen; (first | lia | omega)) hnf q
end
end Mine
end
section
set_option linter.unusedVariables false
namespace Mine
section
variable {W : Wd} {Z Z' Z₁ : AddrSet} {s s' s₁ : Shared} {h' base : Heap} {env : Env} {sc : Scope} {ρ ρ' : Slots} {α α' : Str → Addr} {A : Around} {d : Nat} {P e : Addr} {tpos : Pos} {qual : Str} {cls : String} {msg : Str} {fl : Value}
structure Meth7 (W : Wd) (d : Nat) (C m c P : Addr) (qual : Str) (fd : FuncData) (params : Arguments) (ibody : List Stmt) (iscope : Scope) (tpos : Pos) (cA cB : CompT) (rT : RetT) (FI : Slots → Option (AFlow × Slots)) : Prop where
  k : MakerF W m c P qual fd ["self", "fromlines", "tolines"] "expand_tabs" params ibody iscope tpos [cA.stmt "fromlines", cB.stmt "tolines", rT.stmt] ["line"]
  okA : cA.Ok fd.scope "fromlines"
  okB : cB.Ok fd.scope "tolines"
  hX : ∀ a, W.X a ↔ a = P
  hPg : mainGlobals ≠ P
  hI : ∀ h₀ Z₀, DenSs (W.at h₀ Z₀) d iscope ibody FI
  hbu : W.h₀.BuiltinsAt W.mg P
  hg : plainGet W.K C "_tab_newline_replace" = true
  hfi : findIn W.K (.ref C) "_tab_newline_replace" = some (some (.ref m))
  hfn : isFn W.K (.ref m) = true
  hko : KeepOk W (.ref m)
structure Things (W : Wd) (d : Nat) (iscope : Scope) (ibody : List Stmt) (FI : Slots → Option (AFlow × Slots)) (me : AV) (bad : AV → Option (String × Str)) (H : AV → AV) (a : AV) : Prop where
  hgood : bad a = none → ∃ ρ', FI ((bindA ["line"] [a]).set frz (.val me)) = some (.ret (H a), ρ')
  hbad : ∀ w, bad a = some w → ∀ h₀ Z₀ (env : Env) (A : Around) Z s₁, Room A d → EnvOk env iscope → Inv (W.at h₀ Z₀) Z s₁ → Loc (W.at h₀ Z₀) Z s₁.heap env ((bindA ["line"] [a]).set frz (.val me)) (fun _ => 0) → RaisesX (W.at h₀ Z₀) A env Z s₁ ((bindA ["line"] [a]).set frz (.val me)) (fun _ => 0) (execs ibody env) w.1 w.2
  hcls : ∀ w, bad a = some w → (w.1 = "AttributeError" ∨ w.1 = "TypeError") ∧ w.2.length ≤ 1000
theorem try7 {t : TryT} {C m c : Addr} {fd : FuncData} {params : Arguments} {ibody : List Stmt} {iscope : Scope} {cA cB : CompT} {rT : RetT} {fls : List (Str × AV)} {it0 it1 w0 w1 : Addr} {b0 b1 : List AV} {i j : Nat} {FI : Slots → Option (AFlow × Slots)} {bad : AV → Option (String × Str)} {H : AV → AV}
    (k : Meth7 W d C m c P qual fd params ibody iscope tpos cA cB rT FI) (ls : LawSc W sc) (hE : EnvOk env sc) (R : Room A (d + 2)) (hfr : A.frames = some [env]) (hf : env.frame = some env.locals)
    (I : Inv W Z s) (L : Loc W Z s.heap env ρ α) (hsh : getV ρ "sheet" = some (.inst C fls)) (hlk : fls.lookup ("_tab_newline_replace" : Str) = none) (h1 : getV ρ "first" = some (.raw (.ref it0))) (h2 : getV ρ "second" = some (.raw (.ref it1))) (hnf : ρ "fault" = none)
    (hT : s.heap.get? P = some (tabObj #[]) ∨ TabAt P tpos qual s.heap) (wl0 : Well Z s.heap it0 w0 b0 i) (wl1 : Well Z s.heap it1 w1 b1 j) (hne : it0 ≠ it1) (hb : ∀ a, (a = it0 ∨ a = it1) → W.h₀.get? a = none ∧ ¬ W.X a ∧ ¬ FOwn env ρ α a) (hz0 : b0.length ≤ 1000) (hz1 : b1.length ≤ 1000)
    (th : ∀ a, (a ∈ b0 ∨ a ∈ b1) → Things W d iscope ibody FI (.inst C fls) bad H a)
    (pl : Env → Value → Sem Bool) (he : ∀ env, eval t.call env = (do
      let ov ← eval (.Name "sheet" t.p1) env
      standAt t.apos.atName
      let (f, first) ← holding [ov] (getMethod ov "_tab_newline_replace" (pl env ov))
      callWith t.pos f first (backTo t.pos (starEach [.Name "first" t.p2, .Name "second" t.p3] env)) []))
    {Q : Flow → Shared → Prop} {E : Value → Shared → Prop}
    (q0 : firstBad bad (b0.drop i) = none → firstBad bad (b1.drop j) = none → ∀ s' Z' α', Turn W (fun b => b = it0 ∨ b = it1) env Z s ρ α Z' s' (ρ.set "told" (.val (.tup [.lst ((b0.drop i).map H), .lst ((b1.drop j).map H)]))) α' → TabAt P tpos qual s'.heap → Well Z' s'.heap it0 w0 b0 b0.length → Well Z' s'.heap it1 w1 b1 b1.length → Q .next s')
    (q1 : ∀ n w i' j', (firstBad bad (b0.drop i) = some (n, w) ∧ i' = i + (n + 1) ∧ j' = j) ∨ (firstBad bad (b0.drop i) = none ∧ firstBad bad (b1.drop j) = some (n, w) ∧ i' = b0.length ∧ j' = j + (n + 1)) →
      ∀ s' Z' α', Turn W (fun b => b = it0 ∨ b = it1) env Z s ρ α Z' s' (ρ.set "told" (.val (.str (toldX w)))) α' → TabAt P tpos qual s'.heap → Well Z' s'.heap it0 w0 b0 i' → Well Z' s'.heap it1 w1 b1 j' → Q .next s') :
    wpAny W.M A (exec t.stmt env) Q E s := by
  have hMd : ∀ it, (it = it0 ∨ it = it1) → ∃ o vs, s.heap.get? it = some o ∧ o.data = .fields vs := by
    rintro it (rfl | rfl)
    · obtain ⟨o, vs, h1, _, h2, _⟩ := wl0.at'.obj; exact ⟨o, vs, h1, h2⟩
    · obtain ⟨o, vs, h1, _, h2, _⟩ := wl1.at'.obj; exact ⟨o, vs, h1, h2⟩
  have hMz : ∀ it, (it = it0 ∨ it = it1) → ¬ Z it := by
    rintro it (rfl | rfl)
    · exact wl0.nz
    · exact wl1.nz
  obtain ⟨m₀, ⟨oE, esE, epE, eE, dE, rE⟩, hv₀⟩ := id L.ns
  refine wpAny_Try_except (wpAny_execs_cons (wpAny_Assign_Name ?_ rfl))
  rw [he env]
  refine wpAny_bind (wpAny_Name (L.load hE (getV_eq hsh) (fun v rv => ?_) (by decide)) (by decide))
  have rv0 : RepV Z s.heap v (.inst C fls) := rv
  have rv1 := rv0
  cases rv0 with | inst z1 z2 o1 o2 rs =>
  rename_i x' dx ess n
  refine wpAny_bind (wpAny_standAt (wpAny_bind (wpAny_holding (method_fn I.kin (od := some (dictOf ess n)) ⟨o1, rfl, rfl, o2⟩ (plainGet_of k.hg).1 (plainGet_of k.hg).2 k.hfi (beq_iff_eq.mp k.hfn) (by
    show (lookIn _ (dictOf ess n)).map _ = _
    rw [lookIn_dict, rs.no hlk]; rfl) ?_))))
  have hargs : DenPs W (d + 2) sc [.Name "first" t.p2, .Name "second" t.p3] fun ρ => getV ρ "first" >>= fun a => (getV ρ "second" >>= fun b => some [] >>= fun l => some (b :: l)) >>= fun l => some (a :: l) :=
    denPs_cons (den_name "first" _ (by decide) (by decide)) (denPs_cons (den_name "second" _ (by decide) (by decide)) denPs_nil fun _ => rfl) fun _ => rfl
  refine callWith_den (first := [.ref x']) k.hko hargs (fun _ _ => rfl) R hE I L (l := [.raw (.ref it0), .raw (.ref it1)]) (by rw [h1, h2]; rfl) fun vs s₁ Z₁ p₁ r₁ => ?_
  have L₁ := L.step0 p₁
  have kM : ∀ it, (it = it0 ∨ it = it1) → ∀ o, s.heap.get? it = some o → s₁.heap.get? it = some o := fun it _ o e => p₁.keep it o id e
  have nzM₁ : ∀ it, (it = it0 ∨ it = it1) → ¬ Z₁ it := fun it h => (let ⟨o, vs, h1, _⟩ := hMd it h; p₁.nz (hMz it h) id h1)
  have kz₁ : ∀ a o, Z a → s.heap.get? a = some o → s₁.heap.get? a = some o := fun a o _ e => p₁.keep a o id e
  have wA := wl0.mono p₁.zsub kz₁ (fun o e => kM _ (.inl rfl) o e) (nzM₁ _ (.inl rfl))
  have wB := wl1.mono p₁.zsub kz₁ (fun o e => kM _ (.inr rfl) o e) (nzM₁ _ (.inr rfl))
  have hT₁ : (W.X P ∧ s₁.heap.get? P = some (tabObj #[])) ∨ TabAt P tpos qual s₁.heap := hT.imp (fun h => ⟨(k.hX P).mpr rfl, p₁.keep _ _ id h⟩) fun h => h.keep fun b o _ _ e => p₁.keep b o id e
  have hbu₁ : s₁.heap.BuiltinsAt W.mg P := by
    obtain ⟨bm, ob, a, b, c, hne, e, r⟩ := k.hbu
    exact ⟨bm, ob, a, b, c, hne, p₁.inv.base _ _ e (fun h => hne ((k.hX _).mp h)), r⟩
  have out₁ : Frames s₁.heap [env] := fun e he => by
    cases List.mem_singleton.mp he
    exact ⟨by rw [hE.kfn]; decide, _, oE, hf, p₁.keep _ _ id eE, fun vs h => by rw [dE] at h; cases h⟩
  refine meth7 k.k k.okA k.okB k.hX R p₁.inv hT₁ hbu₁ k.hPg (.cons (p₁.rep0 rv1) r₁) wA wB hne (fun a h => ⟨(hb a h).1, (hb a h).2.1⟩) hz0 hz1 hfr out₁ k.hI (fun a ha hg => (th a ha).hgood hg) (fun a w ha hw => (th a ha).hbad w hw) (fun g0 g1 rv s₂ Z₂ p₂ tab₂ wA₂ wB₂ rr => ?_) fun n w i' j' hc e s₂ base cr fly a0 a1 => ?_
  · have L₂ := L₁.step p₂ fun a ha => by
      rcases ha with x | hm
      · exact ⟨fun f => (L₁.nb a f).2 x, fun z => p₁.inv.zx a z x⟩
      · exact ⟨(hb a hm).2.2, nzM₁ a hm⟩
    refine L₂.store' (sv := .val (.tup [.lst ((b0.drop i).map H), .lst ((b1.drop j).map H)])) (a := α "told") p₂.inv hE (.inl ls.told) rr (fun l e => by cases e) fun s₃ c' fc hc p₃ fo₃ L₃ => ?_
    have hc := hc ls.told
    subst hc
    refine wpAny_execs_nil (wpAny_execs_nil (q0 g0 g1 s₃ Z₂ _ ⟨?_, fun a f => .inl ((fo₃ a f).elim id fun ⟨⟨l, h⟩, _⟩ => by cases h), L₃⟩ ?_ ?_ ?_))
    · refine ⟨p₃.inv, fun b o hnb e => p₃.keep b o (fun h => hnb (.inr (.inr (.inl h)))) (p₂.keep b o (fun h => h.elim (fun x => hnb (.inl x)) fun hm => hnb (.inr (.inl hm))) (p₁.keep b o id e)), fun a z => p₂.zsub a (p₁.zsub a z), fun a z => ?_, fun g xg _ e => p₃.gens g xg id (p₂.gens g xg id (p₁.gens g xg id e))⟩
      rcases p₂.znew a z with h | h | h
      · rcases p₁.znew a h with h | h | h
        · exact .inl h
        · exact h.elim
        · exact .inr (.inr h)
      · rcases h with x | hm
        · exact absurd (p₂.inv.zx a z x) (fun h => h)
        · rcases hm with rfl | rfl
          · exact (wA₂.nz z).elim
          · exact (wB₂.nz z).elim
      · exact .inr (.inr ((p₁.none_back h).resolve_left id))
    · exact tab₂.keep fun b o vs hd e => p₃.keep b o (fun h => L₂.nofields (.inl h) e hd) e
    · exact wA₂.move (fun _ z => z) (fun a o z e => p₃.keep a o (fun h => L₂.nz a (.inl h) z) e) wA₂.nz (Nat.le_refl _) (wA₂.at'.at fun o e => p₃.keep _ o (fun h => (hb _ (.inl rfl)).2.2 (.inl h)) e)
    · exact wB₂.move (fun _ z => z) (fun a o z e => p₃.keep a o (fun h => L₂.nz a (.inl h) z) e) wB₂.nz (Nat.le_refl _) (wB₂.at'.at fun o e => p₃.keep _ o (fun h => (hb _ (.inr rfl)).2.2 (.inl h)) e)
  · have hmem : ∃ a, (a ∈ b0 ∨ a ∈ b1) ∧ bad a = some w := by
      rcases hc with ⟨h, _⟩ | ⟨_, h, _⟩
      · obtain ⟨_, ⟨a, h1, h2⟩, _⟩ := firstBad_some h
        exact ⟨a, .inl (List.mem_of_mem_drop (List.mem_of_getElem? h1)), h2⟩
      · obtain ⟨_, ⟨a, h1, h2⟩, _⟩ := firstBad_some h
        exact ⟨a, .inr (List.mem_of_mem_drop (List.mem_of_getElem? h1)), h2⟩
    obtain ⟨a, ha, hba⟩ := hmem
    obtain ⟨hcl, hln⟩ := (th a ha).hcls w hba
    have hu : A.units + 2 < cLine := by have := R.units; (first | lia | omega)
    have hi : i' ≤ b0.length ∧ j' ≤ b1.length := by
      have l0 := wl0.le
      have l1 := wl1.le
      rcases hc with ⟨h, rfl, rfl⟩ | ⟨_, h, rfl, rfl⟩
      · have := (firstBad_some h).1
        rw [List.length_drop] at this
        exact ⟨by (first | lia | omega), l1⟩
      · have := (firstBad_some h).1
        rw [List.length_drop] at this
        exact ⟨Nat.le_refl _, by (first | lia | omega)⟩
    refine catch7 (M := fun b => b = it0 ∨ b = it1) ls hE hu hfr hf p₁.inv L₁ (fun a x => (k.hX a).mp x) (fun a hm => ⟨(hb a hm).1, nzM₁ a hm, (hb a hm).2.2⟩) hcl hln hnf cr fly fun s' α' tn kb => ?_
    have hbl : base.get? env.locals = none := by
      obtain ⟨_, ⟨L', o', g1, g2, _⟩, _⟩ := fly.frames
      rw [hf] at g1; cases g1; exact g2
    have kb' : ∀ b o, base.get? b = some o → s'.heap.get? b = some o := fun b o e => kb b o (fun h => by rw [h, hbl] at e; cases e) e
    have kz : ∀ a o, Z₁ a → s₁.heap.get? a = some o → s'.heap.get? a = some o := fun a o z e => tn.step.keep a o (fun h => by
      rcases h with h | h | h
      · exact p₁.inv.zx a z h
      · exact nzM₁ a h z
      · exact L₁.nz a h z) e
    refine q1 n w i' j' hc s' Z₁ α' ⟨p₁.weak.trans tn.step (fun a h => .inl h) (fun _ h => h.elim), fun a f => (tn.fo a f).imp id fun h => (p₁.none_back h).resolve_left id, tn.loc⟩ (cr.tab.keep fun b o _ _ e => kb' b o e) ?_ ?_
    · exact wA.move (fun _ z => z) kz wA.nz hi.1 (a0.at fun o e => kb' _ o e)
    · exact wB.move (fun _ z => z) kz wB.nz hi.2 (a1.at fun o e => kb' _ o e)
end
end Mine
end
section
set_option linter.unusedVariables false
namespace Mine
structure IfT where
  p1 : Pos
  p2 : Pos
  p3 : Pos
  p4 : Pos
  p5 : Pos
  p6 : Pos
  k : Nat
noncomputable def IfT.stmt (t : IfT) : Stmt := .If (.Compare (.Name "told" t.p1) [.NotEq] [.Name "words" t.p2] t.p3) [.Return (some (.Constant (.bool false) t.k t.p4)) t.p5] [] t.p6
structure ForT where
  wp : Pos
  dp : Pos
  fp : Pos
  t : TryT
  i : IfT
noncomputable def ForT.stmt (f : ForT) : Stmt := .For (.Name "words" f.wp) (.Name "due" f.dp) [f.t.stmt, f.i.stmt] [] f.fp
section
variable {W : Wd} {Z Z' Z₁ : AddrSet} {s s' s₁ : Shared} {h' base : Heap} {env : Env} {sc : Scope} {ρ ρ' : Slots} {α α' : Str → Addr} {A : Around} {d : Nat} {P e : Addr} {tpos : Pos} {qual : Str} {C it0 it1 w0 w1 : Addr} {fls : List (Str × AV)} {b0 b1 : List AV} {ii jj : Nat}
theorem den_ifT {t : IfT} : DenSs W d sc [t.stmt] fun ρ => (((getV ρ "told" >>= fun a => getV ρ "words" >>= fun b => cmpA .NotEq a b) >>= fun b => if b = true then (((some (.bool false)) >>= fun a => some (.ret a, ρ)) >>= thenA fun ρ => some (.next, ρ)) else some (.next, ρ)) >>= thenA fun ρ => some (.next, ρ)) :=
  dens_cons (den_if (denT_cmp (den_name "told" _ (by decide) (by decide)) (den_name "words" _ (by decide) (by decide)) rfl) (dens_cons (den_return (den_bool false _ _)) dens_nil) dens_nil) dens_nil
theorem if_go {ρ : Slots} (h : (getV ρ "told" >>= fun a => getV ρ "words" >>= fun b => cmpA .NotEq a b) = some false) : (((getV ρ "told" >>= fun a => getV ρ "words" >>= fun b => cmpA .NotEq a b) >>= fun b => if b = true then (((some (.bool false)) >>= fun a => some (.ret a, ρ)) >>= thenA fun ρ => some (.next, ρ)) else some (.next, ρ)) >>= thenA fun ρ => some (.next, ρ)) = some (.next, ρ) := by
  rw [h]; rfl
structure LI (W : Wd) (P : Addr) (tpos : Pos) (qual : Str) (env : Env) (C : Addr) (fls : List (Str × AV)) (it0 w0 : Addr) (b0 : List AV) (it1 w1 : Addr) (b1 : List AV) (ii jj : Nat) (Z : AddrSet) (s : Shared) (ρ : Slots) (α : Str → Addr) : Prop where
  inv : Inv W Z s
  loc : Loc W Z s.heap env ρ α
  sh : getV ρ "sheet" = some (.inst C fls)
  f1 : getV ρ "first" = some (.raw (.ref it0))
  f2 : getV ρ "second" = some (.raw (.ref it1))
  nf : ρ "fault" = none
  tab : s.heap.get? P = some (tabObj #[]) ∨ TabAt P tpos qual s.heap
  wl0 : Well Z s.heap it0 w0 b0 ii
  wl1 : Well Z s.heap it1 w1 b1 jj
  fb : ∀ a, (a = it0 ∨ a = it1) → ¬ FOwn env ρ α a
theorem LI.fstep (c : LI W P tpos qual env C fls it0 w0 b0 it1 w1 b1 ii jj Z s ρ α) (hX : ∀ a, W.X a ↔ a = P) (p : FStep W env Z s ρ α Z' s' ρ' α') (hg : ∀ x : Str, x = "sheet" ∨ x = "first" ∨ x = "second" ∨ x = "fault" → ρ' x = ρ x) : LI W P tpos qual env C fls it0 w0 b0 it1 w1 b1 ii jj Z' s' ρ' α' := by
  have al : ∀ a, (a = it0 ∨ a = it1) → ∃ o, s.heap.get? a = some o := by
    rintro a (rfl | rfl)
    · exact c.wl0.alive
    · exact c.wl1.alive
  have nz : ∀ a, (a = it0 ∨ a = it1) → ¬ Z a := by
    rintro a (rfl | rfl)
    · exact c.wl0.nz
    · exact c.wl1.nz
  have kz : ∀ a o, Z a → s.heap.get? a = some o → s'.heap.get? a = some o := fun a o z e => p.step.keep a o (fun f => c.loc.nz a f z) e
  have km : ∀ a o, (a = it0 ∨ a = it1) → s.heap.get? a = some o → s'.heap.get? a = some o := fun a o h e => p.step.keep a o (c.fb a h) e
  have nz' : ∀ a, (a = it0 ∨ a = it1) → ¬ Z' a := fun a h => (let ⟨o, e⟩ := al a h; p.step.nz (nz a h) (c.fb a h) e)
  have gg : ∀ x : Str, x = "sheet" ∨ x = "first" ∨ x = "second" ∨ x = "fault" → getV ρ' x = getV ρ x := fun x h => by unfold getV; rw [hg x h]
  refine ⟨p.step.inv, p.loc, (gg _ (.inl rfl)).trans c.sh, (gg _ (.inr (.inl rfl))).trans c.f1, (gg _ (.inr (.inr (.inl rfl)))).trans c.f2, (hg _ (.inr (.inr (.inr rfl)))).trans c.nf, c.tab.imp (fun h => p.step.keep _ _ (fun f => (c.loc.nb _ f).2 ((hX P).mpr rfl)) h) (fun h => h.keep fun b o vs hd e => p.step.keep b o (fun f => c.loc.nofields f e hd) e),
    c.wl0.move p.step.zsub kz (nz' _ (.inl rfl)) c.wl0.le (c.wl0.at'.at fun o => km _ o (.inl rfl)), c.wl1.move p.step.zsub kz (nz' _ (.inr rfl)) c.wl1.le (c.wl1.at'.at fun o => km _ o (.inr rfl)), fun a h f => ?_⟩
  rcases p.fo a f with h1 | h1
  · exact c.fb a h h1
  · obtain ⟨o, e⟩ := al a h; rw [h1] at e; cases e
theorem LI.other {J : Addr} {tk : Nat} (c : LI W P tpos qual env C fls it0 w0 b0 it1 w1 b1 ii jj Z s ρ α) (hX : ∀ a, W.X a ↔ a = P) (hJ : W.h₀.get? J = none ∧ ¬ W.X J ∧ ¬ Z J ∧ ¬ FOwn env ρ α J ∧ J ≠ it0 ∧ J ≠ it1) (hJc : ∃ o vs, s.heap.get? J = some o ∧ o.data = .fields vs ∧ ∀ q t, vs[1]? ≠ some (.str q t)) (hk : ∀ b o, b ≠ J → s.heap.get? b = some o → h'.get? b = some o) (htk : s.toks ≤ tk) :
    LI W P tpos qual env C fls it0 w0 b0 it1 w1 b1 ii jj Z { s with heap := h', toks := tk } ρ α := by
  obtain ⟨j1, j2, j3, j4, j5, j6⟩ := hJ
  have p : Step W (.addrs (· ∈ [J])) Z s Z { s with heap := h', toks := tk } := .writes c.inv (fun b o hb e => hk b o (fun h => hb (List.mem_singleton.mpr h)) e) (fun b hb => by cases List.mem_singleton.mp hb; exact ⟨j1, j2, j3⟩) htk
  have hP : ¬ (P = J) := fun h => j2 ((hX J).mpr h.symm)
  have kz : ∀ a o, Z a → s.heap.get? a = some o → h'.get? a = some o := fun a o z e => hk a o (fun h => j3 (h ▸ z)) e
  exact ⟨p.inv, c.loc.step p fun a ha => by cases List.mem_singleton.mp ha; exact ⟨j4, j3⟩, c.sh, c.f1, c.f2, c.nf, c.tab.imp (fun h => hk _ _ hP h) (fun h => h.keepM (M := (· = J)) (fun a ha => by cases ha; exact hJc) hP fun b o vs hb _ e => hk b o hb e),
    c.wl0.move (fun _ z => z) kz c.wl0.nz c.wl0.le (c.wl0.at'.at fun o e => hk _ o (Ne.symm j5) e), c.wl1.move (fun _ z => z) kz c.wl1.nz c.wl1.le (c.wl1.at'.at fun o e => hk _ o (Ne.symm j6) e), c.fb⟩
theorem told_get {ρ : Slots} {x : Str} {v : SV} (h : x = "sheet" ∨ x = "first" ∨ x = "second" ∨ x = "fault") : (ρ.set "told" v) x = ρ x ∧ (ρ.set "words" v) x = ρ x := by
  unfold Slots.set
  rcases h with rfl | rfl | rfl | rfl <;> exact ⟨if_neg (by decide), if_neg (by decide)⟩
theorem after7 {i : IfT} {J dl : Addr} {D : List AV} {x i' j' : Nat} {a : AV} (hE : EnvOk env sc) (R : Room A d) (hX : ∀ a, W.X a ↔ a = P) (c : LI W P tpos qual env C fls it0 w0 b0 it1 w1 b1 ii jj Z s ρ α) (wJ : Well Z s.heap J dl D x) (hJf : ¬ FOwn env ρ α J) (hJx : ¬ W.X J) (hJm : ¬ (J = it0 ∨ J = it1))
    (tn : Turn W (fun b => b = it0 ∨ b = it1) env Z s ρ α Z' s' (ρ.set "told" (.val a)) α') (tab : TabAt P tpos qual s'.heap) (wl0 : Well Z' s'.heap it0 w0 b0 i') (wl1 : Well Z' s'.heap it1 w1 b1 j') (hwd : getV ρ "words" = some a) (hcmp : cmpA .NotEq a a = some false) {Q : Flow → Shared → Prop} {E : Value → Shared → Prop}
    (q : ∀ s₂ Z₂ ρ₂ α₂, LI W P tpos qual env C fls it0 w0 b0 it1 w1 b1 i' j' Z₂ s₂ ρ₂ α₂ → Well Z₂ s₂.heap J dl D x → ¬ FOwn env ρ₂ α₂ J → Q .next s₂) : wpAny W.M A (execs [i.stmt] env) Q E s' := by
  have al : ∀ a, (a = it0 ∨ a = it1) → ∃ o, s.heap.get? a = some o := by
    rintro a (rfl | rfl)
    · exact c.wl0.alive
    · exact c.wl1.alive
  have gg : ∀ x : Str, x = "sheet" ∨ x = "first" ∨ x = "second" ∨ x = "fault" → getV (ρ.set "told" (.val a)) x = getV ρ x := fun x h => by unfold getV; rw [(told_get h).1]
  have c5 : LI W P tpos qual env C fls it0 w0 b0 it1 w1 b1 i' j' Z' s' (ρ.set "told" (.val a)) α' := by
    refine ⟨tn.step.inv, tn.loc, (gg _ (.inl rfl)).trans c.sh, (gg _ (.inr (.inl rfl))).trans c.f1, (gg _ (.inr (.inr (.inl rfl)))).trans c.f2, (told_get (.inr (.inr (.inr rfl)))).1.trans c.nf, .inr tab, wl0, wl1, fun b h f => ?_⟩
    rcases tn.fo b f with h1 | h1
    · exact c.fb b h h1
    · obtain ⟨o, e⟩ := al b h; rw [h1] at e; cases e
  have hJo : ¬ (W.X J ∨ (J = it0 ∨ J = it1) ∨ FOwn env ρ α J) := fun h => by
    rcases h with h | h | h
    · exact hJx h
    · exact hJm h
    · exact hJf h
  obtain ⟨oJ, eJ⟩ := wJ.alive
  have nzM : ∀ a, (a = it0 ∨ a = it1) → ¬ Z a := by
    rintro a (rfl | rfl)
    · exact c.wl0.nz
    · exact c.wl1.nz
  have wJ5 : Well Z' s'.heap J dl D x := wJ.move tn.step.zsub (fun b o z e => tn.step.keep b o (fun h => by
    rcases h with h | h | h
    · exact c.inv.zx b z h
    · exact nzM b h z
    · exact c.loc.nz b h z) e) (tn.step.nz wJ.nz hJo eJ) wJ.le (wJ.at'.at fun o e => tn.step.keep _ o hJo e)
  have hJf5 : ¬ FOwn env (ρ.set "told" (.val a)) α' J := fun f => (tn.fo J f).elim hJf fun h => by rw [h] at eJ; cases eJ
  have e1 : (getV (ρ.set "told" (.val a)) "told" >>= fun a' => getV (ρ.set "told" (.val a)) "words" >>= fun b => cmpA .NotEq a' b) = some false := by
    rw [show getV (ρ.set "told" (.val a)) "told" = some a from rfl, show getV (ρ.set "told" (.val a)) "words" = some a from hwd]
    exact hcmp
  refine den_ifT A env Z' s' (ρ.set "told" (.val a)) α' .next (ρ.set "told" (.val a)) R hE c5.inv c5.loc (if_go e1) _ _ fun fl s₂ Z₂ α₂ p₂ r₂ => ?_
  cases fl <;> try exact r₂.elim
  obtain ⟨oJ5, eJ5⟩ := wJ5.alive
  refine q s₂ Z₂ _ α₂ (c5.fstep hX p₂ fun _ _ => rfl) (wJ5.move p₂.step.zsub (fun b o z e => p₂.step.keep b o (fun f => c5.loc.nz b f z) e) (p₂.step.nz wJ5.nz hJf5 eJ5) wJ5.le (wJ5.at'.at fun o e => p₂.step.keep _ o hJf5 e)) fun f => (p₂.fo J f).elim hJf5 fun h => by rw [h] at eJ5; cases eJ5
theorem loop7 {f : ForT} {m c : Addr} {fd : FuncData} {params : Arguments} {ibody : List Stmt} {iscope : Scope} {cA cB : CompT} {rT : RetT} {D : List AV} {FI : Slots → Option (AFlow × Slots)} {bad : AV → Option (String × Str)} {H : AV → AV} {Rel : Nat → Nat → List AV → Prop}
    (k : Meth7 W d C m c P qual fd params ibody iscope tpos cA cB rT FI) (ls : LawSc W sc) (hwk : sc.names.lookup ("words" : Str) = some .local) (hE : EnvOk env sc) (R : Room A (d + 2)) (hfr : A.frames = some [env]) (hf : env.frame = some env.locals) (hlk : fls.lookup ("_tab_newline_replace" : Str) = none)
    (hne : it0 ≠ it1) (hb : ∀ a, (a = it0 ∨ a = it1) → W.h₀.get? a = none ∧ ¬ W.X a) (hz0 : b0.length ≤ 1000) (hz1 : b1.length ≤ 1000) (th : ∀ a, (a ∈ b0 ∨ a ∈ b1) → Things W d iscope ibody FI (.inst C fls) bad H a)
    (pl : Env → Value → Sem Bool) (he : ∀ env, eval f.t.call env = (do
      let ov ← eval (.Name "sheet" f.t.p1) env
      standAt f.t.apos.atName
      let (g, first) ← holding [ov] (getMethod ov "_tab_newline_replace" (pl env ov))
      callWith f.t.pos g first (backTo f.t.pos (starEach [.Name "first" f.t.p2, .Name "second" f.t.p3] env)) []))
    (hrel : ∀ i j a D', Rel i j (a :: D') → (firstBad bad (b0.drop i) = none → firstBad bad (b1.drop j) = none → a = .tup [.lst ((b0.drop i).map H), .lst ((b1.drop j).map H)] ∧ Rel b0.length b1.length D') ∧
      ∀ n w i' j', (firstBad bad (b0.drop i) = some (n, w) ∧ i' = i + (n + 1) ∧ j' = j) ∨ (firstBad bad (b0.drop i) = none ∧ firstBad bad (b1.drop j) = some (n, w) ∧ i' = b0.length ∧ j' = j + (n + 1)) → a = .str (toldX w) ∧ Rel i' j' D')
    (hcmp : ∀ a ∈ D, cmpA .NotEq a a = some false) (hD0 : Rel 0 0 D) (cI : LI W P tpos qual env C fls it0 w0 b0 it1 w1 b1 0 0 Z s ρ α) (hdue : getV ρ "due" = some (.lst D)) {Q : Flow → Shared → Prop} {E : Value → Shared → Prop}
    (q : ∀ s' Z' ρ' α' i j, LI W P tpos qual env C fls it0 w0 b0 it1 w1 b1 i j Z' s' ρ' α' → Q .next s') : wpAny W.M A (exec f.stmt env) Q E s := by
  have I := cI.inv
  have L := cI.loc
  refine wpAny_For (wpAny_Name (L.load hE (getV_eq hdue) (fun v r => ?_) (by decide)) (by decide)) (fun _ => rfl)
  obtain ⟨dl, dvs, rfl, zdl, hdl, rdl⟩ := RepV.lstP (show RepV Z s.heap v (.lst D) from r)
  refine wpAny_pyIter_list hdl.list ?_
  have hJ0 : s.heap.get? s.heap.objs.size = none := push_none _
  have hJo : (s.heap.push { cls := .type "list_iterator", data := .fields #[.ref dl, .int 0 0] }).get? s.heap.objs.size = some { cls := .type "list_iterator", data := .fields #[.ref dl, .int 0 0] } := Heap.get?_push_size _ rfl
  have p₁ : Step W .none Z s Z { s with heap := s.heap.push { cls := .type "list_iterator", data := .fields #[.ref dl, .int 0 0] } } := .grow I (tk := s.toks) (push_keep _ _)
  have c1 := cI.fstep k.hX (FStep.pure L p₁) fun _ _ => rfl
  have hal : ∀ a, (a = it0 ∨ a = it1) → s.heap.objs.size ≠ a := by
    rintro a (rfl | rfl) h
    · obtain ⟨o, e⟩ := cI.wl0.alive; rw [← h, hJ0] at e; cases e
    · obtain ⟨o, e⟩ := cI.wl1.alive; rw [← h, hJ0] at e; cases e
  have hJb : W.h₀.get? s.heap.objs.size = none ∧ ¬ W.X s.heap.objs.size := ⟨I.fresh_b hJ0, I.fresh_x hJ0⟩
  have hJf : ¬ FOwn env ρ α s.heap.objs.size := fun f => by obtain ⟨o, e⟩ := L.alive f; rw [hJ0] at e; cases e
  have wJ : Well Z (s.heap.push { cls := .type "list_iterator", data := .fields #[.ref dl, .int 0 0] }) s.heap.objs.size dl D 0 :=
    ⟨⟨dvs, (let ⟨o, ho, r⟩ := hdl; ⟨o, push_keep _ _ _ _ ho, r⟩), p₁.reps0 rdl⟩, zdl, I.fresh_z hJ0, Nat.zero_le _, .inl ⟨_, hJo, rfl, rfl⟩⟩
  generalize hJ : s.heap.objs.size = J at *
  clear hJo hJ0
  generalize hs1 : ({ s with heap := s.heap.push { cls := .type "list_iterator", data := .fields #[.ref dl, .int 0 0] } } : Shared) = s1 at *
  have hs1h : s1.heap = s.heap.push { cls := .type "list_iterator", data := .fields #[.ref dl, .int 0 0] } := by rw [← hs1]
  rw [← hs1h] at wJ
  refine codeAny_forLoop_any (fun n s' => ∃ Z' ρ' α' x i j, LI W P tpos qual env C fls it0 w0 b0 it1 w1 b1 i j Z' s' ρ' α' ∧ Well Z' s'.heap J dl D x ∧ ¬ FOwn env ρ' α' J ∧ Rel i j (D.drop x) ∧ n = D.length - x) ?_ D.length ⟨Z, ρ, α, 0, 0, 0, c1, wJ, hJf, hD0, rfl⟩
  clear wJ c1 p₁ hs1h hs1 cI hD0 hdue r rdl hdl zdl hJf I L
  rintro _ s₂ ⟨Z₂, ρ₂, α₂, x, i, j, c2, wJ, hJf, hr, rfl⟩
  obtain ⟨dvs, hdl, rdl⟩ := wJ.lst
  have hsz : D.length = dvs.toArray.size := by rw [List.size_toArray, rdl.length]
  have hat := wJ.at'
  rw [hsz] at hat
  have hle : x ≤ dvs.toArray.size := hsz ▸ wJ.le
  have hdJ : dl ≠ J := fun e => wJ.nz (e ▸ wJ.zw)
  have hJm : ¬ (J = it0 ∨ J = it1) := fun h => hal J h rfl
  by_cases hlt : x < D.length
  · refine wpAny_with_toks (Nat.le_refl _) ((Walks.well (prog := W.prog) (w := W.w) R.handled J dl hdJ dvs.toArray x hle).item 0 s₂ _ _ (by (first | lia | omega)) ⟨hat, hdl.list⟩ fun v h' tk hv st hk => fun (htk : s₂.toks ≤ tk) => ?_)
    obtain ⟨a, ha, ra⟩ := rdl.back hv
    have hk' : ∀ b o, b ≠ J → s₂.heap.get? b = some o → h'.get? b = some o := fun b o hb e => hk b o (fun h => hb (List.mem_singleton.mp h)) e
    have c3 := c2.other k.hX ⟨hJb.1, hJb.2, wJ.nz, hJf, fun h => hJm (.inl h), fun h => hJm (.inr h)⟩ (let ⟨o, vs, h1, _, h2, h3⟩ := wJ.at'.obj; ⟨o, vs, h1, h2, h3⟩) hk' htk
    have kz3 : ∀ b o, Z₂ b → s₂.heap.get? b = some o → h'.get? b = some o := fun b o z e => hk' b o (fun h => wJ.nz (h ▸ z)) e
    obtain ⟨oJ, _, hoJ, hcJ, _⟩ := st.1.obj
    refine letGo_cls (.name _ _) hoJ hcJ (by decide) ?_
    refine wpAny_assign_Name (c3.loc.storeV c3.inv hE (.inl hwk) (ra.mono (fun _ z => z) kz3) fun s₄ α₄ p₄ => ?_)
    have c4 := c3.fstep k.hX p₄ fun x h => (told_get h).2
    have hJf4 : ¬ FOwn env (ρ₂.set "words" (.val a)) α₄ J := fun f => (p₄.fo J f).elim hJf fun h => by
      have h : h'.get? J = none := h
      rw [hoJ] at h; cases h
    have wJ3 : Well Z₂ h' J dl D (x + 1) := wJ.move (fun _ z => z) kz3 wJ.nz hlt (by rw [hsz]; exact st.1)
    have wJ4 : Well Z₂ s₄.heap J dl D (x + 1) := wJ3.move (fun _ z => z) (fun b o z e => p₄.step.keep b o (fun f => c3.loc.nz b f z) e) wJ.nz hlt (wJ3.at'.at fun o e => p₄.step.keep _ o hJf e)
    have hdr : D.drop x = a :: D.drop (x + 1) := by rw [List.drop_eq_getElem_cons hlt, Option.some.inj ((List.getElem?_eq_getElem hlt).symm.trans ha)]
    rw [hdr] at hr
    obtain ⟨hr0, hr1⟩ := hrel i j a _ hr
    have ham : a ∈ D := List.mem_of_getElem? ha
    have hlt' : D.length - (x + 1) < D.length - x := Nat.sub_lt_sub_left hlt (Nat.lt_succ_self x)
    refine wpAny_execs_cons (try7 k ls hE R hfr hf c4.inv c4.loc c4.sh hlk c4.f1 c4.f2 c4.nf c4.tab c4.wl0 c4.wl1 hne (fun a h => ⟨(hb a h).1, (hb a h).2, c4.fb a h⟩) hz0 hz1 th pl he (fun g0 g1 s₅ Z₅ α₅ tn tab5 a0 a1 => ?_) fun n w i' j' hc s₅ Z₅ α₅ tn tab5 a0 a1 => ?_)
    · obtain ⟨ea, hr'⟩ := hr0 g0 g1
      subst ea
      exact after7 hE R k.hX c4 wJ4 hJf4 hJb.2 hJm tn tab5 a0 a1 rfl (hcmp _ ham) fun s₆ Z₆ ρ₆ α₆ c6 wJ6 hJ6 => ⟨D.length - (x + 1), hlt', Z₆, ρ₆, α₆, x + 1, _, _, c6, wJ6, hJ6, hr', rfl⟩
    · obtain ⟨ea, hr'⟩ := hr1 n w i' j' hc
      subst ea
      exact after7 hE R k.hX c4 wJ4 hJf4 hJb.2 hJm tn tab5 a0 a1 rfl (hcmp _ ham) fun s₆ Z₆ ρ₆ α₆ c6 wJ6 hJ6 => ⟨D.length - (x + 1), hlt', Z₆, ρ₆, α₆, x + 1, _, _, c6, wJ6, hJ6, hr', rfl⟩
  · have hx : x = dvs.toArray.size := Nat.le_antisymm hle (hsz ▸ Nat.le_of_not_lt hlt)
    subst hx
    refine well_end R.handled hat hdl.list fun h' hk sp => ?_
    have c3 := c2.other (tk := s₂.toks) k.hX ⟨hJb.1, hJb.2, wJ.nz, hJf, fun h => hJm (.inl h), fun h => hJm (.inr h)⟩ (let ⟨o, vs, h1, _, h2, h3⟩ := wJ.at'.obj; ⟨o, vs, h1, h2, h3⟩) hk (Nat.le_refl _)
    exact wpAny_execs_nil (q _ Z₂ ρ₂ α₂ i j c3)
end
end Mine
end
section
open Sem (wp)
set_option maxRecDepth 100000
set_option linter.unusedVariables false
namespace Mine
theorem slot_bytes_ga : Slot "bytes" "__getattribute__" "bytes.__getattribute__" :=
  .of (owner := "bytes") (n := "__getattribute__") (by rw [typeLookup_type, builtinLookup_eq_fast]; kernel_rfl) (by decide +kernel) (by decide +kernel) (by decide +kernel)
    (by first | exact .inl (by decide +kernel) | exact .inr (by decide +kernel)) (by rw [isSubtype_type]; kernel_rfl)
theorem entry_bytes_ga : entryFor table "bytes.__getattribute__" = some Builtin.«object.__getattribute__» :=
  entryFor_alias (id' := "object.__getattribute__") (by kernel_rfl) (by first | rfl | decide +kernel) (by decide +kernel) (by kernel_rfl)
theorem args_bytes_ga (a b : Value) : argsOk "bytes.__getattribute__" ⟨[a, b], []⟩ := by unfold argsOk; kernel_rfl
theorem lk_bytes_class : typeLookup (.type "bytes") "__class__" = pure (some (.builtin "object.__class__")) := by rw [typeLookup_type, builtinLookup_eq_fast]; kernel_rfl
theorem sub_bytes_owner : isSubtype (.type "bytes") (.type (".".intercalate ("object.__class__".cutAt '.').dropLast)) = pure true := by
  rw [F.owner_object_class, isSubtype_type]; kernel_rfl
section
variable {prog : Program} {w : World} {A : Around} {E : Value → Shared → Prop} {h : Heap} {g : Array GenState} {d : Drawn} {t : Nat} {os : OsState} {n : Array UInt8} {u : Tok}
theorem cls_get_bytes {R : Result → Shared → Prop} (hq : R (.ok (.ret (.type "bytes"))) ⟨h, g, d, t, os⟩) :
    codeAny (model prog w) A (.call (.builtin "getset_descriptor.__get__") ⟨[.builtin "object.__class__", .bytes n u, .type "bytes"], []⟩) R ⟨h, g, d, t, os⟩ := by
  have hT : (⟨h, g, d, t, os⟩ : Shared).TypeIs (.bytes n u) "bytes" := rfl
  have hT5 : (⟨h, g, d, t, os⟩ : Shared).TypeIs (.builtin "object.__class__") "getset_descriptor" := F.typeOf_object_class
  have f8 := sub_bytes_owner
  refine codeAny_call_builtin F.slot_gs_get.plain F.entry_gs_get (F.slot_gs_get.check _ _ _ _ _ _ _ _ hT5 (F.args_gs_get _ _ _) ?_)
  repeat (any_goals (first | assumption | wp_step))
  refine ⟨Code.quiet_builtin _ (by decide +kernel), codeAny_builtin F.entry_object_class ?_⟩
  repeat (any_goals (first | assumption | wp_step))
theorem cls_entry_bytes {tk : Tok} {Q : Fin → Shared → Prop} (hq : Q (.done (.ret (.type "bytes"))) ⟨h, g, d, t, os⟩) :
    wpAny (model prog w) A (Builtin.«object.__getattribute__» ⟨[.bytes n u, .str "__class__" tk], []⟩) Q E ⟨h, g, d, t, os⟩ := by
  have hT : (⟨h, g, d, t, os⟩ : Shared).TypeIs (.bytes n u) "bytes" := rfl
  have hT5 : (⟨h, g, d, t, os⟩ : Shared).TypeIs (.builtin "object.__class__") "getset_descriptor" := F.typeOf_object_class
  have f4 := lk_bytes_class
  have f5 := F.typeOf_object_class
  have f6 := F.slot_gs_get.lookup
  have f7 := F.slot_gs_set.lookup
  repeat (any_goals (first | assumption | wp_step))
  refine cls_get_bytes ?_
  repeat (any_goals (first | assumption | wp_step))
theorem cls_call_bytes {tk : Tok} {R : Result → Shared → Prop} (hq : R (.ok (.ret (.type "bytes"))) ⟨h, g, d, t, os⟩) :
    codeAny (model prog w) A (.call (.builtin "bytes.__getattribute__") ⟨[.bytes n u, .str "__class__" tk], []⟩) R ⟨h, g, d, t, os⟩ :=
  codeAny_call_builtin slot_bytes_ga.plain entry_bytes_ga (slot_bytes_ga.check _ _ _ _ _ _ _ _ (show (⟨h, g, d, t, os⟩ : Shared).TypeIs (.bytes n u) "bytes" from rfl) (args_bytes_ga _ _) (cls_entry_bytes hq))
theorem cls_by_bytes {tk : Tok} {Q : Value → Shared → Prop} (hq : Q (.type "bytes") ⟨h, g, d, t, os⟩) : wpAny (model prog w) A (getAttrBy (.bytes n u) (.str "__class__" tk) false) Q E ⟨h, g, d, t, os⟩ := by
  have hT : (⟨h, g, d, t, os⟩ : Shared).TypeIs (.bytes n u) "bytes" := rfl
  have f2 := slot_bytes_ga.lookup
  have f3 := slot_bytes_ga.bind (.bytes n u)
  repeat (any_goals (first | assumption | wp_step))
  refine cls_call_bytes ?_
  repeat (any_goals (first | assumption | wp_step))
theorem cls_attr_bytes {Q : Option Value → Shared → Prop} (hq : Q (some (.type "bytes")) ⟨h, g, d, t + 1, os⟩) : wpAny (model prog w) A (getAttr? (.bytes n u) "__class__") Q E ⟨h, g, d, t, os⟩ := by
  unfold getAttr? getAttrBy?
  repeat (any_goals (first | assumption | with_reducible apply cls_by_bytes | wp_step))
theorem isi_nested_bytes {T : String} {dep : Int} {tk : Tok} {Q : Fin → Shared → Prop} (hne : (Value.type "bytes" == Value.type T) = false) (hty : typeOf (.type T) = pure (.type "type"))
    (hsub : isSubtype (.type "bytes") (.type T) = pure false) (hq : Q (.done (.ret (.bool false))) ⟨h, g, d, t + 1, os⟩) :
    wpAny (model prog w) A (Builtin.«isinstance.nested» ⟨[.bytes n u, .type T, .int dep tk], []⟩) Q E ⟨h, g, d, t, os⟩ := by
  have hT : (⟨h, g, d, t, os⟩ : Shared).TypeIs (.bytes n u) "bytes" := rfl
  repeat (any_goals (first | assumption | with_reducible apply cls_attr_bytes | wp_step))
end
theorem isi_bytes {n : Array UInt8} {u : Tok} {T : String} (hne : (Value.type "bytes" == Value.type T) = false) (hty : typeOf (.type T) = pure (.type "type")) (hsub : isSubtype (.type "bytes") (.type T) = pure false) :
    Meets (Builtin.«isinstance» ⟨[.bytes n u, .type T], []⟩) (fun _ R s => R (.ok (.ret (.bool false))) { s with toks := s.toks + 1 }) :=
  fun _ _ _ _ s hs => by
    obtain ⟨h, g, d, t, os⟩ := s
    exact isinstance_outer (isi_nested_bytes hne hty hsub hs)
section
variable {W : Wd} {Z : AddrSet} {s : Shared} {A : Around} {d : Nat}
noncomputable def isStr : AV → Option Bool
  | .str _ => some true
  | .none => some false
  | .int _ => some false
  | .bytes _ => some false
  | .lst _ => some false
  | _ => none
noncomputable def isBytes : AV → Option Bool
  | .bytes _ => some true
  | .none => some false
  | .int _ => some false
  | .lst _ => some false
  | _ => none
noncomputable def isInt : AV → Option Bool
  | .int _ => some true
  | .lst _ => some false
  | _ => none
noncomputable def isiF (l : List AV) : Option AV := arg2 l fun a b => match b with
  | .raw (.type T) => if T = "str" then (isStr a).map .bool else if T = "bytes" then (isBytes a).map .bool else if T = "int" then (isInt a).map .bool else none
  | _ => none
theorem spec_isi : FSpec W d (.builtin "isinstance") isiF := by
  intro A Z s vals args av R I r h
  obtain ⟨a, b, v, w, rfl, ra, rb, h⟩ := arg2_rep h r
  split at h
  · rename_i T
    have hw : w = .type T := by cases rb; rfl
    subst hw
    refine .val I fun Q E' q => ?_
    by_cases h1 : T = "str"
    · subst h1
      rw [if_pos rfl] at h
      obtain ⟨c, hc, rfl⟩ := Option.map_eq_some_iff.mp h
      cases a with
      | str x => cases hc; obtain ⟨t, rfl⟩ := ra.str'; exact IsiPair.str_str (q _ s.toks (.bool _))
      | none => cases hc; rw [ra.none']; exact IsiPair.NoneType_str (q _ _ (.bool _))
      | int i => cases hc; obtain ⟨t, rfl⟩ := ra.int'; exact IsiPair.int_str (q _ _ (.bool _))
      | bytes x => cases hc; cases ra; exact call_isinstance (isi_bytes (by decide +kernel) F.isi_meta_str F.sub_bytes_str) (q _ _ (.bool _))
      | lst l => cases hc; obtain ⟨b, vs, rfl, z, ⟨o, ho, hcl, _⟩, rs⟩ := ra.lstP; exact IsiPair.list_str ho hcl (q _ _ (.bool _))
      | _ => cases hc
    · rw [if_neg h1] at h
      by_cases h2 : T = "bytes"
      · subst h2
        rw [if_pos rfl] at h
        obtain ⟨c, hc, rfl⟩ := Option.map_eq_some_iff.mp h
        cases a with
        | bytes x => cases hc; cases ra; exact call_isinstance (isinstance_true (Tx := "bytes") F.isi_meta_bytes F.isi_self_bytes) ⟨rfl, q _ s.toks (.bool _)⟩
        | none => cases hc; rw [ra.none']; exact IsiPair.NoneType_bytes (q _ _ (.bool _))
        | int i => cases hc; obtain ⟨t, rfl⟩ := ra.int'; exact IsiPair.int_bytes (q _ _ (.bool _))
        | lst l => cases hc; obtain ⟨b, vs, rfl, z, ⟨o, ho, hcl, _⟩, rs⟩ := ra.lstP; exact IsiPair.list_bytes ho hcl (q _ _ (.bool _))
        | _ => cases hc
      · rw [if_neg h2] at h
        by_cases h3 : T = "int"
        · subst h3
          rw [if_pos rfl] at h
          obtain ⟨c, hc, rfl⟩ := Option.map_eq_some_iff.mp h
          cases a with
          | int i => cases hc; obtain ⟨t, rfl⟩ := ra.int'; exact IsiPair.int_int (q _ s.toks (.bool _))
          | lst l => cases hc; obtain ⟨b, vs, rfl, z, ⟨o, ho, hcl, _⟩, rs⟩ := ra.lstP; exact IsiPair.list_int ho hcl (q _ _ (.bool _))
          | _ => cases hc
        · rw [if_neg h3] at h; cases h
  · cases h
end
end Mine
end
section
set_option linter.unusedVariables false
namespace Mine
section
variable {W : Wd} {Z Z' Z₁ : AddrSet} {s s' s₁ : Shared} {env : Env} {sc : Scope} {ρ ρ' : Slots} {α α' : Str → Addr} {A : Around} {d : Nat}
noncomputable def wellsOf : AV → Option (Addr × Addr)
  | .lst [.raw (.ref a), .raw (.ref b)] => some (a, b)
  | _ => none
theorem wellsOf_eq {v : AV} {a b : Addr} (h : wellsOf v = some (a, b)) : v = .lst [.raw (.ref a), .raw (.ref b)] := by
  unfold wellsOf at h
  split at h
  · cases h; rfl
  · cases h
noncomputable def putAt (x : Str) (b : Addr) (ρ : Slots) (a : AV) : Option (AFlow × Slots) := getO ρ x >>= fun l => if l.place = some b ∧ l.items.length ≤ 1000000 then some (.next, ρ.set x (.own ⟨l.place, l.items ++ [a]⟩)) else none
noncomputable def wellPut (ab : Addr × Addr) (k : Int) (ρ : Slots) (a : AV) : Option (AFlow × Slots) := if k = 0 then putAt "#0" ab.1 ρ a else if k = 1 then putAt "#1" ab.2 ρ a else none
theorem den_well {p pos' apos cpos pos : Pos} {idx e : Expr} {g f : Slots → Option AV} (hi : DenP W d sc idx g) (hs : ∀ o i, subscripted idx false o i = operate [o, i] (getItem o i)) (h : DenP W d sc e f)
    (hst : ∀ env, starEach [e] env = [(false, eval e env)]) (hline : (apos.endLine == cpos.line) = true) (hbase : ∀ env, attributeBase (.Subscript (.Name "wells" p) idx pos') "append" env (eval (.Subscript (.Name "wells" p) idx pos') env) = eval (.Subscript (.Name "wells" p) idx pos') env)
    (hsw : ∀ env, swapsWith (.Call (.Attribute (.Subscript (.Name "wells" p) idx pos') "append" apos) [e] [] cpos) none pos.line env = pure false) :
    DenS W d sc (.Expr (.Call (.Attribute (.Subscript (.Name "wells" p) idx pos') "append" apos) [e] [] cpos) pos) fun ρ => (getV ρ "wells" >>= wellsOf) >>= fun ab => g ρ >>= fun i => i.int? >>= fun k => f ρ >>= fun a => wellPut ab k ρ a := by
  intro A env Z s ρ α fl ρ' R hE I L hf Q E' q
  obtain ⟨⟨a0, a1⟩, hw, hf⟩ := bindO hf
  obtain ⟨wv, hwv, hw⟩ := bindO hw
  have := wellsOf_eq hw
  subst this
  obtain ⟨iv, hiv, hf⟩ := bindO hf
  obtain ⟨k, hk, hf⟩ := bindO hf
  obtain ⟨a, ha, hfin⟩ := bindO hf
  have hkv := int?_eq hk
  subst hkv
  have core : ∀ (x : Str) (b : Addr), idxA (.lst [.raw (.ref a0), .raw (.ref a1)]) (.int k) = some (.raw (.ref b)) → putAt x b ρ a = some (fl, ρ') → wpAny W.M A (exec (.Expr (.Call (.Attribute (.Subscript (.Name "wells" p) idx pos') "append" apos) [e] [] cpos) pos) env) Q E' s := fun x b hix hf => by
    obtain ⟨l, hl, hf⟩ := bindO hf
    obtain ⟨⟨hpl, hz⟩, hf⟩ := iteO hf
    cases hf
    have hx := getO_eq hl
    have hab : α x = b := L.fix x l b hx hpl
    have hden := den_idx (pos := pos') (den_name (W := W) (d := d) (sc := sc) "wells" p (by decide) (by decide)) hi hs
    refine wpAny_Expr (wpAny_Call_method (hbase env) (by rw [hst]; rfl) hline F.plainAttrs_list F.slot_list_append F.type_list_append (hden A env Z s ρ α (.raw (.ref b)) R hE I L (by show (getV ρ "wells" >>= _) = _; rw [hwv]; show (g ρ >>= _) = _; rw [hiv]; exact hix) _ _ fun v s₁ Z₁ p₁ r₁ => ?_)) (by
      show (env.scope.kind == .module && _) = false
      rw [hE.kfn]; rfl) (hsw env)
    have hv : v = .ref b := by cases r₁; rfl
    subst hv
    have L₁ := L.step0 p₁
    obtain ⟨m, ns, hvv⟩ := L₁.ns
    obtain ⟨_, _, _, its, ⟨n, hp⟩, rs⟩ := hvv x _ hx
    rw [hab] at hp
    refine ⟨⟨_, hp, rfl⟩, fun c e => (by cases e; exact ⟨_, hp, rfl⟩), ?_⟩
    refine callWith_den (first := [.ref b]) (keep_builtin "list.append") (denPs_cons h denPs_nil (fun env => by rw [hst]; rfl)) (fun env pos => by rw [hst]; rfl) R hE p₁.inv L₁ (l := [a]) (by simp [ha]) fun vs s₂ Z₂ p₂ r₂ => ?_
    obtain ⟨w, rfl, rw'⟩ := r₂.one
    have hp2 := p₂.keep _ _ (fun h => h) hp
    refine append_at (n := n) hp2 (fun h' hsb ho' => ?_) (by rw [List.size_toArray, rs.length]; unfold sizeLine; (first | lia | omega))
    have fs := (L₁.step0 p₂).upd (x := x) (tk := s₂.toks) (vs' := its ++ [w]) p₂.inv hx (by rw [hab]; exact hsb) ⟨n + 1, by rw [hab]; simpa using ho'⟩ ((p₂.reps0 rs).snoc rw')
    exact q .next _ Z₂ α ((FStep.pure L (p₁.tr p₂)).trans fs) trivial
  unfold wellPut at hfin
  by_cases h0 : k = 0
  · rw [if_pos h0] at hfin
    exact core "#0" a0 (by rw [h0]; rfl) hfin
  · rw [if_neg h0] at hfin
    by_cases h1 : k = 1
    · rw [if_pos h1] at hfin
      exact core "#1" a1 (by rw [h1]; rfl) hfin
    · rw [if_neg h1] at hfin; cases hfin
theorem Loc.phantom {h : Heap} {x : Str} {a : Addr} {vs : List Value} {l : List AV} (L : Loc W Z h env ρ α) (hk : env.kindOf x = none) (hp : isPh x = true) (ha : h.PlainList a vs.toArray) (r : RepVs Z h vs l) (hz : ¬ Z a) (hb : W.h₀.get? a = none ∧ ¬ W.X a) (hn : ∀ y l', ρ y = some (.own l') → α y ≠ a) :
    Loc W Z h env (ρ.set x (.own ⟨some a, l⟩)) (setA α x a) ∧ ∀ b, FOwn env (ρ.set x (.own ⟨some a, l⟩)) (setA α x a) b → FOwn env ρ α b ∨ b = a := by
  have fo : ∀ b, FOwn env (ρ.set x (.own ⟨some a, l⟩)) (setA α x a) b → FOwn env ρ α b ∨ b = a := fun b f => (store_fo b f).imp id fun ⟨_, e⟩ => e
  refine ⟨⟨?_, fun b f => (fo b f).elim (L.nz b) fun e => e ▸ hz, fun b f => (fo b f).elim (L.nb b) fun e => e ▸ hb, fun y m c hy hc => ?_, fun y z m m' hy hz' e => ?_, L.cell, L.cinj, L.slf⟩, fo⟩
  · obtain ⟨m, ns, hv⟩ := L.ns
    refine ⟨m, ns, fun y sv hy => ?_⟩
    unfold Slots.set at hy
    unfold setA
    by_cases e : y = x
    · rw [if_pos e] at hy ⊢
      cases hy
      exact ⟨.ref a, .inr (.inr ⟨e ▸ hk, e ▸ hp⟩), rfl, vs, ha, r⟩
    · rw [if_neg e] at hy ⊢; exact hv y sv hy
  · unfold Slots.set at hy
    unfold setA
    by_cases e : y = x
    · rw [if_pos e] at hy ⊢; cases hy; cases hc; rfl
    · rw [if_neg e] at hy ⊢; exact L.fix y m c hy hc
  · unfold Slots.set at hy hz'
    unfold setA at e
    by_cases e1 : y = x <;> by_cases e2 : z = x
    · rw [e1, e2]
    · rw [if_pos e1] at e; rw [if_neg e2] at e hz'; exact (hn z m' hz' e.symm).elim
    · rw [if_neg e1] at e hy; rw [if_pos e2] at e; exact (hn y m hy e).elim
    · rw [if_neg e1] at e hy; rw [if_neg e2] at e hz'; exact L.inj y z m m' hy hz' e
end
end Mine
end
section
set_option linter.unusedVariables false
namespace Mine
section
variable {W : Wd} {Z Z' Z₁ : AddrSet} {s s' s₁ : Shared} {env : Env} {sc : Scope} {ρ ρ' : Slots} {α α' : Str → Addr} {A : Around} {d : Nat}
noncomputable def wells0 (ρ : Slots) (a0 a1 : Addr) : Slots := ((ρ.set "wells" (.val (.lst [.raw (.ref a0), .raw (.ref a1)]))).set "#0" (.own ⟨some a0, []⟩)).set "#1" (.own ⟨some a1, []⟩)
theorem exec_wells {p p1 p2 p3 pos : Pos} (R : Room A d) (hE : EnvOk env sc) (I : Inv W Z s) (L : Loc W Z s.heap env ρ α) (hk : Kd sc "wells") (k0 : sc.names.lookup ("#0" : Str) = none) (k1 : sc.names.lookup ("#1" : Str) = none) {Q : Flow → Shared → Prop} {E' : Value → Shared → Prop}
    (q : ∀ s' Z' α' a0 a1, FStep W env Z s ρ α Z' s' (wells0 ρ a0 a1) α' → Q .next s') : wpAny W.M A (exec (.Assign [.Name "wells" p] (.List [.List [] p1, .List [] p2] p3) pos) env) Q E' s := by
  have hO : ∀ p, DenO W d sc (.List [] p) fun ρ => (some []) >>= fun l => if l.length ≤ 1000000 then some l else none := fun p => deno_list denPs_nil
  refine wpAny_Assign_Name (List_ (wpAny_items_cons (hO p1 A env Z s ρ α [] R hE I L rfl _ _ fun a0 vs0 s₁ Z₁ p₁ n0 z0 h0 r0 => wpAny_items_cons (hO p2 A env Z₁ s₁ ρ α [] R hE p₁.inv (L.step0 p₁) rfl _ _ fun a1 vs1 s₂ Z₂ p₂ n1 z1 h1 r1 => wpAny_items_nil (wpAny_newObj_type ?_ ?_))))) rfl
  · obtain ⟨c0, h0⟩ := h0
    obtain ⟨c1, h1⟩ := h1
    have h0' := p₂.keep _ _ id h0
    have z0' : ¬ Z₂ a0 := p₂.nz z0 id h0
    have hg := Heap.get?_push_size s₂.heap (o := { cls := .type "list", data := .seq [Value.ref a0, .ref a1].toArray }) rfl
    have p₃ : Step W .none Z₂ s₂ (fun b => Z₂ b ∨ b = s₂.heap.objs.size) { s₂ with heap := s₂.heap.push { cls := .type "list", data := .seq [Value.ref a0, .ref a1].toArray } } := .grow1 p₂.inv (tk := s₂.toks) (push_keep _ _) (push_none _) hg
    have L₃ := ((L.step0 p₁).step0 p₂).step0 p₃
    have rw' : RepV (fun b => Z₂ b ∨ b = s₂.heap.objs.size) (s₂.heap.push { cls := .type "list", data := .seq [Value.ref a0, .ref a1].toArray }) (.ref s₂.heap.objs.size) (.lst [.raw (.ref a0), .raw (.ref a1)]) :=
      .lst (.inr rfl) ⟨_, hg, rfl, rfl, 0, rfl⟩ (.cons (.raw _) (.cons (.raw _) .nil))
    refine L₃.storeV p₃.inv hE hk rw' fun s₄ α₄ p₄ => ?_
    have hs0 : s.heap.get? a1 = none := (p₁.none_back n1).resolve_left id
    have al : ∀ {a : Addr}, s.heap.get? a = none → ¬ FOwn env ρ α a := fun n f => by obtain ⟨o, e⟩ := L.alive f; rw [n] at e; cases e
    have hp0 : ∀ {a : Addr} {o : Obj}, s₂.heap.get? a = some o → s.heap.get? a = none → s₄.heap.get? a = some o := fun e n => p₄.step.keep _ _ (al n) (push_keep _ _ _ _ e)
    have e0 := hp0 h0' n0
    have e1 := hp0 h1 hs0
    have nw : ∀ {a : Addr} {o : Obj}, s₂.heap.get? a = some o → a ≠ s₂.heap.objs.size := fun e h => Nat.lt_irrefl _ (h ▸ Heap.lt_size e)
    have fow : ∀ b, FOwn env (ρ.set "wells" (.val (.lst [.raw (.ref a0), .raw (.ref a1)]))) α₄ b → FOwn env ρ α b ∨ s.heap.get? b = none := fun b f => (p₄.fo b f).imp id fun h => by
      cases e : s.heap.get? b with
      | none => rfl
      | some o => rw [push_keep _ _ _ _ (p₂.keep _ _ id (p₁.keep _ _ id e))] at h; cases h
    have nf : ∀ {a : Addr} {o : Obj}, s₂.heap.get? a = some o → s.heap.get? a = none → ¬ FOwn env (ρ.set "wells" (.val (.lst [.raw (.ref a0), .raw (.ref a1)]))) α₄ a := fun {a o} e n f => by
      rcases p₄.fo a f with h | h
      · exact al n h
      · have h : (s₂.heap.push { cls := .type "list", data := .seq [Value.ref a0, .ref a1].toArray }).get? a = none := h
        rw [push_keep _ _ _ _ e] at h; cases h
    have z4 : ∀ {a : Addr} {o : Obj}, ¬ Z₂ a → s₂.heap.get? a = some o → ¬ (Z₂ a ∨ a = s₂.heap.objs.size) := fun z e h => h.elim z (nw e)
    have ne01 : a0 ≠ a1 := fun h => by rw [h, n1] at h0; cases h0
    obtain ⟨L₅, fo₅⟩ := p₄.loc.phantom (x := "#0") (vs := []) (l := []) ((hE.kind _).trans k0) (by decide) ⟨c0, r0.nil' ▸ e0⟩ .nil (z4 z0' h0') ⟨I.fresh_b n0, I.fresh_x n0⟩ fun y l' hy e => nf h0' n0 (.inr (.inr ⟨y, l', hy, e⟩))
    obtain ⟨L₆, fo₆⟩ := L₅.phantom (x := "#1") (vs := []) (l := []) ((hE.kind _).trans k1) (by decide) ⟨c1, r1.nil' ▸ e1⟩ .nil (z4 z1 h1) ⟨I.fresh_b hs0, I.fresh_x hs0⟩ fun y l' hy e => by
      rcases fo₅ a1 (.inr (.inr ⟨y, l', hy, e⟩)) with h | h
      · exact nf h1 hs0 h
      · exact ne01 h.symm
    refine q s₄ _ _ a0 a1 ⟨(p₁.tr (p₂.tr p₃)).weak.trans p₄.step (fun _ h => .inl h) (fun _ h => h.elim), fun b f => ?_, L₆⟩
    rcases fo₆ b f with h | rfl
    · rcases fo₅ b h with h | rfl
      · exact fow b h
      · exact .inr n0
    · exact .inr hs0
  · show 2 ≤ sizeLine
    unfold sizeLine; (first | lia | omega)
theorem wells_freeze {a0 a1 : Addr} {b0 b1 : List AV} (I : Inv W Z s) (L : Loc W Z s.heap env ρ α) (hw : getV ρ "wells" = some (.lst [.raw (.ref a0), .raw (.ref a1)])) (h0 : ρ "#0" = some (.own ⟨some a0, b0⟩)) (h1 : ρ "#1" = some (.own ⟨some a1, b1⟩)) :
    ∃ Z', FStep W env Z s ρ α Z' s ((freeze "#1" (freeze "#0" ρ)).set "wells" (.val (.lst [.lst b0, .lst b1]))) α := by
  have e0 := L.fix _ _ _ h0 rfl
  have e1 := L.fix _ _ _ h1 rfl
  obtain ⟨Z₁, p₁, r₁⟩ := L.freezeR "#0" I
  have r0 := r₁ _ h0
  rw [e0] at r0
  have h1' : freeze "#0" ρ "#1" = some (.own ⟨some a1, b1⟩) := by
    unfold freeze
    rw [h0]
    exact h1
  obtain ⟨Z₂, p₂, r₂⟩ := p₁.loc.freezeR "#1" p₁.step.inv
  have r1 := r₂ _ h1'
  rw [e1] at r1
  have r0' := p₂.step.rep (fun b z f => p₁.loc.nz b f z) r0
  have hw2 : (freeze "#1" (freeze "#0" ρ)) "wells" = some (.val (.lst [.raw (.ref a0), .raw (.ref a1)])) := by
    have := getV_eq hw
    unfold freeze
    rw [h0]
    show (match (ρ.set "#0" (.val (.lst b0))) "#1" with | some (.own l) => (ρ.set "#0" (.val (.lst b0))).set "#1" (.val (.lst l.items)) | _ => ρ.set "#0" (.val (.lst b0))) "wells" = _
    have e : (ρ.set "#0" (.val (.lst b0))) "#1" = some (.own ⟨some a1, b1⟩) := h1
    rw [e]
    exact this
  have pp := p₁.trans p₂
  refine ⟨Z₂, pp.step, fun b f => pp.fo b ?_, ?_⟩
  · refine f.imp id (·.imp id fun ⟨y, l, hy, e⟩ => ⟨y, l, ?_, e⟩)
    unfold Slots.set at hy
    split at hy
    · cases hy
    · exact hy
  · have L₂ := pp.loc
    have ow : ∀ y l, ((freeze "#1" (freeze "#0" ρ)).set "wells" (.val (.lst [.lst b0, .lst b1]))) y = some (.own l) → (freeze "#1" (freeze "#0" ρ)) y = some (.own l) := fun y l e => by
      unfold Slots.set at e
      split at e
      · cases e
      · exact e
    have fo : ∀ a, FOwn env ((freeze "#1" (freeze "#0" ρ)).set "wells" (.val (.lst [.lst b0, .lst b1]))) α a → FOwn env (freeze "#1" (freeze "#0" ρ)) α a := fun a f => f.imp id (·.imp id fun ⟨y, l, e, h⟩ => ⟨y, l, ow y l e, h⟩)
    refine ⟨?_, fun a f => L₂.nz a (fo a f), fun a f => L₂.nb a (fo a f), fun y l b e => L₂.fix y l b (ow y l e), fun y z l l' e e' => L₂.inj y z l l' (ow y l e) (ow z l' e'), L₂.cell, L₂.cinj, L₂.slf⟩
    obtain ⟨m, hm, hs⟩ := L₂.ns
    refine ⟨m, hm, fun y sv e => ?_⟩
    unfold Slots.set at e
    split at e
    · rename_i hy
      subst hy
      cases e
      obtain ⟨v', at', r'⟩ := hs _ _ hw2
      refine ⟨v', at', ?_⟩
      obtain ⟨b, vs, rfl, zb, hl, rl⟩ := RepV.lstP (show RepV Z₂ s.heap v' (.lst [.raw (.ref a0), .raw (.ref a1)]) from r')
      obtain ⟨u0, us, rfl, ru0, rus⟩ := rl.cons'
      obtain ⟨u1, us, rfl, ru1, rus⟩ := rus.cons'
      rw [rus.nil'] at hl
      cases ru0
      cases ru1
      exact .lst zb hl (.cons r0' (.cons r1 .nil))
    · exact hs y sv e
end
end Mine
end
section
set_option linter.unusedVariables false
namespace Mine
structure ThreeT where
  c1 : Pos
  c2 : Pos
  c3 : Pos
  i1 : Pos
  i2 : Pos
  i3 : Pos
  i4 : Pos
  i5 : Pos
  j1 : Pos
  j2 : Pos
  j3 : Pos
  j4 : Pos
  j5 : Pos
  k0 : Nat
  k1 : Nat
  k : Nat
  tp : Pos
  t1 : Pos
  t2 : Pos
  t3 : Pos
  t4 : Pos
  tk : Nat
  pos : Pos
noncomputable def ThreeT.e0 (t : ThreeT) : Expr := .Call (.Name "HtmlDiff" t.c1) [.Name "stop" t.c2] [] t.c3
noncomputable def ThreeT.e1 (t : ThreeT) : Expr := .Call (.Name "iter" t.i1) [.Subscript (.Name "wells" t.i2) (.Constant (.int 0) t.k0 t.i3) t.i4] [] t.i5
noncomputable def ThreeT.e2 (t : ThreeT) : Expr := .Call (.Name "iter" t.j1) [.Subscript (.Name "wells" t.j2) (.Constant (.int 1) t.k1 t.j3) t.j4] [] t.j5
noncomputable def ThreeT.tgt (t : ThreeT) : Expr := .Tuple [.Name "sheet" t.t1, .Name "first" t.t2, .Name "second" t.t3] t.tk t.t4
noncomputable def ThreeT.val (t : ThreeT) : Expr := .Tuple [t.e0, t.e1, t.e2] t.k t.tp
noncomputable def ThreeT.stmt (t : ThreeT) : Stmt := .Assign [t.tgt] t.val t.pos
section
variable {W : Wd} {Z Z' Z₁ : AddrSet} {s s' s₁ : Shared} {env : Env} {sc : Scope} {ρ ρ' : Slots} {α α' : Str → Addr} {A : Around} {d : Nat}
theorem eval_iter {i1 i2 i3 i4 i5 : Pos} {k0 : Nat} {n : Int} {b : List AV} {ls : List AV} (hg : W.Glob "iter" (.builtin "iter")) (hk : sc.names.lookup ("iter" : Str) = some .globalImplicit) (R : Room A d) (hE : EnvOk env sc) (I : Inv W Z s) (L : Loc W Z s.heap env ρ α) (hw : getV ρ "wells" = some (.lst ls)) (hn : idxA (.lst ls) (.int n) = some (.lst b)) {Q : Value → Shared → Prop} {E' : Value → Shared → Prop}
    (q : ∀ it w s' Z', Step W .none Z s Z' s' → s.heap.get? it = none → Well Z' s'.heap it w b 0 → Q (.ref it) s') : wpAny W.M A (eval (.Call (.Name "iter" i1) [.Subscript (.Name "wells" i2) (.Constant (.int n) k0 i3) i4] [] i5) env) Q E' s := by
  show wpAny W.M A (do callWith i5 (← eval (.Name "iter" i1) env) [] (backTo i5 (starEach [.Subscript (.Name "wells" i2) (.Constant (.int n) k0 i3) i4] env)) (backToKw i5 (keywordEach [] env))) _ _ _
  have hden := den_idx (pos := i4) (den_name (W := W) (d := d) (sc := sc) "wells" i2 (by decide) (by decide)) (den_int n k0 i3) (fun _ _ => rfl)
  refine wpAny_bind (load_glob hE I hg hk (by decide) (callWith_of (P := W.K.In) rfl (keep_builtin "iter") (evalArgs_ns rfl (wpAny_items_cons (hden A env Z s ρ α (.lst b) R hE I L (by show (getV ρ "wells" >>= _) = _; rw [hw]; exact hn) _ _ fun v s₁ Z₁ p₁ r₁ => wpAny_items_nil ⟨p₁.inv.kin, ?_⟩)))))
  obtain ⟨w, vs, rfl, zw, hl, rl⟩ := RepV.lstP r₁
  have hN : s₁.heap.get? s₁.heap.objs.size = none := push_none _
  have p₂ : Step W .none Z₁ s₁ Z₁ { s₁ with heap := s₁.heap.push { cls := .type "list_iterator", data := .fields #[.ref w, .int 0 0] } } := .grow p₁.inv (tk := s₁.toks) (push_keep _ _)
  refine call_iter_list hl.list (q s₁.heap.objs.size w _ Z₁ (p₁.tr p₂) ((p₁.none_back hN).resolve_left id) ⟨⟨vs, (let ⟨o, ho, r⟩ := hl; ⟨o, push_keep _ _ _ _ ho, r⟩), p₂.reps0 rl⟩, zw, p₁.inv.fresh_z hN, Nat.zero_le _, .inl ⟨_, Heap.get?_push_size _ rfl, rfl, rfl⟩⟩)
theorem Well.step {it w : Addr} {b : List AV} {i : Nat} (x : Well Z s.heap it w b i) (p : Step W .none Z s Z' s') : Well Z' s'.heap it w b i :=
  let ⟨o, e⟩ := x.alive
  x.move p.zsub (fun a o _ e => p.keep a o id e) (p.nz x.nz id e) x.le (x.at'.at fun o e => p.keep _ o id e)
theorem Well.fstep {it w : Addr} {b : List AV} {i : Nat} (x : Well Z s.heap it w b i) (L : Loc W Z s.heap env ρ α) (hf : ¬ FOwn env ρ α it) (p : FStep W env Z s ρ α Z' s' ρ' α') : Well Z' s'.heap it w b i ∧ ¬ FOwn env ρ' α' it :=
  let ⟨o, e⟩ := x.alive
  ⟨x.move p.step.zsub (fun a o z e => p.step.keep a o (fun f => L.nz a f z) e) (p.step.nz x.nz hf e) x.le (x.at'.at fun o e => p.step.keep _ o hf e), fun f => (p.fo it f).elim hf fun h => by rw [h] at e; cases e⟩
noncomputable def threeS (ρ : Slots) (it0 it1 : Addr) (me : AV) : Slots := setMany ρ (["sheet", "first", "second"] : List Str).reverse ([SV.val me, .val (.raw (.ref it0)), .val (.raw (.ref it1))] : List SV).reverse
theorem exec_three {t : ThreeT} {C : Addr} {me stop : AV} {b0 b1 : List AV} {GC : List AV → Option AV} (hgi : W.Glob "iter" (.builtin "iter")) (hki : sc.names.lookup ("iter" : Str) = some .globalImplicit) (hgC : W.Glob "HtmlDiff" (.ref C)) (hkC : sc.names.lookup ("HtmlDiff" : Str) = some .globalImplicit) (hko : KeepOk W (.ref C)) (hC : FSpec W d (.ref C) GC)
    (hk : ∀ x ∈ (["sheet", "first", "second"] : List Str), Kd sc x) (h1 : ∀ env : Env, env.scope = sc → swapsWithSole [t.tgt] t.val t.pos.line env = pure false) (h2 : ∀ env : Env, env.scope = sc → swappedStores [t.tgt] t.val env = pure (some (["sheet", "first", "second"] : List Str)))
    (R : Room A d) (hE : EnvOk env sc) (I : Inv W Z s) (L : Loc W Z s.heap env ρ α) (hst : getV ρ "stop" = some stop) (hme : GC [stop] = some me) (hw : getV ρ "wells" = some (.lst [.lst b0, .lst b1])) {Q : Flow → Shared → Prop} {E' : Value → Shared → Prop}
    (q : ∀ it0 it1 w0 w1 s' Z' α', FStep W env Z s ρ α Z' s' (threeS ρ it0 it1 me) α' → Well Z' s'.heap it0 w0 b0 0 → Well Z' s'.heap it1 w1 b1 0 → it0 ≠ it1 → (∀ a, (a = it0 ∨ a = it1) → (W.h₀.get? a = none ∧ ¬ W.X a) ∧ ¬ FOwn env (threeS ρ it0 it1 me) α' a) → Q .next s') :
    wpAny W.M A (exec t.stmt env) Q E' s := by
  have hd0 : DenP W d sc t.e0 fun ρ => (getV ρ "stop" >>= fun a => (some []) >>= fun l => some (a :: l)) >>= GC :=
    den_call hgC hkC (by decide) hko (denPs_cons (den_name "stop" _ (by decide) (by decide)) denPs_nil (fun _ => rfl)) (fun _ _ => rfl) hC
  refine exec_Assign (h1 env hE.scope) (h2 env hE.scope) ?_
  refine Tuple_ (wpAny_items_cons (hd0 A env Z s ρ α me R hE I L (by show ((getV ρ "stop" >>= _) >>= _) = _; rw [hst]; exact hme) _ _ fun v0 s₁ Z₁ p₁ r₁ => wpAny_items_cons (eval_iter hgi hki R hE p₁.inv (L.step0 p₁) hw (n := 0) rfl fun it0 w0 s₂ Z₂ p₂ n0 wl0 => wpAny_items_cons (eval_iter hgi hki R hE p₂.inv ((L.step0 p₁).step0 p₂) hw (n := 1) rfl fun it1 w1 s₃ Z₃ p₃ n1 wl1 => wpAny_items_nil (wpAny_newObj_type ?_ ?_)))))
  · have p₄ : Step W .none Z₃ s₃ Z₃ { s₃ with heap := s₃.heap.push { cls := .type "tuple", data := .seq [v0, .ref it0, .ref it1].toArray } } := .grow p₃.inv (tk := s₃.toks) (push_keep _ _)
    have ht : IsTup (s₃.heap.push { cls := .type "tuple", data := .seq [v0, .ref it0, .ref it1].toArray }) s₃.heap.objs.size [v0, Value.ref it0, .ref it1].toArray := ⟨_, Heap.get?_push_size _ rfl, rfl, 0, rfl⟩
    show wpAny _ _ (do rule "assign.swapped-stores"; let items ← unpackItems (.ref s₃.heap.objs.size) 3 none; assignInOrder ((["sheet", "first", "second"] : List Str).reverse.map fun n => bindName env n) items.reverse; pure Flow.next) _ _ _
    refine wpAny_bind (wpAny_rule (wpAny_bind (unpackItems_tuple (items := [v0, Value.ref it0, .ref it1].toArray) R.handled ht fun h' hx => ?_)))
    have p₅ : Step W .none Z₃ { s₃ with heap := s₃.heap.push { cls := .type "tuple", data := .seq [v0, .ref it0, .ref it1].toArray } } Z₃ { s₃ with heap := h' } := .grow p₄.inv (tk := s₃.toks) fun b o e => hx b o (Nat.ne_of_lt (Heap.lt_size e)) e
    have pA := p₁.tr (p₂.tr (p₃.tr (p₄.tr p₅)))
    have s0none : s.heap.get? it0 = none := (p₁.none_back n0).resolve_left id
    have s1none : s.heap.get? it1 = none := ((p₁.tr p₂).none_back n1).resolve_left id
    have wA := ((wl0.step p₃).step p₄).step p₅
    have wB := (wl1.step p₄).step p₅
    have hne : it0 ≠ it1 := fun h => by obtain ⟨o, e⟩ := wl0.alive; rw [h, n1] at e; cases e
    have L₅ := L.step0 pA
    have nf : ∀ a, s.heap.get? a = none → ¬ FOwn env ρ α a := fun a h f => by obtain ⟨o, e⟩ := L.alive f; rw [h] at e; cases e
    have rs : SReps Z₃ h' { s₃ with heap := h' } [v0, .ref it0, .ref it1] [.val me, .val (.raw (.ref it0)), .val (.raw (.ref it1))] [] :=
      .val ((p₂.tr (p₃.tr (p₄.tr p₅))).rep0 r₁) (.val (.raw _) (.val (.raw _) .nil))
    obtain ⟨as', rr, hsub⟩ := rs.reverse
    refine wpAny_bind (storeMany (s₀ := { s₃ with heap := h' }) p₅.inv L₅ hE (stores_binds (["sheet", "first", "second"] : List Str).reverse) rr rfl (fun x hx => hk x (List.mem_reverse.mp hx)) (fun b hb => by cases hsub b hb) (.id p₅.inv L₅) fun s' α' p' => wpAny_pure ?_)
    obtain ⟨wA', fA⟩ := wA.fstep L₅ (nf _ s0none) p'
    obtain ⟨wB', fB⟩ := wB.fstep L₅ (nf _ s1none) p'
    refine q it0 it1 w0 w1 s' Z₃ α' ((FStep.pure L pA).trans p') wA' wB' hne ?_
    rintro a (rfl | rfl)
    · exact ⟨⟨I.fresh_b s0none, I.fresh_x s0none⟩, fA⟩
    · exact ⟨⟨I.fresh_b s1none, I.fresh_x s1none⟩, fB⟩
  · show 3 ≤ sizeLine
    unfold sizeLine; (first | lia | omega)
end
end Mine
end
section
set_option maxRecDepth 100000
namespace Mine
noncomputable def W07 (w : World) (h₀ : Heap) (mg mb : Str → Option Value) (os : OsState) (X Z₀ : AddrSet) : Wd := ⟨P07, w, kk0 w.params, h₀, mg, mb, os, X, Z₀⟩
noncomputable def nopass : Stmt := .Pass ⟨0, 0, 0, 0⟩
noncomputable def bdWords : List Stmt := bodyOf (stAt P07 9)
noncomputable def scWords : Scope := scopeOf (stAt P07 9)
noncomputable def bdFilled : List Stmt := bodyOf (stAt P07 10)
noncomputable def scFilled : Scope := scopeOf (stAt P07 10)
noncomputable def bdLaw : List Stmt := bodyOf (stAt P07 11)
noncomputable def scLaw : Scope := scopeOf (stAt P07 11)
noncomputable def bdPre : List Stmt := bdLaw.take 3
noncomputable def stWells : Stmt := bdLaw.getD 3 nopass
noncomputable def bdFill : List Stmt := (bdLaw.drop 4).take 1
noncomputable def bdDue : List Stmt := (bdLaw.drop 5).take 3
noncomputable def stThree : Stmt := bdLaw.getD 8 nopass
noncomputable def stLoop : Stmt := bdLaw.getD 9 nopass
noncomputable def stRet : Stmt := bdLaw.getD 10 nopass
theorem law_split : bdLaw = bdPre ++ (stWells :: (bdFill ++ (bdDue ++ [stThree, stLoop, stRet]))) := by kernel_rfl
noncomputable def bdTnr : List Stmt := bodyOf (inBody (stAt P07 7) 7)
noncomputable def scTnr : Scope := scopeOf (inBody (stAt P07 7) 7)
noncomputable def stExp : Stmt := bdTnr.getD 0 nopass
noncomputable def bdExp : List Stmt := bodyOf stExp
noncomputable def scExp : Scope := scopeOf stExp
noncomputable def bdRest : List Stmt := bdTnr.drop 1
noncomputable def bdInit : List Stmt := bodyOf (inBody (stAt P07 7) 5)
noncomputable def scInit : Scope := scopeOf (inBody (stAt P07 7) 5)
section
variable {w : World} {h₀ : Heap} {mg mb : Str → Option Value} {os : OsState} {X Z₀ : AddrSet}
theorem gl_len : (W07 w h₀ mg mb os X Z₀).Glob "len" (.builtin "len") := .inr ⟨by kernel_rfl, by kernel_rfl, by decide⟩
theorem gl_abs : (W07 w h₀ mg mb os X Z₀).Glob "abs" (.builtin "abs") := .inr ⟨by kernel_rfl, by kernel_rfl, by decide⟩
theorem gl_isi : (W07 w h₀ mg mb os X Z₀).Glob "isinstance" (.builtin "isinstance") := .inr ⟨by kernel_rfl, by kernel_rfl, by decide⟩
theorem gl_iter : (W07 w h₀ mg mb os X Z₀).Glob "iter" (.builtin "iter") := .inr ⟨by kernel_rfl, by kernel_rfl, by decide⟩
theorem gl_range : (W07 w h₀ mg mb os X Z₀).Glob "range" (.type "range") := .inr ⟨by kernel_rfl, by kernel_rfl, by decide⟩
theorem gl_str : (W07 w h₀ mg mb os X Z₀).Glob "str" (.type "str") := .inr ⟨by kernel_rfl, by kernel_rfl, by decide⟩
theorem gl_bytes : (W07 w h₀ mg mb os X Z₀).Glob "bytes" (.type "bytes") := .inr ⟨by kernel_rfl, by kernel_rfl, by decide⟩
theorem gl_int : (W07 w h₀ mg mb os X Z₀).Glob "int" (.type "int") := .inr ⟨by kernel_rfl, by kernel_rfl, by decide⟩
theorem gl_aerr : (W07 w h₀ mg mb os X Z₀).Glob "AttributeError" (.type "AttributeError") := .inr ⟨by kernel_rfl, by kernel_rfl, by decide⟩
theorem gl_terr : (W07 w h₀ mg mb os X Z₀).Glob "TypeError" (.type "TypeError") := .inr ⟨by kernel_rfl, by kernel_rfl, by decide⟩
theorem gl_words : (W07 w h₀ mg mb os X Z₀).Glob "_law_words" (.ref 122) := .inl (by kernel_rfl)
theorem gl_filled : (W07 w h₀ mg mb os X Z₀).Glob "_law_filled" (.ref 129) := .inl (by kernel_rfl)
theorem gl_diff : (W07 w h₀ mg mb os X Z₀).Glob "HtmlDiff" (.ref 111) := .inl (by kernel_rfl)
theorem at_tab : plainGet (W07 w h₀ mg mb os X Z₀).K 111 "_tabsize" = true := by kernel_rfl
theorem at_dict : hasDictIn (W07 w h₀ mg mb os X Z₀).K 111 = true := by kernel_rfl
theorem at_find : findIn (W07 w h₀ mg mb os X Z₀).K (.ref 111) "_tabsize" = some none := by kernel_rfl
theorem me_get : plainGet (W07 w h₀ mg mb os X Z₀).K 111 "_tab_newline_replace" = true := by kernel_rfl
theorem me_find : findIn (W07 w h₀ mg mb os X Z₀).K (.ref 111) "_tab_newline_replace" = some (some (.ref 58)) := by kernel_rfl
theorem me_fn : isFn (W07 w h₀ mg mb os X Z₀).K (.ref 58) = true := by kernel_rfl
theorem me_keep : KeepOk (W07 w h₀ mg mb os X Z₀) (.ref 58) := keep_K (by kernel_rfl)
theorem ke_words : KeepOk (W07 w h₀ mg mb os X Z₀) (.ref 122) := keep_K (by kernel_rfl)
theorem ke_filled : KeepOk (W07 w h₀ mg mb os X Z₀) (.ref 129) := keep_K (by kernel_rfl)
theorem ke_diff : KeepOk (W07 w h₀ mg mb os X Z₀) (.ref 111) := keep_K (by kernel_rfl)
theorem has_words : (fdAt (W07 w h₀ mg mb os X Z₀).K 122).isSome = true := by kernel_rfl
theorem has_filled : (fdAt (W07 w h₀ mg mb os X Z₀).K 129).isSome = true := by kernel_rfl
theorem has_tnr : (fdAt (W07 w h₀ mg mb os X Z₀).K 58).isSome = true := by kernel_rfl
theorem has_init : (fdAt (W07 w h₀ mg mb os X Z₀).K 44).isSome = true := by kernel_rfl
theorem fn_words : FnK (W07 w h₀ mg mb os X Z₀) 122 (fdK (W07 w h₀ mg mb os X Z₀).K 122 has_words) bdWords := fnk_of has_words (by kernel_rfl) (by kernel_rfl) (by kernel_rfl) (by kernel_rfl) (by kernel_rfl) (by kernel_rfl) (by kernel_rfl) (by kernel_rfl) (by kernel_rfl)
theorem fn_filled : FnK (W07 w h₀ mg mb os X Z₀) 129 (fdK (W07 w h₀ mg mb os X Z₀).K 129 has_filled) bdFilled := fnk_of has_filled (by kernel_rfl) (by kernel_rfl) (by kernel_rfl) (by kernel_rfl) (by kernel_rfl) (by kernel_rfl) (by kernel_rfl) (by kernel_rfl) (by kernel_rfl)
theorem fn_init : FnK (W07 w h₀ mg mb os X Z₀) 44 (fdK (W07 w h₀ mg mb os X Z₀).K 44 has_init) bdInit := fnk_of has_init (by kernel_rfl) (by kernel_rfl) (by kernel_rfl) (by kernel_rfl) (by kernel_rfl) (by kernel_rfl) (by kernel_rfl) (by kernel_rfl) (by kernel_rfl)
theorem sc_words : (fdK (W07 w h₀ mg mb os X Z₀).K 122 has_words).scope = scWords := by kernel_rfl
theorem sc_filled : (fdK (W07 w h₀ mg mb os X Z₀).K 129 has_filled).scope = scFilled := by kernel_rfl
theorem sc_init : (fdK (W07 w h₀ mg mb os X Z₀).K 44 has_init).scope = scInit := by kernel_rfl
theorem sc_tnr : (fdK (W07 w h₀ mg mb os X Z₀).K 58 has_tnr).scope = scTnr := by kernel_rfl
theorem cls_diff : ClsK (W07 w h₀ mg mb os X Z₀) 111 44 := ⟨by kernel_rfl, by kernel_rfl, by kernel_rfl, by kernel_rfl, by kernel_rfl, by kernel_rfl, by kernel_rfl⟩
end
end Mine
end
section
set_option linter.unusedVariables false
set_option maxRecDepth 100000
set_option maxHeartbeats 4000000
namespace Mine
section
variable {w : World} {h₀ : Heap} {mg mb : Str → Option Value} {os : OsState} {X Z₀ : AddrSet} {d : Nat}
noncomputable def fWrd_k1  : Slots → Option (AFlow × Slots) := fun ρ => (((((((some (.str "AttributeError: '")) >>= fun a => (getV ρ "kind") >>= fun b => binA .Add a b)) >>= fun a => (some (.str "' object has no attribute 'replace'")) >>= fun b => binA .Add a b)) >>= fun a => some (.ret a, ρ)) >>= thenA (fun ρ => some (.next, ρ)))
noncomputable def fWrd_k2  : Slots → Option (AFlow × Slots) := fun ρ => (((((((getV ρ "thing") >>= fun a => (some .none) >>= fun b => cmpA .Is a b)) >>= fun x => if x = true then (some (.str "NoneType")) else ((((((((getV ρ "thing") >>= fun a => ((some (.raw (.type "int"))) >>= fun a => (some []) >>= fun l => some (a :: l)) >>= fun l => some (a :: l)) >>= isiF)) >>= truthA)) >>= fun x => if x = true then (some (.str "int")) else (some (.str "list")))))) >>= fun a => some (.next, Slots.set ρ "kind" (.val a))) >>= thenA fWrd_k1)
noncomputable def fWrd_k3  : Slots → Option (AFlow × Slots) := fun ρ => ((((((((getV ρ "thing") >>= fun a => ((some (.raw (.type "bytes"))) >>= fun a => (some []) >>= fun l => some (a :: l)) >>= fun l => some (a :: l)) >>= isiF)) >>= truthA)) >>= fun b => if b = true then ((((some (.str "TypeError: a bytes-like object is required, not 'str'")) >>= fun a => some (.ret a, ρ)) >>= thenA (fun ρ => some (.next, ρ)))) else (some (.next, ρ))) >>= thenA fWrd_k2)
noncomputable def fWrd  : Slots → Option (AFlow × Slots) := fun ρ => ((((((((getV ρ "thing") >>= fun a => ((some (.raw (.type "str"))) >>= fun a => (some []) >>= fun l => some (a :: l)) >>= fun l => some (a :: l)) >>= isiF)) >>= truthA)) >>= fun b => if b = true then ((((((((getV ρ "stop") >>= fun a => (some (.str "4")) >>= fun b => cmpA .NotEq a b)) >>= fun x => if x = true then (some (.str "")) else (some (.str "TypeError: 'str' object cannot be interpreted as an integer")))) >>= fun a => some (.ret a, ρ)) >>= thenA (fun ρ => some (.next, ρ)))) else (some (.next, ρ))) >>= thenA fWrd_k3)
theorem fWrd_den  : DenSs (W07 w h₀ mg mb os X Z₀) d scWords bdWords fWrd :=
  (dens_cons (den_if (denT_val (den_call gl_isi (by kernel_rfl) (by kernel_rfl) (keep_builtin _) (denPs_cons (den_name "thing" _ (by kernel_rfl) (by kernel_rfl)) (denPs_cons (den_glob gl_str (by kernel_rfl) (by kernel_rfl)) denPs_nil (fun _ => rfl)) (fun _ => rfl)) (fun _ _ => rfl) spec_isi) (fun _ _ => rfl)) (dens_cons (den_return (den_ite (denT_cmp (den_name "stop" _ (by kernel_rfl) (by kernel_rfl)) (den_str _ _ _) rfl) (den_str _ _ _) (den_str _ _ _))) dens_nil) dens_nil) (dens_cons (den_if (denT_val (den_call gl_isi (by kernel_rfl) (by kernel_rfl) (keep_builtin _) (denPs_cons (den_name "thing" _ (by kernel_rfl) (by kernel_rfl)) (denPs_cons (den_glob gl_bytes (by kernel_rfl) (by kernel_rfl)) denPs_nil (fun _ => rfl)) (fun _ => rfl)) (fun _ _ => rfl) spec_isi) (fun _ _ => rfl)) (dens_cons (den_return (den_str _ _ _)) dens_nil) dens_nil) (dens_cons (den_assign (den_ite (denT_cmp (den_name "thing" _ (by kernel_rfl) (by kernel_rfl)) (den_none _ _) rfl) (den_str _ _ _) (den_ite (denT_val (den_call gl_isi (by kernel_rfl) (by kernel_rfl) (keep_builtin _) (denPs_cons (den_name "thing" _ (by kernel_rfl) (by kernel_rfl)) (denPs_cons (den_glob gl_int (by kernel_rfl) (by kernel_rfl)) denPs_nil (fun _ => rfl)) (fun _ => rfl)) (fun _ _ => rfl) spec_isi) (fun _ _ => rfl)) (den_str _ _ _) (den_str _ _ _))) (.inl (by kernel_rfl)) (fun _ => rfl)) (dens_cons (den_return (den_bin (den_bin (den_str _ _ _) (den_name "kind" _ (by kernel_rfl) (by kernel_rfl))) (den_str _ _ _))) dens_nil))))
noncomputable def fFil_T1  : AV → Slots → Option Slots := (fun a ρ => some (Slots.set ρ "sign" (.val a)))
noncomputable def fFil_B2  : Slots → Option (AFlow × Slots) := fun ρ => (((((getV ρ "sign") >>= fun a => (some (.str "\t")) >>= fun b => cmpA .Eq a b)) >>= fun b => if b = true then ((((getV ρ "out") >>= fun a => (((((getV ρ "stop") >>= fun a => (some (.int 0)) >>= fun b => cmpA .Gt a b)) >>= fun x => if x = true then (((some (.str "\t")) >>= fun a => (((getV ρ "stop") >>= fun a => ((((((getV ρ "out") >>= fun a => (some []) >>= fun l => some (a :: l)) >>= lenF)) >>= fun a => (getV ρ "stop") >>= fun b => binA .Mod a b)) >>= fun b => binA .Sub a b)) >>= fun b => binA .Mult a b)) else (some (.str "")))) >>= fun b => augA .Add a b >>= fun c => some (.next, Slots.set ρ "out" (.val c))) >>= thenA (fun ρ => some (.next, ρ)))) else ((((((getV ρ "sign") >>= fun a => (some (.str "\n")) >>= fun b => cmpA .NotEq a b)) >>= fun b => if b = true then ((((getV ρ "out") >>= fun a => (((((getV ρ "sign") >>= fun a => (some (.str "\x00")) >>= fun b => cmpA .Eq a b)) >>= fun x => if x = true then (some (.str " ")) else (getV ρ "sign"))) >>= fun b => augA .Add a b >>= fun c => some (.next, Slots.set ρ "out" (.val c))) >>= thenA (fun ρ => some (.next, ρ)))) else (some (.next, ρ))) >>= thenA (fun ρ => some (.next, ρ))))) >>= thenA (fun ρ => some (.next, ρ)))
noncomputable def fFil_k3  : Slots → Option (AFlow × Slots) := fun ρ => (((getV ρ "out") >>= fun a => some (.ret a, ρ)) >>= thenA (fun ρ => some (.next, ρ)))
noncomputable def fFil_k4  : Slots → Option (AFlow × Slots) := fun ρ => (((((getV ρ "line") >>= iterA)) >>= fun items => forA fFil_T1 fFil_B2 items ρ) >>= thenA fFil_k3)
noncomputable def fFil  : Slots → Option (AFlow × Slots) := fun ρ => (((some (.str "")) >>= fun a => some (.next, Slots.set ρ "out" (.val a))) >>= thenA fFil_k4)
theorem fFil_den  : DenSs (W07 w h₀ mg mb os X Z₀) d scFilled bdFilled fFil :=
  (dens_cons (den_assign (den_str _ _ _) (.inl (by kernel_rfl)) (fun _ => rfl)) (dens_cons (den_for (it_val (den_name "line" _ (by kernel_rfl) (by kernel_rfl)) (by constructor)) (tg_name (.inl (by kernel_rfl))) (dens_cons (den_if (denT_cmp (den_name "sign" _ (by kernel_rfl) (by kernel_rfl)) (den_str _ _ _) rfl) (dens_cons (den_aug (den_ite (denT_cmp (den_name "stop" _ (by kernel_rfl) (by kernel_rfl)) (den_int _ _ _) rfl) (den_bin (den_str _ _ _) (den_bin (den_name "stop" _ (by kernel_rfl) (by kernel_rfl)) (den_bin (den_call gl_len (by kernel_rfl) (by kernel_rfl) (keep_builtin _) (denPs_cons (den_name "out" _ (by kernel_rfl) (by kernel_rfl)) denPs_nil (fun _ => rfl)) (fun _ _ => rfl) spec_len) (den_name "stop" _ (by kernel_rfl) (by kernel_rfl))))) (den_str _ _ _)) (.inl (by kernel_rfl)) (by kernel_rfl)) dens_nil) (dens_cons (den_if (denT_cmp (den_name "sign" _ (by kernel_rfl) (by kernel_rfl)) (den_str _ _ _) rfl) (dens_cons (den_aug (den_ite (denT_cmp (den_name "sign" _ (by kernel_rfl) (by kernel_rfl)) (den_str _ _ _) rfl) (den_str _ _ _) (den_name "sign" _ (by kernel_rfl) (by kernel_rfl))) (.inl (by kernel_rfl)) (by kernel_rfl)) dens_nil) dens_nil) dens_nil)) dens_nil) (fun _ _ => rfl)) (dens_cons (den_return (den_name "out" _ (by kernel_rfl) (by kernel_rfl))) dens_nil)))
noncomputable def fExp_k1  : Slots → Option (AFlow × Slots) := fun ρ => (((((((getV ρ "line") >>= replA "\x00" " ")) >>= fun a => strArg a >>= fun x => ((some (.str "\n")) >>= fun a => (some []) >>= fun l => some (a :: l)) >>= fun l => rstripF (.str x :: l))) >>= fun a => some (.ret a, ρ)) >>= thenA (fun ρ => some (.next, ρ)))
noncomputable def fExp_k2  : Slots → Option (AFlow × Slots) := fun ρ => (((((getV ρ "line") >>= replA " " "\t")) >>= fun a => some (.next, Slots.set ρ "line" (.val a))) >>= thenA fExp_k1)
noncomputable def fExp_k3  : Slots → Option (AFlow × Slots) := fun ρ => (((((getV ρ "line") >>= fun a => strArg a >>= fun x => ((((getV ρ "self") >>= attrA 111 "_tabsize")) >>= fun a => (some []) >>= fun l => some (a :: l)) >>= fun l => expandF (.str x :: l))) >>= fun a => some (.next, Slots.set ρ "line" (.val a))) >>= thenA fExp_k2)
noncomputable def fExp  : Slots → Option (AFlow × Slots) := fun ρ => (((((getV ρ "line") >>= replA " " "\x00")) >>= fun a => some (.next, Slots.set ρ "line" (.val a))) >>= thenA fExp_k3)
theorem fExp_den  : DenSs (W07 w h₀ mg mb os X Z₀) d scExp bdExp fExp :=
  (dens_cons (den_assign (den_replace (den_name "line" _ (by kernel_rfl) (by kernel_rfl)) (by kernel_rfl) (fun _ => rfl) rfl) (.inl (by kernel_rfl)) (fun _ => rfl)) (dens_cons (den_assign (den_meth_str (den_name "line" _ (by kernel_rfl) (by kernel_rfl)) (fun _ => rfl) (fun _ => rfl) rfl F.slot_str_expandtabs F.type_str_expandtabs (denPs_cons (den_attr at_tab at_dict at_find (by kernel_rfl) (by kernel_rfl)) denPs_nil (fun _ => rfl)) (fun _ _ => rfl) spec_expand) (.inl (by kernel_rfl)) (fun _ => rfl)) (dens_cons (den_assign (den_replace (den_name "line" _ (by kernel_rfl) (by kernel_rfl)) (by kernel_rfl) (fun _ => rfl) rfl) (.inl (by kernel_rfl)) (fun _ => rfl)) (dens_cons (den_return (den_meth_str (den_replace (den_name "line" _ (by kernel_rfl) (by kernel_rfl)) (by kernel_rfl) (fun _ => rfl) rfl) (fun _ => rfl) (fun _ => rfl) rfl F.slot_str_rstrip F.type_str_rstrip (denPs_cons (den_str _ _ _) denPs_nil (fun _ => rfl)) (fun _ _ => rfl) spec_rstrip)) dens_nil))))
noncomputable def fPre_T1  : AV → Slots → Option Slots := (fun a ρ => some (Slots.set ρ "x" (.val a)))
noncomputable def fPre_f2  : Slots → Option AV := fun ρ => (((getV ρ "x") >>= fun a => (some []) >>= fun l => some (a :: l)) >>= absF)
noncomputable def fPre_k3  : Slots → Option (AFlow × Slots) := fun ρ => ((((((((((some (.int 1)) >>= negA)) >>= fun a => ((some (.int 0)) >>= fun a => ((some (.int 1)) >>= fun a => ((some (.int 2)) >>= fun a => ((some (.int 3)) >>= fun a => ((some (.int 4)) >>= fun a => ((some (.int 5)) >>= fun a => ((some (.int 6)) >>= fun a => ((some (.str "4")) >>= fun a => (some []) >>= fun l => some (a :: l)) >>= fun l => some (a :: l)) >>= fun l => some (a :: l)) >>= fun l => some (a :: l)) >>= fun l => some (a :: l)) >>= fun l => some (a :: l)) >>= fun l => some (a :: l)) >>= fun l => some (a :: l)) >>= fun l => some (a :: l)) >>= fun l => if l.length ≤ 1000000 then some (.lst l) else none)) >>= fun o => (((((getL ρ "numbers") >>= fun l => (some (.int 0)) >>= fun i => idxA (.lst l) i)) >>= fun a => (some (.int 9)) >>= fun b => binA .Mod a b)) >>= fun i => idxA o i)) >>= fun a => some (.next, Slots.set ρ "stop" (.val a))) >>= thenA (fun ρ => some (.next, ρ)))
noncomputable def fPre_k4  : Slots → Option (AFlow × Slots) := fun ρ => (((getO ρ "numbers") >>= fun l => ((((((some (.int 6)) >>= fun a => ((some (.int 5)) >>= fun a => ((some (.int 95)) >>= fun a => ((some (.int 8)) >>= fun a => ((some (.int 111)) >>= fun a => ((some (.int 154)) >>= fun a => ((some (.int 10)) >>= fun a => ((some (.int 66)) >>= fun a => (some []) >>= fun l => some (a :: l)) >>= fun l => some (a :: l)) >>= fun l => some (a :: l)) >>= fun l => some (a :: l)) >>= fun l => some (a :: l)) >>= fun l => some (a :: l)) >>= fun l => some (a :: l)) >>= fun l => some (a :: l)) >>= fun l => if l.length ≤ 1000000 then some (.lst l) else none)) >>= fun o => ((((getL ρ "numbers") >>= fun l => if l.length ≤ 16777216 then some (.int l.length) else none)) >>= fun a => (asInt a).map some) >>= fun i => (some none) >>= fun j => cutO o i j)) >>= fun r => if l.items.length + r.length ≤ 1000000 then some (.next, Slots.set ρ "numbers" (.own ⟨l.place, l.items ++ r⟩)) else none) >>= thenA fPre_k3)
noncomputable def fPre  : Slots → Option (AFlow × Slots) := fun ρ => (((((getV ρ "script") >>= iterA)) >>= fun items => if items.length ≤ 1000000 then compA fPre_T1 (fun _ => some true) fPre_f2 items (only [] ρ) >>= fun l => some (.next, Slots.set ρ "numbers" (.own ⟨none, l⟩)) else none) >>= thenA fPre_k4)
theorem fPre_den  : DenSs (W07 w h₀ mg mb os X Z₀) d scLaw bdPre fPre :=
  (dens_cons (den_assign_compx [] (by kernel_rfl) (compScope (by kernel_rfl)) (it_val (den_name "script" _ (by kernel_rfl) (by kernel_rfl)) (by constructor)) (tgc_name (by kernel_rfl)) ifs_nil (den_call gl_abs (by kernel_rfl) (by kernel_rfl) (keep_builtin _) (denPs_cons (den_name "x" _ (by kernel_rfl) (by kernel_rfl)) denPs_nil (fun _ => rfl)) (fun _ _ => rfl) spec_abs) (fun _ _ => rfl) (by kernel_rfl) rfl (by kernel_rfl)) (dens_cons (den_iadd (deno_cuto (den_list (denPs_cons (den_int _ _ _) (denPs_cons (den_int _ _ _) (denPs_cons (den_int _ _ _) (denPs_cons (den_int _ _ _) (denPs_cons (den_int _ _ _) (denPs_cons (den_int _ _ _) (denPs_cons (den_int _ _ _) (denPs_cons (den_int _ _ _) denPs_nil (fun _ => rfl)) (fun _ => rfl)) (fun _ => rfl)) (fun _ => rfl)) (fun _ => rfl)) (fun _ => rfl)) (fun _ => rfl)) (fun _ => rfl))) (part_some (den_len_name gl_len (by kernel_rfl) (by kernel_rfl) (by kernel_rfl))) part_none) (.inl (by kernel_rfl)) (by kernel_rfl)) (dens_cons (den_assign (den_idx (den_list (denPs_cons (den_neg (den_int _ _ _)) (denPs_cons (den_int _ _ _) (denPs_cons (den_int _ _ _) (denPs_cons (den_int _ _ _) (denPs_cons (den_int _ _ _) (denPs_cons (den_int _ _ _) (denPs_cons (den_int _ _ _) (denPs_cons (den_int _ _ _) (denPs_cons (den_str _ _ _) denPs_nil (fun _ => rfl)) (fun _ => rfl)) (fun _ => rfl)) (fun _ => rfl)) (fun _ => rfl)) (fun _ => rfl)) (fun _ => rfl)) (fun _ => rfl)) (fun _ => rfl))) (den_bin (den_idx_name (den_int _ _ _) (fun _ _ => rfl) (by kernel_rfl) (by kernel_rfl)) (den_int _ _ _)) (fun _ _ => rfl)) (.inl (by kernel_rfl)) (fun _ => rfl)) dens_nil)))
noncomputable def fFill_T1  : AV → Slots → Option Slots := (fun a ρ => some (Slots.set ρ "k" (.val a)))
noncomputable def fFill_f2  : Slots → Option AV := fun ρ => ((some (.str "a \tb\x00\t")) >>= fun o => (((((((getV ρ "rest") >>= fun a => (some (.int 7)) >>= fun b => binA .FloorDiv a b)) >>= fun a => (((getV ρ "k") >>= fun a => (((some (.int 1)) >>= fun a => (((getV ρ "rest") >>= fun a => (some (.int 5)) >>= fun b => binA .Mod a b)) >>= fun b => binA .Add a b)) >>= fun b => binA .Mult a b)) >>= fun b => binA .Add a b)) >>= fun a => (some (.int 6)) >>= fun b => binA .Mod a b)) >>= fun i => idxA o i)
noncomputable def fFill_k3  : Slots → Option (AFlow × Slots) := fun ρ => ((((getV ρ "wells") >>= wellsOf) >>= fun ab => (((getV ρ "x") >>= fun a => (some (.int 2)) >>= fun b => binA .Mod a b)) >>= fun i => i.int? >>= fun k => (getV ρ "thing") >>= fun a => wellPut ab k ρ a) >>= thenA (fun ρ => some (.next, ρ)))
noncomputable def fFill_k4  : Slots → Option (AFlow × Slots) := fun ρ => (((((((((((getV ρ "x") >>= fun a => (some (.int 2)) >>= fun b => binA .FloorDiv a b)) >>= fun a => (some (.int 5)) >>= fun b => binA .Mod a b)) >>= fun a => (some (.int 4)) >>= fun b => cmpA .Lt a b)) >>= fun b => if b = true then (((((((getV ρ "rest") >>= fun a => (some (.int 4)) >>= fun b => binA .Mod a b)) >>= fun a => (some (.int 0)) >>= fun b => cmpA .Eq a b)) >>= fun b => if b = true then (some true) else some false)) else some false)) >>= fun b => if b = true then (((((((((some .none) >>= fun a => ((((getV ρ "rest") >>= fun a => (some (.int 3)) >>= fun b => binA .Mod a b)) >>= fun a => ((some (.bytes (List.toArray [97, 32, 98]))) >>= fun a => (((((getV ρ "line") >>= fun a => (some []) >>= fun l => some (a :: l)) >>= fun l => if l.length ≤ 1000000 then some (.lst l) else none)) >>= fun a => (some []) >>= fun l => some (a :: l)) >>= fun l => some (a :: l)) >>= fun l => some (a :: l)) >>= fun l => some (a :: l)) >>= fun l => if l.length ≤ 1000000 then some (.lst l) else none)) >>= fun o => (((((getV ρ "x") >>= fun a => (some (.int 2)) >>= fun b => binA .FloorDiv a b)) >>= fun a => (some (.int 5)) >>= fun b => binA .Mod a b)) >>= fun i => idxA o i)) >>= fun a => some (.next, Slots.set ρ "thing" (.val a))) >>= thenA (fun ρ => some (.next, ρ)))) else (some (.next, ρ))) >>= thenA fFill_k3)
noncomputable def fFill_k5  : Slots → Option (AFlow × Slots) := fun ρ => (((((getV ρ "line") >>= fun a => (((some (.str "\n")) >>= fun a => (((((getV ρ "x") >>= fun a => (some (.int 2)) >>= fun b => binA .FloorDiv a b)) >>= fun a => (some (.int 3)) >>= fun b => binA .Mod a b)) >>= fun b => binA .Mult a b)) >>= fun b => binA .Add a b)) >>= fun a => some (.next, Slots.set ρ "thing" (.val a))) >>= thenA fFill_k4)
noncomputable def fFill_k6  : Slots → Option (AFlow × Slots) := fun ρ => (((((some (.str "")) >>= fun a => strArg a >>= fun x => (((((((((((getV ρ "rest") >>= fun a => (some (.int 7)) >>= fun b => binA .Mod a b)) >>= fun a => (some []) >>= fun l => some (a :: l)) >>= rangeA)) >>= fun items => if items.length ≤ 1000000 then compA fFill_T1 (fun _ => some true) fFill_f2 items (only ["rest"] ρ) else none)).map AV.lst)) >>= fun a => (some []) >>= fun l => some (a :: l)) >>= fun l => joinF (.str x :: l))) >>= fun a => some (.next, Slots.set ρ "line" (.val a))) >>= thenA fFill_k5)
noncomputable def fFill_T7  : AV → Slots → Option Slots := (fun a ρ => some (Slots.set ρ "x" (.val a)))
noncomputable def fFill_B8  : Slots → Option (AFlow × Slots) := fun ρ => (((((getV ρ "x") >>= fun a => (some (.int 10)) >>= fun b => binA .FloorDiv a b)) >>= fun a => some (.next, Slots.set ρ "rest" (.val a))) >>= thenA fFill_k6)
noncomputable def fFill_z9  : Slots → Option (AFlow × Slots) := fun ρ => (((((((getV ρ "numbers") >>= fun o => ((some (.int 1)) >>= fun a => (asInt a).map some) >>= fun i => (some none) >>= fun j => cutA o i j)) >>= iterA)) >>= fun items => forA fFill_T7 fFill_B8 items ρ) >>= thenA (fun ρ => some (.next, ρ)))
noncomputable def fFill  : Slots → Option (AFlow × Slots) := fun ρ => (fFill_z9 (freeze "numbers" ρ))
theorem fFill_den  : DenSs (W07 w h₀ mg mb os X Z₀) d scLaw bdFill fFill :=
  (dens_freeze "numbers" (dens_cons (den_for (it_val (den_cut (den_name "numbers" _ (by kernel_rfl) (by kernel_rfl)) (part_some (den_int _ _ _)) part_none) (by constructor)) (tg_name (.inl (by kernel_rfl))) (dens_cons (den_assign (den_bin (den_name "x" _ (by kernel_rfl) (by kernel_rfl)) (den_int _ _ _)) (.inr ⟨(by kernel_rfl), by decide +kernel⟩) (fun _ => rfl)) (dens_cons (den_assign (den_meth_str (den_str _ _ _) (fun _ => rfl) (fun _ => rfl) rfl F.slot_str_join F.type_str_join (denPs_cons (den_ofO (deno_compx ["rest"] (by kernel_rfl) (compScope (by kernel_rfl)) (it_range gl_range (by kernel_rfl) (denPs_cons (den_bin (den_name "rest" _ (by kernel_rfl) (by kernel_rfl)) (den_int _ _ _)) denPs_nil (fun _ => rfl)) (fun _ _ => rfl) (by constructor)) (tgc_name (by kernel_rfl)) ifs_nil (den_idx (den_str _ _ _) (den_bin (den_bin (den_bin (den_name "rest" _ (by kernel_rfl) (by kernel_rfl)) (den_int _ _ _)) (den_bin (den_name "k" _ (by kernel_rfl) (by kernel_rfl)) (den_bin (den_int _ _ _) (den_bin (den_name "rest" _ (by kernel_rfl) (by kernel_rfl)) (den_int _ _ _))))) (den_int _ _ _)) (fun _ _ => rfl)) (fun _ _ => rfl))) denPs_nil (fun _ => rfl)) (fun _ _ => rfl) spec_join) (.inl (by kernel_rfl)) (fun _ => rfl)) (dens_cons (den_assign (den_bin (den_name "line" _ (by kernel_rfl) (by kernel_rfl)) (den_bin (den_str _ _ _) (den_bin (den_bin (den_name "x" _ (by kernel_rfl) (by kernel_rfl)) (den_int _ _ _)) (den_int _ _ _)))) (.inl (by kernel_rfl)) (fun _ => rfl)) (dens_cons (den_if (denT_bool (denTs_and (denT_cmp (den_bin (den_bin (den_name "x" _ (by kernel_rfl) (by kernel_rfl)) (den_int _ _ _)) (den_int _ _ _)) (den_int _ _ _) rfl) (denTs_and (denT_cmp (den_bin (den_name "rest" _ (by kernel_rfl) (by kernel_rfl)) (den_int _ _ _)) (den_int _ _ _) rfl) denTs_and0))) (dens_cons (den_assign (den_idx (den_list (denPs_cons (den_none _ _) (denPs_cons (den_bin (den_name "rest" _ (by kernel_rfl) (by kernel_rfl)) (den_int _ _ _)) (denPs_cons (den_bytes _ _ _) (denPs_cons (den_list (denPs_cons (den_name "line" _ (by kernel_rfl) (by kernel_rfl)) denPs_nil (fun _ => rfl))) denPs_nil (fun _ => rfl)) (fun _ => rfl)) (fun _ => rfl)) (fun _ => rfl))) (den_bin (den_bin (den_name "x" _ (by kernel_rfl) (by kernel_rfl)) (den_int _ _ _)) (den_int _ _ _)) (fun _ _ => rfl)) (.inl (by kernel_rfl)) (fun _ => rfl)) dens_nil) dens_nil) (dens_cons (den_well (den_bin (den_name "x" _ (by kernel_rfl) (by kernel_rfl)) (den_int _ _ _)) (fun _ _ => rfl) (den_name "thing" _ (by kernel_rfl) (by kernel_rfl)) (fun _ => rfl) rfl (fun _ => rfl) (fun _ => rfl)) dens_nil))))) (fun _ _ => rfl)) dens_nil))
noncomputable def fDue_T1 (GW GL : List AV → Option AV) : AV → Slots → Option Slots := (fun a ρ => some (Slots.set ρ "tail_ahead" (.val a)))
noncomputable def fDue_f2 (GW GL : List AV → Option AV) : Slots → Option AV := fun ρ => ((some []) >>= fun l => if l.length ≤ 1000000 then some (.lst l) else none)
noncomputable def fDue_z3 (GW GL : List AV → Option AV) : Slots → Option (AFlow × Slots) := fun ρ => (((((getV ρ "tails") >>= iterA)) >>= fun items => if items.length ≤ 1000000 then compA (fDue_T1 GW GL) (fun _ => some true) (fDue_f2 GW GL) items (only [] ρ) >>= fun l => some (.next, Slots.set ρ "tails" (.own ⟨none, l⟩)) else none) >>= thenA (fun ρ => some (.next, ρ)))
noncomputable def fDue_k4 (GW GL : List AV → Option AV) : Slots → Option (AFlow × Slots) := fun ρ => ((fDue_z3 GW GL) (freeze "tails" ρ))
noncomputable def fDue_k5 (GW GL : List AV → Option AV) : Slots → Option (AFlow × Slots) := fun ρ => (((((some []) >>= fun l => if l.length ≤ 1000000 then some l else none)) >>= fun l => some (.next, Slots.set ρ "tail" (.own ⟨none, l⟩))) >>= thenA (fDue_k4 GW GL))
noncomputable def fDue_k6 (GW GL : List AV → Option AV) : Slots → Option (AFlow × Slots) := fun ρ => (((((getV ρ "words") >>= fun a => (some (.str "")) >>= fun b => cmpA .Eq a b)) >>= fun b => if b = true then ((((getO ρ "tail") >>= fun l => ((((getV ρ "thing") >>= fun a => ((getV ρ "stop") >>= fun a => (some []) >>= fun l => some (a :: l)) >>= fun l => some (a :: l)) >>= GL)) >>= fun a => if l.items.length ≤ 1000000 then some (.next, Slots.set ρ "tail" (.own ⟨l.place, l.items ++ [a]⟩)) else none) >>= thenA (fun ρ => some (.next, ρ)))) else ((((getO ρ "due") >>= fun l => (getV ρ "words") >>= fun a => if l.items.length ≤ 1000000 then some (.next, Slots.set ρ "due" (.own ⟨l.place, l.items ++ [a]⟩)) else none) >>= thenA (fDue_k5 GW GL)))) >>= thenA (fun ρ => some (.next, ρ)))
noncomputable def fDue_T7 (GW GL : List AV → Option AV) : AV → Slots → Option Slots := (fun a ρ => some (Slots.set ρ "thing" (.val a)))
noncomputable def fDue_B8 (GW GL : List AV → Option AV) : Slots → Option (AFlow × Slots) := fun ρ => ((((((getV ρ "thing") >>= fun a => ((getV ρ "stop") >>= fun a => (some []) >>= fun l => some (a :: l)) >>= fun l => some (a :: l)) >>= GW)) >>= fun a => some (.next, Slots.set ρ "words" (.val a))) >>= thenA (fDue_k6 GW GL))
noncomputable def fDue_z9 (GW GL : List AV → Option AV) : Slots → Option (AFlow × Slots) := fun ρ => (((getO ρ "tails") >>= fun l => (getV ρ "tail") >>= fun a => if l.items.length ≤ 1000000 then some (.next, Slots.set ρ "tails" (.own ⟨l.place, l.items ++ [a]⟩)) else none) >>= thenA (fun ρ => some (.next, ρ)))
noncomputable def fDue_k10 (GW GL : List AV → Option AV) : Slots → Option (AFlow × Slots) := fun ρ => ((fDue_z9 GW GL) (freeze "tail" ρ))
noncomputable def fDue_k11 (GW GL : List AV → Option AV) : Slots → Option (AFlow × Slots) := fun ρ => (((((getV ρ "well") >>= iterA)) >>= fun items => forA (fDue_T7 GW GL) (fDue_B8 GW GL) items ρ) >>= thenA (fDue_k10 GW GL))
noncomputable def fDue_T12 (GW GL : List AV → Option AV) : AV → Slots → Option Slots := (fun a ρ => some (Slots.set ρ "well" (.val a)))
noncomputable def fDue_B13 (GW GL : List AV → Option AV) : Slots → Option (AFlow × Slots) := fun ρ => (((((some []) >>= fun l => if l.length ≤ 1000000 then some l else none)) >>= fun l => some (.next, Slots.set ρ "tail" (.own ⟨none, l⟩))) >>= thenA (fDue_k11 GW GL))
noncomputable def fDue_k14 (GW GL : List AV → Option AV) : Slots → Option (AFlow × Slots) := fun ρ => (((getO ρ "due") >>= fun l => (((((((((getL ρ "tails") >>= fun l => (some (.int 0)) >>= fun i => idxA (.lst l) i)) >>= fun a => ((((getL ρ "tails") >>= fun l => (some (.int 1)) >>= fun i => idxA (.lst l) i)) >>= fun a => (some []) >>= fun l => some (a :: l)) >>= fun l => some (a :: l)) >>= fun l => if l.length ≤ 1000000 then some (.tup l) else none)) >>= fun a => (((((((some []) >>= fun l => if l.length ≤ 1000000 then some (.lst l) else none)) >>= fun a => ((((some []) >>= fun l => if l.length ≤ 1000000 then some (.lst l) else none)) >>= fun a => (some []) >>= fun l => some (a :: l)) >>= fun l => some (a :: l)) >>= fun l => if l.length ≤ 1000000 then some (.tup l) else none)) >>= fun a => (some []) >>= fun l => some (a :: l)) >>= fun l => some (a :: l)) >>= fun l => if l.length ≤ 1000000 then some l else none)) >>= fun r => if l.items.length + r.length ≤ 1000000 then some (.next, Slots.set ρ "due" (.own ⟨l.place, l.items ++ r⟩)) else none) >>= thenA (fun ρ => some (.next, ρ)))
noncomputable def fDue_k15 (GW GL : List AV → Option AV) : Slots → Option (AFlow × Slots) := fun ρ => (((((getV ρ "wells") >>= iterA)) >>= fun items => forA (fDue_T12 GW GL) (fDue_B13 GW GL) items ρ) >>= thenA (fDue_k14 GW GL))
noncomputable def fDue (GW GL : List AV → Option AV) : Slots → Option (AFlow × Slots) := fun ρ => ((((((some []) >>= fun l => if l.length ≤ 1000000 then some l else none)) >>= fun a => ((((some []) >>= fun l => if l.length ≤ 1000000 then some l else none)) >>= fun a => (some []) >>= fun l => some (SV.own ⟨none, a⟩ :: l)) >>= fun l => some (SV.own ⟨none, a⟩ :: l)) >>= fun l => if l.length = 2 ∧ l.length ≤ 1000000 then some (.next, setMany ρ ["tails", "due"] l.reverse) else none) >>= thenA (fDue_k15 GW GL))
theorem fDue_den {GW GL : List AV → Option AV} (hW : FSpec (W07 w h₀ mg mb os X Z₀) d (.ref 122) GW) (hL : FSpec (W07 w h₀ mg mb os X Z₀) d (.ref 129) GL) : DenSs (W07 w h₀ mg mb os X Z₀) d scLaw bdDue (fDue GW GL) :=
  (dens_cons (den_assign_swap (names := ["due", "tails"]) (es_own (deno_list denPs_nil) (es_own (deno_list denPs_nil) es_nil (fun _ => rfl)) (fun _ => rfl)) (fun x hx => kinds_in (l := ["due", "tails"]) (by kernel_rfl) x hx) (fun env he => by cases env; cases he; rfl) (fun env he => by cases env; cases he; kernel_rfl)) (dens_cons (den_for (it_val (den_name "wells" _ (by kernel_rfl) (by kernel_rfl)) (by constructor)) (tg_name (.inl (by kernel_rfl))) (dens_cons (den_assignO (deno_list denPs_nil) (.inl (by kernel_rfl)) (fun _ => rfl)) (dens_cons (den_for (it_val (den_name "well" _ (by kernel_rfl) (by kernel_rfl)) (by constructor)) (tg_name (.inl (by kernel_rfl))) (dens_cons (den_assign (den_call gl_words (by kernel_rfl) (by kernel_rfl) ke_words (denPs_cons (den_name "thing" _ (by kernel_rfl) (by kernel_rfl)) (denPs_cons (den_name "stop" _ (by kernel_rfl) (by kernel_rfl)) denPs_nil (fun _ => rfl)) (fun _ => rfl)) (fun _ _ => rfl) hW) (.inl (by kernel_rfl)) (fun _ => rfl)) (dens_cons (den_if (denT_cmp (den_name "words" _ (by kernel_rfl) (by kernel_rfl)) (den_str _ _ _) rfl) (dens_cons (den_append (den_call gl_filled (by kernel_rfl) (by kernel_rfl) ke_filled (denPs_cons (den_name "thing" _ (by kernel_rfl) (by kernel_rfl)) (denPs_cons (den_name "stop" _ (by kernel_rfl) (by kernel_rfl)) denPs_nil (fun _ => rfl)) (fun _ => rfl)) (fun _ _ => rfl) hL) (by kernel_rfl) (by kernel_rfl) (fun _ => rfl) rfl) dens_nil) (dens_cons (den_append (den_name "words" _ (by kernel_rfl) (by kernel_rfl)) (by kernel_rfl) (by kernel_rfl) (fun _ => rfl) rfl) (dens_cons (den_assignO (deno_list denPs_nil) (.inl (by kernel_rfl)) (fun _ => rfl)) (dens_freeze "tails" (dens_cons (den_assign_compx [] (by kernel_rfl) (compScope (by kernel_rfl)) (it_val (den_name "tails" _ (by kernel_rfl) (by kernel_rfl)) (by constructor)) (tgc_name (by kernel_rfl)) ifs_nil (den_list denPs_nil) (fun _ _ => rfl) (by kernel_rfl) rfl (by kernel_rfl)) dens_nil))))) dens_nil)) (fun _ _ => rfl)) (dens_freeze "tail" (dens_cons (den_append (den_name "tail" _ (by kernel_rfl) (by kernel_rfl)) (by kernel_rfl) (by kernel_rfl) (fun _ => rfl) rfl) dens_nil)))) (fun _ _ => rfl)) (dens_cons (den_iadd (deno_list (denPs_cons (den_tuple (denPs_cons (den_idx_name (den_int _ _ _) (fun _ _ => rfl) (by kernel_rfl) (by kernel_rfl)) (denPs_cons (den_idx_name (den_int _ _ _) (fun _ _ => rfl) (by kernel_rfl) (by kernel_rfl)) denPs_nil (fun _ => rfl)) (fun _ => rfl))) (denPs_cons (den_tuple (denPs_cons (den_list denPs_nil) (denPs_cons (den_list denPs_nil) denPs_nil (fun _ => rfl)) (fun _ => rfl))) denPs_nil (fun _ => rfl)) (fun _ => rfl))) (.inl (by kernel_rfl)) (by kernel_rfl)) dens_nil)))
end
end Mine
end
section
set_option linter.unusedVariables false
namespace Mine
-- texts as lists of signs
noncomputable def tx (l : List Nat) : Str := ⟨l.toArray⟩
theorem tx_inj {a b : List Nat} : (tx a = tx b) ↔ a = b := by
  unfold tx
  constructor
  · intro h; have := congrArg Str.cps h; simpa using this
  · intro h; rw [h]
theorem tx_beq (a b : List Nat) : (tx a == tx b) = (a == b) := by
  rw [Bool.eq_iff_iff]; simp [tx_inj]
theorem tx_append (a b : List Nat) : tx a ++ tx b = tx (a ++ b) := by
  show Str.append _ _ = _
  unfold Str.append tx; simp
theorem tx_length (a : List Nat) : (tx a).length = a.length := by unfold tx Str.length; simp
theorem tx_list (a : List Nat) : (tx a).cps.toList = a := by unfold tx; simp
theorem sign1_tx (c : Nat) : sign1 c = tx [c] := Eq.trans rfl rfl
theorem ofString_inj (a b : String) : (Str.ofString a = Str.ofString b) = (a = b) := by
  rw [Str.ofString_eq_toList, Str.ofString_eq_toList]
  apply propext
  constructor
  · intro h
    have h1 : a.toList.map Char.toNat = b.toList.map Char.toNat := by
      have := congrArg Str.cps h; simpa using this
    have h2 : a.toList = b.toList := List.map_inj_right (fun x y e => Char.ext (UInt32.toNat_inj.mp e)) |>.mp h1
    exact String.toList_inj.mp h2
  · intro h; rw [h]
theorem l_empty : (Str.ofString "" : Str) = tx [] := by decide +kernel
theorem l_zero : (Str.ofString "\x00" : Str) = tx [0] := by decide +kernel
theorem set_eq (ρ : Slots) (x y : Str) (v : SV) : (ρ.set x v) y = if y = x then some v else ρ y := Eq.trans rfl rfl
theorem getO_own {ρ : Slots} {x : Str} {a : OL} (h : ρ x = some (.own a)) : getO ρ x = some a := by unfold getO; rw [h]
theorem bind_some' {β γ : Type} (a : β) (f : β → Option γ) : (some a >>= f) = f a := Eq.trans rfl rfl
theorem aug_str (a b : List Nat) (h : a.length + b.length ≤ 16777216) : augA .Add (.str (tx a)) (.str (tx b)) = some (.str (tx (a ++ b))) := by
  show (if (tx a).length + (tx b).length ≤ 16777216 then some (AV.str (tx a ++ tx b)) else none) = _
  rw [tx_length, tx_length, if_pos h, tx_append]
theorem bin_str (a b : List Nat) (h : a.length + b.length ≤ 16777216) : binA .Add (.str (tx a)) (.str (tx b)) = some (.str (tx (a ++ b))) := by
  show (if (tx a).length + (tx b).length ≤ 16777216 then some (AV.str (tx a ++ tx b)) else none) = _
  rw [tx_length, tx_length, if_pos h, tx_append]
theorem eq_str (a b : List Nat) : cmpA .Eq (.str (tx a)) (.str (tx b)) = some (a == b) := by
  show some (tx a == tx b) = _; rw [tx_beq]
theorem ne_str (a b : List Nat) : cmpA .NotEq (.str (tx a)) (.str (tx b)) = some (!(a == b)) := by
  show some (!(tx a == tx b)) = _; rw [tx_beq]
theorem getV_set (ρ : Slots) (x y : Str) (a : AV) : getV (ρ.set x (.val a)) y = if y = x then some a else getV ρ y := by
  unfold getV; rw [set_eq]; by_cases e : y = x
  · rw [if_pos e, if_pos e]
  · rw [if_neg e, if_neg e]
theorem thenA_ret (G : Slots → Option (AFlow × Slots)) (a : AV) (ρ : Slots) : thenA G (.ret a, ρ) = some (.ret a, ρ) := Eq.trans rfl rfl
theorem truth_bool (b : Bool) : truthA (.bool b) = some b := Eq.trans rfl rfl
theorem neg_int (i : Int) : negA (.int i) = some (.int (-i)) := Eq.trans rfl rfl
theorem iter_lst (l : List AV) : iterA (.lst l) = some l := Eq.trans rfl rfl
theorem idx_str (l : List Nat) (k : Nat) (hk : k < l.length) (hz : l.length ≤ 1000000) : idxA (.str (tx l)) (.int k) = some (.str (tx [l[k]])) := by
  unfold idxA
  simp only [AV.int?, bind_some', tx_list, itemL, sign1_tx]
  rw [if_pos ⟨by (first | lia | omega), by (first | lia | omega)⟩, if_pos (by (first | lia | omega))]
  simp [hk]
theorem len_str (l : List Nat) (hz : l.length ≤ 1000000) : lenF [.str (tx l)] = some (.int l.length) := by
  show (if (tx l).length ≤ 16777216 then some (AV.int (tx l).length) else none) = _
  rw [tx_length, if_pos (by (first | lia | omega))]
theorem lt_int' (a b : Int) : cmpA .Lt (.int a) (.int b) = some (decide (a < b)) := Eq.trans rfl rfl
theorem eq_int' (a b : Int) : cmpA .Eq (.int a) (.int b) = some (a == b) := Eq.trans rfl rfl
noncomputable def asF (names : List Str) (F : Slots → Option (AFlow × Slots)) : List AV → Option AV := fun args => if args.length = names.length then (F (bindA names args)).map fun r => retA r.1 else none
noncomputable def one1 (n : Str) (a : AV) : Slots := fun x => if x = n then some (.val a) else none
theorem getV_one (n y : Str) (a : AV) : getV (one1 n a) y = if y = n then some a else none := by
  unfold getV one1; by_cases e : y = n
  · rw [if_pos e, if_pos e]
  · rw [if_neg e, if_neg e]
theorem bindS {β γ : Type} {x : Option β} {a : β} {f : β → Option γ} {r : Option γ} (h : x = some a) (k : f a = r) : (x >>= f) = r := by rw [h]; exact k
theorem iteT {β : Type} {x y r : β} (k : x = r) : (if (true = true) then x else y) = r := k
theorem iteF {β : Type} {x y r : β} (k : y = r) : (if (false = true) then x else y) = r := k
theorem getV_hit (ρ : Slots) (x : Str) (a : AV) : getV (ρ.set x (.val a)) x = some a := by rw [getV_set, if_pos rfl]
theorem sne {x y : String} (h : (x == y) = false) : (Str.ofString x) ≠ (Str.ofString y) := fun e => by rw [ofString_inj] at e; rw [e, beq_self_eq_true] at h; cases h
theorem getV_skip {ρ : Slots} {x y : String} {v : SV} {r : Option AV} (h : (x == y) = false) (k : getV ρ (Str.ofString x) = r) : getV (ρ.set (Str.ofString y) v) (Str.ofString x) = r := by
  unfold getV at k ⊢; rw [set_eq, if_neg (sne h)]; exact k
theorem set_hit (ρ : Slots) (x : Str) (v : SV) : (ρ.set x v) x = some v := by rw [set_eq, if_pos rfl]
theorem set_skip {ρ : Slots} {x y : String} {v : SV} {r : Option SV} (h : (x == y) = false) (k : ρ (Str.ofString x) = r) : (ρ.set (Str.ofString y) v) (Str.ofString x) = r := by
  rw [set_eq, if_neg (sne h)]; exact k
theorem thenS {G : Slots → Option (AFlow × Slots)} {ρ : Slots} {r : Option (AFlow × Slots)} (k : G ρ = r) : thenA G (.next, ρ) = r := k
theorem getO_hit (ρ : Slots) (x : Str) (l : OL) : getO (ρ.set x (.own l)) x = some l := by unfold getO; rw [set_eq, if_pos rfl]
theorem getO_skip {ρ : Slots} {x y : String} {v : SV} {r : Option OL} (h : (x == y) = false) (k : getO ρ (Str.ofString x) = r) : getO (ρ.set (Str.ofString y) v) (Str.ofString x) = r := by
  unfold getO at k ⊢; rw [set_eq, if_neg (sne h)]; exact k
theorem ifP {β : Type} {p : Prop} {inst : Decidable p} {x y r : β} (h : p) (k : x = r) : (@ite β p inst x y) = r := by rw [if_pos h]; exact k
theorem mapS {β γ : Type} {x : Option β} {a : β} {f : β → γ} {r : Option γ} (h : x = some a) (k : some (f a) = r) : x.map f = r := by rw [h]; exact k
end Mine
end
local macro_rules | `(tactic| ac_rfl) => `(tactic| (repeat' first | with_reducible exact Mine.getV_hit _ _ _ | with_reducible exact Mine.getO_hit _ _ _ | with_reducible assumption | with_reducible refine Mine.getV_skip ?_ ?_ | with_reducible refine Mine.getO_skip ?_ ?_ | with_reducible exact Mine.truthN_hitB _ _ _ | with_reducible refine Mine.truthN_skip ?_ ?_ | with_reducible exact Mine.aug_int _ _ | with_reducible exact Mine.truth_bool _ | with_reducible exact Mine.iter_lst _ | with_reducible refine Mine.iteT ?_ | with_reducible refine Mine.iteF ?_ | with_reducible apply Mine.bindS | with_reducible refine Mine.thenS ?_ | with_reducible exact Mine.thenA_ret _ _ _ | with_reducible refine Mine.noneS ?_ | with_reducible apply Mine.ifP | with_reducible rfl | exact Nat.le_of_ble_eq_true rfl | exact ⟨rfl, Nat.le_of_ble_eq_true rfl⟩ | decide))
section
set_option linter.unusedVariables false
set_option linter.unusedSimpArgs false
namespace Mine
theorem clip_nat (n k : Nat) (h : k ≤ n) : clipAt n (k : Int) = k := by
  unfold clipAt
  rw [if_neg (Int.not_lt.mpr (Int.natCast_nonneg k)), Int.min_eq_left (Int.ofNat_le.mpr h), Int.max_eq_right (Int.natCast_nonneg k)]; rfl
theorem clip_over (n k : Nat) (h : n ≤ k) : clipAt n (k : Int) = n := by
  unfold clipAt
  rw [if_neg (Int.not_lt.mpr (Int.natCast_nonneg k)), Int.min_eq_right (Int.ofNat_le.mpr h), Int.max_eq_right (Int.natCast_nonneg n)]; rfl
inductive Runs (T : AV → Slots → Option Slots) (B : Slots → Option (AFlow × Slots)) : List AV → Slots → Slots → Prop
  | nil {ρ : Slots} : Runs T B [] ρ ρ
  | cons {x : AV} {xs : List AV} {ρ ρ₁ ρ' : Slots} : (T x ρ >>= B) = some (.next, ρ₁) → Runs T B xs ρ₁ ρ' → Runs T B (x :: xs) ρ ρ'
theorem Runs.append {T : AV → Slots → Option Slots} {B : Slots → Option (AFlow × Slots)} {xs ys : List AV} {ρ ρ₁ ρ' : Slots} (h : Runs T B xs ρ ρ₁) (g : Runs T B ys ρ₁ ρ') : Runs T B (xs ++ ys) ρ ρ' := by
  induction h with
  | nil => exact g
  | cons e _ ih => exact .cons e (ih g)
theorem Runs.forA {T : AV → Slots → Option Slots} {B : Slots → Option (AFlow × Slots)} {xs : List AV} {ρ ρ' : Slots} (h : Runs T B xs ρ ρ') : Mine.forA T B xs ρ = some (.next, ρ') := by
  induction h with
  | nil => rfl
  | cons e _ ih =>
    obtain ⟨ρ₀, e₀, e₁⟩ := bindO e
    simp only [Mine.forA, e₀, bind_some', e₁, ih]
end Mine
end
section
set_option linter.unusedVariables false
set_option linter.unusedSimpArgs false
namespace Mine
-- one sign in the place of another
noncomputable def swp (c e k : Nat) : Nat := if k = c then e else k
theorem swp_free (c e : Nat) : ∀ l : List Nat, c ∉ l → l.map (swp c e) = l
  | [], _ => rfl
  | k :: r, h => by
    rw [List.map_cons, swp_free c e r fun m => h (List.mem_cons_of_mem _ m), swp, if_neg (show ¬ k = c from fun q => h (q ▸ List.mem_cons_self ..))]
theorem swp_join (c e : Nat) : ∀ parts : List Str, (∀ p ∈ parts, c ∉ p.cps.toList) → (Str.join ⟨#[c]⟩ parts).cps.toList.map (swp c e) = (Str.join ⟨#[e]⟩ parts).cps.toList
  | [], _ => rfl
  | [p], h => swp_free c e _ (h p (List.mem_singleton.mpr rfl))
  | p :: q :: r, h => by
    have ih := swp_join c e (q :: r) fun a ha => h a (List.mem_cons_of_mem _ ha)
    show (p ++ ⟨#[c]⟩ ++ Str.join ⟨#[c]⟩ (q :: r)).cps.toList.map (swp c e) = (p ++ ⟨#[e]⟩ ++ Str.join ⟨#[e]⟩ (q :: r)).cps.toList
    simp only [Str.cps_append, Array.toList_append, List.map_append]
    rw [ih, swp_free c e _ (h p (List.mem_cons_self ..))]
    simp [swp]
theorem repl_swp (l : List Nat) (c e : Nat) : Txt.replace (tx l) (tx [c]) (tx [e]) = tx (l.map (swp c e)) := by
  have h : (Txt.replace (tx l) ⟨#[c]⟩ ⟨#[e]⟩).cps.toList = l.map (swp c e) := by
    rw [StrLaws.replace_one, ← swp_join c e _ (StrLaws.split_free (tx l) c), StrLaws.join_split, tx_list]
  unfold tx; rw [← h]; rfl
theorem l_blank : (Str.ofString " " : Str) = tx [32] := by decide +kernel
theorem l_tab : (Str.ofString "\t" : Str) = tx [9] := by decide +kernel
theorem l_nl : (Str.ofString "\n" : Str) = tx [10] := by decide +kernel
theorem replA_swp (y z : Str) (c e : Nat) (hy : y = tx [c]) (hz : z = tx [e]) (l : List Nat) (h : l.length ≤ 1000000) : replA y z (.str (tx l)) = some (.str (tx (l.map (swp c e)))) := by
  subst hy hz
  show (if (tx l).length ≤ 1000000 ∧ (tx [e]).length ≤ 14 then some (AV.str (Txt.replace (tx l) (tx [c]) (tx [e]))) else none) = _
  rw [if_pos ⟨by rw [tx_length]; exact h, by rw [tx_length]; simp⟩, repl_swp]
noncomputable def rst (l : List Nat) : List Nat := (l.reverse.dropWhile (· == 10)).reverse
theorem takeWhile_congr' {p q : Nat → Bool} (h : ∀ a, p a = q a) (l : List Nat) : l.takeWhile p = l.takeWhile q := by rw [show p = q from funext h]
theorem rstrip_rst (l : List Nat) : Txt.rstripChars (tx l) (tx [10]) = tx (rst l) := by
  unfold Txt.rstripChars
  rw [PyProof.Rows.stripBy_eq]
  unfold stripLo stripHi
  rw [if_neg Bool.false_ne_true, if_pos rfl, List.drop_zero, tx_list, tx_length]
  rw [takeWhile_congr' (q := fun c => c == 10) (fun a => by unfold tx; simp [eq_comm]; rfl) l.reverse]
  have e : l = rst l ++ (l.reverse.takeWhile (· == 10)).reverse := by
    unfold rst
    rw [← List.reverse_append, List.takeWhile_append_dropWhile, List.reverse_reverse]
  have hl : l.length = (rst l).length + (l.reverse.takeWhile (· == 10)).length := by
    have := congrArg List.length e
    rw [List.length_append, List.length_reverse] at this
    exact this
  rw [hl, Nat.add_sub_cancel]
  have h2 : ∀ x : Str, ∀ k, (Builtin.Str.strSub x 0 k) = tx (x.cps.toList.take k) := fun x k => by
    unfold Builtin.Str.strSub tx; congr 1; apply Array.toList_inj.mp; simp
  rw [h2, tx_list]
  have e2 : ∀ (a b c : List Nat), c = a ++ b → c.take a.length = a := fun a b c h => by rw [h, List.take_left' rfl]
  rw [e2 _ _ _ e]
theorem rstripF_eq (y : Str) (hy : y = tx [10]) (l : List Nat) (h : l.length ≤ 1000000) : rstripF [.str (tx l), .str y] = some (.str (tx (rst l))) := by
  subst hy
  show (if (tx l).length ≤ 16777216 then some (AV.str (Txt.rstripChars (tx l) (tx [10]))) else none) = _
  rw [if_pos (by rw [tx_length]; (first | lia | omega)), rstrip_rst]
-- tabs filled
noncomputable def gap (n : Int) (col : Nat) : Nat := if n > 0 then n.toNat - col % n.toNat else 0
noncomputable def nxt (c col : Nat) : Nat := if (c == 10 || c == 13) = true then 0 else col + 1
noncomputable def expS (n : Int) : Nat → List Nat → List Nat
  | _, [] => []
  | col, c :: r => if c = 9 then List.replicate (gap n col) 32 ++ expS n (col + gap n col) r else c :: expS n (nxt c col) r
noncomputable def expT (n : Int) : Nat → List Nat → List Nat
  | _, [] => []
  | col, c :: r => if c = 9 then List.replicate (gap n col) 9 ++ expT n (col + gap n col) r else swp 0 32 c :: expT n (nxt c col) r
theorem exp_fold (n : Int) : ∀ (l : List Nat) (out : Array Nat) (col : Nat), (l.foldl (expStep n) (out, col)).1 = out ++ (expS n col l).toArray
  | [], out, col => by simp [expS]
  | c :: r, out, col => by
    rw [List.foldl_cons]
    unfold expStep expS
    by_cases h : c = 9
    · have h' : (c == 9) = true := by simpa using h
      rw [if_pos h', if_pos h]
      show (r.foldl (expStep n) (out ++ Array.replicate (gap n col) 32, col + gap n col)).1 = _
      rw [exp_fold n r]
      rw [Array.append_assoc]; congr 1; apply Array.toList_inj.mp; simp
    · have h' : ¬ (c == 9) = true := by simpa using h
      rw [if_neg h', if_neg h]
      show (r.foldl (expStep n) (out.push c, nxt c col)).1 = _
      rw [exp_fold n r]
      simp
theorem expS_free (n : Int) : ∀ (l : List Nat) (col : Nat), 9 ∉ l → expS n col l = l
  | [], _, _ => rfl
  | c :: r, col, h => by
    unfold expS
    rw [if_neg (show ¬ c = 9 from fun e => h (e ▸ List.mem_cons_self ..)), expS_free n r _ fun m => h (List.mem_cons_of_mem _ m)]
theorem expandT_eq (n : Int) (l : List Nat) : expandT n (tx l) = tx (expS n 0 l) := by
  unfold expandT
  by_cases h : 9 ∈ l
  · rw [if_neg (by unfold tx; simpa using h), tx_list, exp_fold]
    unfold tx; simp
  · rw [if_pos (by unfold tx; simpa using h), expS_free n l 0 h]
theorem expandF_eq (n : Int) (l : List Nat) (h1 : -1000000 < n) (h2 : n < 1000000) (h3 : (expS n 0 l).length ≤ 1000000) : expandF [.str (tx l), .int n] = some (.str (tx (expS n 0 l))) := by
  show (if -1000000 < n ∧ n < 1000000 ∧ ((tx l).cps.toList.foldl (expStep n) (#[], 0)).1.size ≤ 16777216 then some (AV.str (expandT n (tx l))) else none) = _
  rw [if_pos ⟨h1, h2, by rw [tx_list, exp_fold]; simp; (first | lia | omega)⟩, expandT_eq]
theorem nxt_swp (c col : Nat) : nxt (swp 32 0 c) col = nxt c col := by
  unfold nxt swp
  by_cases h : c = 32
  · subst h; rfl
  · rw [if_neg h]
theorem exp_pipe (n : Int) : ∀ (l : List Nat) (col : Nat), ((expS n col (l.map (swp 32 0))).map (swp 32 9)).map (swp 0 32) = expT n col l
  | [], _ => rfl
  | c :: r, col => by
    rw [List.map_cons]
    unfold expS expT
    by_cases h : c = 9
    · subst h
      rw [if_pos rfl, if_pos (by decide), List.map_append, List.map_append, exp_pipe n r]
      simp [swp]
    · have h' : swp 32 0 c ≠ 9 := by unfold swp; split <;> (first | lia | omega)
      rw [if_neg h', if_neg h, List.map_cons, List.map_cons, nxt_swp, exp_pipe n r]
      congr 1
      unfold swp
      by_cases h32 : c = 32
      · subst h32; rfl
      · rw [if_neg h32, if_neg h32]
theorem expT_len (n : Int) (l : List Nat) (col : Nat) : (expS n col (l.map (swp 32 0))).length = (expT n col l).length := by
  rw [← exp_pipe]; simp
end Mine
end
section
set_option linter.unusedVariables false
set_option linter.unusedSimpArgs false
namespace Mine
-- what a line becomes, read back
theorem gap_pos {n : Int} (h : 0 < n) (col : Nat) : 0 < gap n col ∧ gap n col ≤ n.toNat ∧ (col + gap n col) % n.toNat = 0 := by
  unfold gap
  rw [if_pos h]
  have hm : col % n.toNat < n.toNat := Nat.mod_lt _ (by (first | lia | omega))
  refine ⟨by (first | lia | omega), by (first | lia | omega), ?_⟩
  have e : col + (n.toNat - col % n.toNat) = n.toNat * (col / n.toNat) + n.toNat := by
    have := Nat.div_add_mod col n.toNat
    (first | lia | omega)
  rw [e, Nat.add_mod_right, Nat.mul_mod_right]
theorem gap_neg {n : Int} (h : ¬ 0 < n) (col : Nat) : gap n col = 0 := by unfold gap; rw [if_neg (by (first | lia | omega))]
theorem exp_bound {n : Int} {m : Nat} (hn : n.toNat ≤ m) (hm : 1 ≤ m) : ∀ (l : List Nat) (col : Nat), (expT n col l).length ≤ m * l.length
  | [], _ => by simp [expT]
  | c :: r, col => by
    unfold expT
    have hg : gap n col ≤ m := by
      by_cases h : 0 < n
      · have := (gap_pos h col).2.1; (first | lia | omega)
      · rw [gap_neg h]; (first | lia | omega)
    split
    · have := exp_bound hn hm r (col + gap n col)
      rw [List.length_append, List.length_replicate, List.length_cons, Nat.mul_add]; (first | lia | omega)
    · have := exp_bound hn hm r (nxt c col)
      rw [List.length_cons, List.length_cons, Nat.mul_add]; (first | lia | omega)
theorem expT_append (n : Int) : ∀ (l m : List Nat) (col : Nat), ∃ col', expT n col (l ++ m) = expT n col l ++ expT n col' m
  | [], m, col => ⟨col, rfl⟩
  | c :: r, m, col => by
    rw [List.cons_append, expT, expT]
    by_cases h : c = 9
    · obtain ⟨col', e⟩ := expT_append n r m (col + gap n col)
      exact ⟨col', by rw [if_pos h, if_pos h, e, List.append_assoc]⟩
    · obtain ⟨col', e⟩ := expT_append n r m (nxt c col)
      exact ⟨col', by rw [if_neg h, if_neg h, e]; rfl⟩
theorem exp_nls (n : Int) : ∀ (k col : Nat), expT n col (List.replicate k 10) = List.replicate k 10
  | 0, _ => rfl
  | k + 1, col => by
    show expT n col (10 :: List.replicate k 10) = _
    unfold expT
    rw [if_neg (by decide), exp_nls n k]; rfl
theorem rst_nls (l : List Nat) : ∀ k : Nat, rst (l ++ List.replicate k 10) = rst l
  | 0 => by rw [List.replicate_zero, List.append_nil]
  | k + 1 => by
    rw [List.replicate_succ', ← List.append_assoc]
    unfold rst
    rw [List.reverse_append]
    show (((10 :: (l ++ List.replicate k 10).reverse)).dropWhile (· == 10)).reverse = _
    rw [List.dropWhile_cons_of_pos (by decide)]
    exact rst_nls l k
theorem rst_id {l : List Nat} (h : 10 ∉ l) : rst l = l := by
  unfold rst
  cases e : l.reverse with
  | nil => rw [List.reverse_eq_nil_iff.mp e]; rfl
  | cons c r =>
    have hc : c ∈ l := by rw [← List.mem_reverse, e]; exact List.mem_cons_self
    rw [List.dropWhile_cons_of_neg (by intro q; exact h (by rw [← eq_of_beq q]; exact hc)), ← e, List.reverse_reverse]
theorem exp_mem {n : Int} {a : Nat} : ∀ {l : List Nat} {col : Nat}, a ∈ expT n col l → a = 9 ∨ ∃ c ∈ l, swp 0 32 c = a
  | [], _, h => by cases h
  | c :: r, col, h => by
    unfold expT at h
    split at h
    · rcases List.mem_append.mp h with h | h
      · exact .inl (List.eq_of_mem_replicate h)
      · rcases exp_mem h with h | ⟨d, hd, e⟩
        · exact .inl h
        · exact .inr ⟨d, List.mem_cons_of_mem _ hd, e⟩
    · rcases List.mem_cons.mp h with h | h
      · exact .inr ⟨c, List.mem_cons_self, h.symm⟩
      · rcases exp_mem h with h | ⟨d, hd, e⟩
        · exact .inl h
        · exact .inr ⟨d, List.mem_cons_of_mem _ hd, e⟩
end Mine
end
section
set_option linter.unusedVariables false
set_option linter.unusedSimpArgs false
set_option maxHeartbeats 1000000
namespace Mine
theorem swp_nl (c : Nat) : swp 0 32 c = 10 ↔ c = 10 := by unfold swp; split <;> (first | lia | omega)
end Mine
end
section
set_option linter.unusedVariables false
set_option linter.unusedSimpArgs false
set_option maxHeartbeats 1000000
namespace Mine
theorem bindA2' (n1 n2 : Str) (a b : AV) (hn : n1 ≠ n2) : bindA [n1, n2] [a, b] = (one1 n1 a).set n2 (.val b) := by
  funext x
  unfold bindA one1 Slots.set
  simp only [List.zip_cons_cons, List.zip_nil_right, List.reverse_cons, List.reverse_nil, List.nil_append, List.cons_append, List.lookup_cons, List.lookup_nil]
  by_cases e2 : x = n2
  · subst e2; rw [beq_self_eq_true, if_pos rfl]; rfl
  · have : (x == n2) = false := by simpa using e2
    rw [this, if_neg e2]
    by_cases e1 : x = n1
    · subst e1; rw [beq_self_eq_true, if_pos rfl]; rfl
    · have : (x == n1) = false := by simpa using e1
      rw [this, if_neg e1]; rfl
theorem mod_nat (a b : Nat) (h : 0 < b) : binA .Mod (.int a) (.int b) = some (.int (a % b : Nat)) := by
  show (if (b : Int) ≠ 0 then some (AV.int ((a : Int).fmod b)) else none) = _
  rw [if_pos (by (first | lia | omega))]
  congr 2
  rw [Int.fmod_eq_emod_of_nonneg _ (by (first | lia | omega))]; rfl
theorem signs_tx (l : List Nat) : signsA (tx l) = l.map fun c => AV.str (tx [c]) := by
  unfold signsA; rw [tx_list]; rfl
theorem freeze_own' {ρ : Slots} {x : Str} {l : OL} (h : getO ρ x = some l) : freeze x ρ = ρ.set x (.val (.lst l.items)) := by
  unfold freeze; rw [getO_eq h]
theorem only_hit {xs : List Str} {ρ : Slots} {x : Str} (h : xs.contains x = true) : getV (only xs ρ) x = getV ρ x := by
  unfold getV only; rw [if_pos h]
theorem fdv (x k : Int) (hk : k ≠ 0 ∧ k.natAbs < 1073741824) : binA .FloorDiv (.int x) (.int k) = some (.int (x.fdiv k)) := if_pos hk
theorem mul_str' (x : Str) (n : Int) (h : n < 16777216 ∧ -16777216 < n ∧ x.length * n.toNat ≤ 16777216) : binA .Mult (.str x) (.int n) = some (.str (repStr x n)) := if_pos h
theorem cut_lst (l : List AV) (lo hi : Option Int) (h : l.length ≤ 16777216) : cutA (.lst l) lo hi = some (.lst (cutL l lo hi)) := if_pos h
theorem ne_tup (l : List AV) (h : dat 8 (.tup l) = true) : cmpA .NotEq (.tup l) (.tup l) = some false := by
  show (sameA (.tup l) (.tup l)).map (!·) = some false
  rw [show sameA (.tup l) (.tup l) = some true from if_pos ⟨rfl, h⟩]; rfl
noncomputable def initL : List InitSt := [⟨"_tabsize", "tabsize", ⟨19, 8, 19, 12⟩, ⟨19, 8, 19, 21⟩, ⟨19, 24, 19, 31⟩, ⟨19, 8, 19, 31⟩⟩, ⟨"_wrapcolumn", "wrapcolumn", ⟨20, 8, 20, 12⟩, ⟨20, 8, 20, 24⟩, ⟨20, 27, 20, 37⟩, ⟨20, 8, 20, 37⟩⟩, ⟨"_linejunk", "linejunk", ⟨21, 8, 21, 12⟩, ⟨21, 8, 21, 22⟩, ⟨21, 25, 21, 33⟩, ⟨21, 8, 21, 33⟩⟩, ⟨"_charjunk", "charjunk", ⟨22, 8, 22, 12⟩, ⟨22, 8, 22, 22⟩, ⟨22, 25, 22, 33⟩, ⟨22, 8, 22, 33⟩⟩]
noncomputable def ctorN : List Str := ["tabsize", "wrapcolumn", "linejunk", "charjunk"]
theorem len_two {β : Type} : ∀ {l : List β}, l.length = 2 → ∃ a b, l = [a, b]
  | [a, b], _ => ⟨a, b, rfl⟩
theorem len_three {β : Type} : ∀ {l : List β}, l.length = 3 → ∃ a b c, l = [a, b, c]
  | [a, b, c], _ => ⟨a, b, c, rfl⟩
theorem bmain_at {p : Program} {loose : List Str} {mean : ExcName → Option Value} {mg mb : Str → Option Value} {h : Heap} (T : Top p loose mean mg mb h) {P : Addr} (hP : h.get? P = some (tabObj #[])) : h.BuiltinsAt mg P := by
  obtain ⟨bm, ob, h1, h2, h3, h4, h5, h6⟩ := T.bmain
  refine ⟨bm, ob, h1, h2, fun e => ?_, fun e => ?_, h3, h4, h5, h6⟩
  · obtain ⟨o, es, ep, e2, d2, _⟩ := T.g
    rw [e, e2] at h3; cases h3; rw [h6] at d2; cases d2
  · rw [e, hP] at h3; cases h3; cases h6
theorem ns_noP {h : Heap} {a P : Addr} {m : Str → Option Value} (hn : h.Ns a m) (hP : h.get? P = some (tabObj #[])) : P ≠ a := fun e => by
  obtain ⟨o, es, ep, e2, d2, _⟩ := hn
  rw [← e, hP] at e2; cases e2; cases d2
theorem room0 (env : Env) : Room (callerA.deeper env) 250 := ⟨rfl, by show callerA.depth + 1 + 2 * 250 + 10 < recursionLimit; decide +kernel, by show callerA.units + 3 + 30 * 250 + 100 < cLine; decide +kernel⟩
theorem abs_int (i : Int) : absF [.int i] = some (.int (i.natAbs : Nat)) := by
  show some (AV.int (if i < 0 then -i else i)) = _
  congr 2; split <;> (first | lia | omega)
theorem cutL_drop {β : Type} (l : List β) (k : Nat) : cutL l (some (k : Int)) none = l.drop k := by
  unfold cutL
  simp only [Option.elim]
  rcases Nat.le_total k l.length with h | h
  · rw [clip_nat _ _ h, List.take_of_length_le]; simp
  · rw [clip_over _ _ h, List.drop_of_length_le h]; simp
theorem getL_own {ρ : Slots} {x : Str} {l : OL} (h : getO ρ x = some l) : getL ρ x = some l.items := by unfold getL; rw [getO_eq h]
theorem fdv_nat (a k : Nat) (hk : 0 < k) (hk' : k < 1073741824) : binA .FloorDiv (.int a) (.int k) = some (.int (a / k : Nat)) := by
  rw [fdv _ _ ⟨by (first | lia | omega), by (first | lia | omega)⟩]
  congr 2
  rw [Int.fdiv_eq_ediv_of_nonneg _ (by (first | lia | omega))]; rfl
theorem gt_int' (a b : Int) : cmpA .Gt (.int a) (.int b) = some (decide (b < a)) := Eq.trans rfl rfl
end Mine
end
section
set_option linter.unusedVariables false
set_option maxRecDepth 100000
set_option maxHeartbeats 1000000
namespace Mine
noncomputable def noE : Expr := .Constant .none 0 ⟨0, 0, 0, 0⟩
noncomputable def sTgt : Stmt → Expr | .Assign ts _ _ => ts.getD 0 noE | .For t _ _ _ _ => t | _ => noE
noncomputable def sVal : Stmt → Expr | .Assign _ v _ => v | .For _ i _ _ _ => i | .Return (some v) _ => v | .If t _ _ _ => t | _ => noE
noncomputable def sPos : Stmt → Pos | .Assign _ _ p => p | .For _ _ _ _ p => p | .Return _ p => p | .If _ _ _ p => p | .Try _ _ _ _ p => p | _ => ⟨0, 0, 0, 0⟩
noncomputable def sBody : Stmt → List Stmt | .For _ _ b _ _ => b | .If _ b _ _ => b | .Try b _ _ _ _ => b | _ => []
noncomputable def sHan : Stmt → List ExceptHandler | .Try _ h _ _ _ => h | _ => []
noncomputable def hTyp : ExceptHandler → Expr | .ExceptHandler (some t) _ _ _ => t | _ => noE
noncomputable def hBody : ExceptHandler → List Stmt | .ExceptHandler _ _ b _ => b
noncomputable def hPos : ExceptHandler → Pos | .ExceptHandler _ _ _ p => p
noncomputable def eFun : Expr → Expr | .Call f _ _ _ => f | .Attribute o _ _ => o | .Subscript o _ _ => o | .BinOp l _ _ _ => l | .Compare l _ _ _ => l | .ListComp e _ _ _ => e | _ => noE
noncomputable def eArg : Expr → List Expr | .Call _ as _ _ => as | .Tuple es _ _ => es | .List es _ => es | .Subscript _ i _ => [i] | .BinOp _ _ r _ => [r] | .Compare _ _ es _ => es | _ => []
noncomputable def eK : Expr → Nat | .Tuple _ k _ => k | .Constant _ k _ => k | _ => 0
noncomputable def eGen : Expr → List Comprehension | .ListComp _ gs _ _ => gs | _ => []
noncomputable def eScp : Expr → Scope | .ListComp _ _ s _ => s | _ => { kind := .function, names := [], isGenerator := false, isCoroutine := false }
noncomputable def gTgt : List Comprehension → Expr | g :: _ => g.target | _ => noE
noncomputable def gItr : List Comprehension → Expr | g :: _ => g.iter | _ => noE
noncomputable def compOf (st : Stmt) : CompT where
  px := (sTgt st).pos
  np := (eFun (eFun (sVal st))).pos
  lp := ((eArg (eFun (sVal st))).getD 0 noE).pos
  cp := (eFun (sVal st)).pos
  tp := (gTgt (eGen (sVal st))).pos
  py := (gItr (eGen (sVal st))).pos
  pos := (sVal st).pos
  spos := sPos st
  scope := eScp (sVal st)
noncomputable def cA7 : CompT := compOf (bdRest.getD 0 nopass)
noncomputable def cB7 : CompT := compOf (bdRest.getD 1 nopass)
noncomputable def rT7 : RetT := let st := bdRest.getD 2 nopass; ⟨((eArg (sVal st)).getD 0 noE).pos, ((eArg (sVal st)).getD 1 noE).pos, eK (sVal st), (sVal st).pos, sPos st⟩
noncomputable def handOf (h : ExceptHandler) : HandT :=
  let st := (hBody h).getD 0 nopass
  let b := sVal st
  let c := (eArg b).getD 0 noE
  ⟨(sTgt st).pos, (eFun b).pos, (eFun c).pos, ((eArg c).getD 0 noE).pos, c.pos, b.pos, sPos st, eK (eFun b)⟩
noncomputable def tryOf (st : Stmt) : TryT :=
  let a := (sBody st).getD 0 nopass
  let c := sVal a
  let h1 := (sHan st).getD 0 (.ExceptHandler none none [] ⟨0, 0, 0, 0⟩)
  let h2 := (sHan st).getD 1 (.ExceptHandler none none [] ⟨0, 0, 0, 0⟩)
  ⟨(sTgt a).pos, (eFun (eFun c)).pos, (eFun c).pos, ((eArg c).getD 0 noE).pos, ((eArg c).getD 1 noE).pos, c.pos, sPos a, (hTyp h1).pos, hPos h1, (hTyp h2).pos, hPos h2, sPos st, handOf h1, handOf h2⟩
noncomputable def ifOf (st : Stmt) : IfT :=
  let c := sVal st
  let r := (sBody st).getD 0 nopass
  ⟨(eFun c).pos, ((eArg c).getD 0 noE).pos, c.pos, (sVal r).pos, sPos r, sPos st, eK (sVal r)⟩
noncomputable def for7 : ForT := ⟨(sTgt stLoop).pos, (sVal stLoop).pos, sPos stLoop, tryOf ((sBody stLoop).getD 0 nopass), ifOf ((sBody stLoop).getD 1 nopass)⟩
theorem loop_eq : stLoop = for7.stmt := by kernel_rfl
noncomputable def iterOf (e : Expr) (i : Nat) : Expr := (eArg e).getD i noE
noncomputable def three7 : ThreeT :=
  let v := sVal stThree
  let a := iterOf v 0
  let b := iterOf v 1
  let c := iterOf v 2
  let t := sTgt stThree
  let s0 := iterOf b 0
  let s1 := iterOf c 0
  ⟨(eFun a).pos, (iterOf a 0).pos, a.pos, (eFun b).pos, (eFun s0).pos, (iterOf s0 0).pos, s0.pos, b.pos, (eFun c).pos, (eFun s1).pos, (iterOf s1 0).pos, s1.pos, c.pos, eK (iterOf s0 0), eK (iterOf s1 0), eK v, v.pos, (iterOf t 0).pos, (iterOf t 1).pos, (iterOf t 2).pos, t.pos, eK t, sPos stThree⟩
theorem three_eq : stThree = three7.stmt := by kernel_rfl
theorem wells_eq : stWells = .Assign [.Name "wells" (sTgt stWells).pos] (.List [.List [] (iterOf (sVal stWells) 0).pos, .List [] (iterOf (sVal stWells) 1).pos] (sVal stWells).pos) (sPos stWells) := by kernel_rfl
theorem ret_eq : stRet = .Return (some (.Constant (.bool true) (eK (sVal stRet)) (sVal stRet).pos)) (sPos stRet) := by kernel_rfl
noncomputable def st7 (i : Nat) : Stmt := bdExp.getD i nopass
theorem exp0_eq : st7 0 = .Assign [.Name "line" (sTgt (st7 0)).pos] (.Call (.Attribute (.Name "line" (eFun (eFun (sVal (st7 0)))).pos) "replace" (eFun (sVal (st7 0))).pos) [.Constant (.str " ") (eK (iterOf (sVal (st7 0)) 0)) (iterOf (sVal (st7 0)) 0).pos, .Constant (.str "\x00") (eK (iterOf (sVal (st7 0)) 1)) (iterOf (sVal (st7 0)) 1).pos] [] (sVal (st7 0)).pos) (sPos (st7 0)) := by kernel_rfl
theorem exp1_eq : st7 1 = .Assign [.Name "line" (sTgt (st7 1)).pos] (.Call (.Attribute (.Name "line" (eFun (eFun (sVal (st7 1)))).pos) "expandtabs" (eFun (sVal (st7 1))).pos) [.Attribute (.Name "self" (eFun (iterOf (sVal (st7 1)) 0)).pos) "_tabsize" (iterOf (sVal (st7 1)) 0).pos] [] (sVal (st7 1)).pos) (sPos (st7 1)) := by kernel_rfl
theorem exp_split : bdExp = st7 0 :: st7 1 :: bdExp.drop 2 := by kernel_rfl
end Mine
end
section
set_option linter.unusedVariables false
set_option linter.unusedSimpArgs false
set_option maxRecDepth 100000
set_option maxHeartbeats 1000000
namespace Mine
noncomputable def GW1 : List AV → Option AV := asF ["thing", "stop"] fWrd
noncomputable def GL1 : List AV → Option AV := asF ["line", "stop"] fFil
noncomputable def ctorB : List AV → Option (List AV)
  | [a] => some [a, .none, .none, .raw (.ref 29)]
  | _ => none
noncomputable def pInit : Arguments := argsOf (inBody (stAt P07 7) 5)
noncomputable def GC : List AV → Option AV := fun args => ctorB args >>= fun full => (initA (fun p => (ctorN.zip full).reverse.lookup p) initL []).map (.inst 111)
section
variable {w : World} {h₀ : Heap} {mg mb : Str → Option Value} {os : OsState} {X Z₀ : AddrSet} {d : Nat}
theorem init_eq : initL.map InitSt.stmt = bdInit := by kernel_rfl
theorem binds_one (fd : FuncData) (hp : fd.params = pInit) (hd : fd.defaults = .ref 37) (x v1 : Value) (s : Shared) {K : Frag} (X : K.In s.heap) {o : Obj} (ho : K.lookup 37 = some o) (hs : o.data = .seq #[.int 8 231, .none, .none, .ref 29] 0) : BindsTo s fd ⟨[x, v1], []⟩ (("self", x) :: ctorN.zip [v1, .none, .none, .ref 29]) := by
  obtain ⟨⟩ := fd
  simp only at hp hd
  subst hp
  subst hd
  exact binds_K X rfl ho hs rfl rfl
theorem binds_ctor (x v1 : Value) (s : Shared) (X' : (W07 w h₀ mg mb os X Z₀).K.In s.heap) : BindsTo s (fdK (W07 w h₀ mg mb os X Z₀).K 44 has_init) ⟨[x, v1], []⟩ (("self", x) :: ctorN.zip [v1, .none, .none, .ref 29]) := by
  have ho : ((W07 w h₀ mg mb os X Z₀).K.lookup 37).isSome = true := by kernel_rfl
  obtain ⟨o, ho⟩ := Option.isSome_iff_exists.mp ho
  have hs : ((W07 w h₀ mg mb os X Z₀).K.lookup 37).map (·.data) = some (.seq #[.int 8 231, .none, .none, .ref 29] 0) := by kernel_rfl
  rw [ho] at hs
  exact binds_one _ (by kernel_rfl) (by kernel_rfl) x v1 s X' ho (Option.some.inj hs)
theorem spec_ctor : FSpec (W07 w h₀ mg mb os X Z₀) (d + 1) (.ref 111) GC := by
  have kf := fn_init (w := w) (h₀ := h₀) (mg := mg) (mb := mb) (os := os) (X := X) (Z₀ := Z₀)
  rw [← init_eq] at kf
  refine ctor_spec (names := ctorN) (l := initL) (bd := ctorB) cls_diff kf (fun Z h x vals args full r hb => ?_) (fun x hx => ?_) (by decide) (fun st hst => ?_) (by decide)
  · unfold ctorB at hb
    split at hb
    · cases hb
      obtain ⟨v1, rfl, r1⟩ := r.one
      exact ⟨[v1, .none, .none, .ref 29], fun s X => binds_ctor x v1 s X, .cons r1 (.cons .none (.cons .none (.cons (.raw _) .nil)))⟩
    · cases hb
  · rw [sc_init]
    have : ((("self" : Str) :: ctorN).all fun x => scInit.names.lookup x == some .local) = true := by kernel_rfl
    exact beq_iff_eq.mp (List.all_eq_true.mp this x hx)
  · have : (initL.all fun st => ctorN.contains st.par && !(st.par == ("__debug__" : Str)) && (takerIn (W07 w h₀ mg mb os X Z₀).K 111 st.attr == some none)) = true := by kernel_rfl
    have := List.all_eq_true.mp this st hst
    simp only [Bool.and_eq_true, Bool.not_eq_true', beq_iff_eq, List.contains_iff_mem] at this
    exact ⟨this.1.1, this.1.2, this.2⟩
theorem tnr_split : bdTnr = .FunctionDef "expand_tabs" (argsOf stExp) bdExp [] none [] scExp none "expand_tabs" (posOf stExp) :: [cA7.stmt "fromlines", cB7.stmt "tolines", rT7.stmt] := by kernel_rfl
theorem fn_tnr : FnC (W07 w h₀ mg mb os X Z₀) 58 (fdK (W07 w h₀ mg mb os X Z₀).K 58 has_tnr) (.FunctionDef "expand_tabs" (argsOf stExp) bdExp [] none [] scExp none "expand_tabs" (posOf stExp) :: [cA7.stmt "fromlines", cB7.stmt "tolines", rT7.stmt]) := by
  rw [← tnr_split]
  refine ⟨fdAt_look has_tnr, by kernel_rfl, by kernel_rfl, by kernel_rfl, by kernel_rfl, by kernel_rfl, fun x hx => ?_, by kernel_rfl, by kernel_rfl, by kernel_rfl⟩
  rw [sc_tnr] at hx
  have : (scTnr.names.all fun x => x.2 != .free) = true := by kernel_rfl
  have := List.all_eq_true.mp this _ (lookup_in hx)
  simp at this
theorem spec_words : FSpec (W07 w h₀ mg mb os X Z₀) (d + 1) (.ref 122) GW1 := by
  have hD := fWrd_den (w := w) (h₀ := h₀) (mg := mg) (mb := mb) (os := os) (X := X) (Z₀ := Z₀) (d := d)
  rw [← sc_words (w := w) (h₀ := h₀) (mg := mg) (mb := mb) (os := os) (X := X) (Z₀ := Z₀)] at hD
  refine fspec_of (names := ["thing", "stop"]) fn_words (fun s vals hv => ?_) (fun x hx => ?_) hD
  · obtain ⟨v1, v2, rfl⟩ := len_two hv; exact BindsTo.of_eq (by kernel_rfl)
  · rw [sc_words]
    have : ((["thing", "stop"] : List Str).all fun x => scWords.names.lookup x == some .local) = true := by kernel_rfl
    exact beq_iff_eq.mp (List.all_eq_true.mp this x hx)
theorem spec_filled : FSpec (W07 w h₀ mg mb os X Z₀) (d + 1) (.ref 129) GL1 := by
  have hD := fFil_den (w := w) (h₀ := h₀) (mg := mg) (mb := mb) (os := os) (X := X) (Z₀ := Z₀) (d := d)
  rw [← sc_filled (w := w) (h₀ := h₀) (mg := mg) (mb := mb) (os := os) (X := X) (Z₀ := Z₀)] at hD
  refine fspec_of (names := ["line", "stop"]) fn_filled (fun s vals hv => ?_) (fun x hx => ?_) hD
  · obtain ⟨v1, v2, rfl⟩ := len_two hv; exact BindsTo.of_eq (by kernel_rfl)
  · rw [sc_filled]
    have : ((["line", "stop"] : List Str).all fun x => scFilled.names.lookup x == some .local) = true := by kernel_rfl
    exact beq_iff_eq.mp (List.all_eq_true.mp this x hx)
noncomputable def qualE : Str := "HtmlDiff._tab_newline_replace.<locals>.expand_tabs"
theorem maker : MakerF (W07 w h₀ mg mb os X Z₀) 58 57 55 qualE (fdK (W07 w h₀ mg mb os X Z₀).K 58 has_tnr) ["self", "fromlines", "tolines"] "expand_tabs" (argsOf stExp) bdExp scExp (posOf stExp) [cA7.stmt "fromlines", cB7.stmt "tolines", rT7.stmt] ["line"] where
  fn := fn_tnr
  bind vals hv := by
    obtain ⟨v1, v2, v3, rfl⟩ := len_three hv
    kernel_rfl
  loc x hx := by
    rw [sc_tnr]
    have : ((["self", "fromlines", "tolines"] : List Str).all fun x => scTnr.names.lookup x == some .local || scTnr.names.lookup x == some .cell) = true := by kernel_rfl
    have := List.all_eq_true.mp this x hx
    simpa using this
  self := by rw [sc_tnr]; kernel_rfl
  qual L := by kernel_rfl
  code := by kernel_rfl
  codeHd := by kernel_rfl
  d0 := by kernel_rfl
  k0 := by kernel_rfl
  ann env := by kernel_rfl
  kd := .inr ⟨by rw [sc_tnr]; kernel_rfl, by decide +kernel⟩
  inocell x hx := by
    have : (scExp.names.all fun x => x.2 != .cell) = true := by kernel_rfl
    have := List.all_eq_true.mp this _ hx
    simpa using this
  ifree x hx := by
    have : (scExp.names.all fun x => x.2 != .free || x.1 == frz) = true := by kernel_rfl
    have := List.all_eq_true.mp this _ (lookup_in hx)
    simpa using this
  ihfree := by kernel_rfl
  ifrees := by kernel_rfl
  ikind := by kernel_rfl
  ico := by kernel_rfl
  igen := by kernel_rfl
  ibind qual clos doc pm c' ctv s vals hv := by
    obtain ⟨v1, rfl⟩ := List.length_eq_one_iff.mp hv
    exact BindsTo.of_eq (by kernel_rfl)
  iloc x hx := by cases List.mem_singleton.mp hx; kernel_rfl
  inot := by decide +kernel
theorem okA7 : cA7.Ok scTnr "fromlines" := ⟨compScope (by kernel_rfl), by kernel_rfl, by kernel_rfl, by kernel_rfl, by kernel_rfl, by kernel_rfl, by decide +kernel, by decide +kernel⟩
theorem okB7 : cB7.Ok scTnr "tolines" := ⟨compScope (by kernel_rfl), by kernel_rfl, by kernel_rfl, by kernel_rfl, by kernel_rfl, by kernel_rfl, by decide +kernel, by decide +kernel⟩
theorem lawSc : LawSc (W07 w h₀ mg mb os X Z₀) scLaw := ⟨gl_aerr, gl_terr, gl_str, by kernel_rfl, by kernel_rfl, by kernel_rfl, by kernel_rfl, by kernel_rfl⟩
theorem meth (hbu : h₀.BuiltinsAt mg 55) (hP : mainGlobals ≠ 55) : Meth7 (W07 w h₀ mg mb os (· = 55) Z₀) d 111 58 57 55 qualE (fdK (W07 w h₀ mg mb os (· = 55) Z₀).K 58 has_tnr) (argsOf stExp) bdExp scExp (posOf stExp) cA7 cB7 rT7 fExp where
  k := maker
  okA := by rw [sc_tnr]; exact okA7
  okB := by rw [sc_tnr]; exact okB7
  hX a := Iff.rfl
  hPg := hP
  hI h₀ Z₀ := fExp_den (X := fun _ => False)
  hbu := hbu
  hg := me_get
  hfi := me_find
  hfn := me_fn
  hko := me_keep
end
theorem GC_int (n : Int) : ∃ fs, GC [.int n] = some (.inst 111 fs) ∧ attrA 111 "_tabsize" (.inst 111 fs) = some (.int n) ∧ fs.lookup ("_tab_newline_replace" : Str) = none := by
  refine ⟨[("_tabsize", .int n), ("_wrapcolumn", .none), ("_linejunk", .none), ("_charjunk", .raw (.ref 29))], ?_, ?_, ?_⟩
  · kernel_rfl
  · kernel_rfl
  · kernel_rfl
theorem GC_str (x : Str) : ∃ fs, GC [.str x] = some (.inst 111 fs) ∧ attrA 111 "_tabsize" (.inst 111 fs) = some (.str x) ∧ fs.lookup ("_tab_newline_replace" : Str) = none := by
  refine ⟨[("_tabsize", .str x), ("_wrapcolumn", .none), ("_linejunk", .none), ("_charjunk", .raw (.ref 29))], ?_, ?_, ?_⟩
  · kernel_rfl
  · kernel_rfl
  · kernel_rfl
end Mine
end
section
set_option linter.unusedVariables false
set_option linter.unusedSimpArgs false
set_option maxHeartbeats 1000000
namespace Mine
noncomputable def msgInt : Str := Str.ofString "'str' object cannot be interpreted as an integer"
noncomputable def msgByt : Str := Str.ofString "a bytes-like object is required, not 'str'"
noncomputable def bad7 (four : Bool) : AV → Option (String × Str)
  | .str _ => if four = true then some ("TypeError", msgInt) else none
  | .bytes _ => some ("TypeError", msgByt)
  | a => (missA a).map fun m => ("AttributeError", m)
noncomputable def H7 (n : Int) : AV → AV
  | .str t => .str (tx (rst (expT n 0 t.cps.toList)))
  | a => a
theorem H7_tx (n : Int) (l : List Nat) : H7 n (.str (tx l)) = .str (tx (rst (expT n 0 l))) := by
  show AV.str (tx (rst (expT n 0 (tx l).cps.toList))) = _
  rw [tx_list]
section
variable (bad : AV → Option (String × Str)) (H : AV → AV)
noncomputable def errs : List AV → List AV
  | [] => []
  | a :: l => match bad a with
    | some w => .str (toldX w) :: errs l
    | none => errs l
noncomputable def tailOf : List AV → List AV
  | [] => []
  | a :: l => match bad a with
    | some w => tailOf l
    | none => if errs bad l = [] then H a :: tailOf l else tailOf l
noncomputable def lastA : AV := .tup [.lst [], .lst []]
noncomputable def dueOf (l m : List AV) : List AV := errs bad l ++ (errs bad m ++ [.tup [.lst (if errs bad m = [] then tailOf bad H l else []), .lst (tailOf bad H m)], lastA])
end
section
variable {bad : AV → Option (String × Str)} {H : AV → AV}
theorem errs_bad {a : AV} {w : String × Str} {l : List AV} (h : bad a = some w) : errs bad (a :: l) = .str (toldX w) :: errs bad l := by simp [errs, h]
theorem errs_ok {a : AV} {l : List AV} (h : bad a = none) : errs bad (a :: l) = errs bad l := by simp [errs, h]
theorem tail_bad {a : AV} {w : String × Str} {l : List AV} (h : bad a = some w) : tailOf bad H (a :: l) = tailOf bad H l := by simp [tailOf, h]
theorem tail_ok {a : AV} {l : List AV} (h : bad a = none) : tailOf bad H (a :: l) = if errs bad l = [] then H a :: tailOf bad H l else tailOf bad H l := by simp [tailOf, h]
theorem first_bad {a : AV} {w : String × Str} {l : List AV} (h : bad a = some w) : firstBad bad (a :: l) = some (0, w) := by simp [firstBad, h]
theorem first_ok {a : AV} {l : List AV} (h : bad a = none) : firstBad bad (a :: l) = (firstBad bad l).map fun r => (r.1 + 1, r.2) := by simp [firstBad, h]
theorem firstBad_clean : ∀ {l : List AV}, firstBad bad l = none → errs bad l = [] ∧ tailOf bad H l = l.map H
  | [], _ => ⟨rfl, rfl⟩
  | a :: l, h => by
    cases hb : bad a with
    | some w => rw [first_bad hb] at h; cases h
    | none =>
      rw [first_ok hb] at h
      obtain ⟨h1, h2⟩ := firstBad_clean (Option.map_eq_none_iff.mp h)
      rw [errs_ok hb, tail_ok hb, if_pos h1, h1, h2]
      exact ⟨rfl, rfl⟩
theorem firstBad_at : ∀ {l : List AV} {n : Nat} {w : String × Str}, firstBad bad l = some (n, w) → errs bad l = .str (toldX w) :: errs bad (l.drop (n + 1)) ∧ tailOf bad H l = tailOf bad H (l.drop (n + 1))
  | [], n, w, h => by cases h
  | a :: l, n, w, h => by
    cases hb : bad a with
    | some w' =>
      rw [first_bad hb] at h
      cases h
      rw [errs_bad hb, tail_bad hb]
      exact ⟨rfl, rfl⟩
    | none =>
      rw [first_ok hb] at h
      obtain ⟨⟨k, w'⟩, h', e⟩ := Option.map_eq_some_iff.mp h
      cases e
      obtain ⟨h1, h2⟩ := firstBad_at h'
      rw [errs_ok hb, tail_ok hb, if_neg (by rw [h1]; simp), List.drop_succ_cons]
      exact ⟨h1, h2⟩
noncomputable def Rel7 (bad : AV → Option (String × Str)) (H : AV → AV) (b0 b1 : List AV) (i j : Nat) (D : List AV) : Prop :=
  D = dueOf bad H (b0.drop i) (b1.drop j) ∨ (i = b0.length ∧ j = b1.length ∧ (D = [lastA] ∨ D = []))
theorem rel7 {b0 b1 : List AV} : ∀ i j a D', Rel7 bad H b0 b1 i j (a :: D') → (firstBad bad (b0.drop i) = none → firstBad bad (b1.drop j) = none → a = .tup [.lst ((b0.drop i).map H), .lst ((b1.drop j).map H)] ∧ Rel7 bad H b0 b1 b0.length b1.length D') ∧
      ∀ n w i' j', (firstBad bad (b0.drop i) = some (n, w) ∧ i' = i + (n + 1) ∧ j' = j) ∨ (firstBad bad (b0.drop i) = none ∧ firstBad bad (b1.drop j) = some (n, w) ∧ i' = b0.length ∧ j' = j + (n + 1)) → a = .str (toldX w) ∧ Rel7 bad H b0 b1 i' j' D' := by
  rintro i j a D' (h | ⟨hi, hj, h⟩)
  · refine ⟨fun g0 g1 => ?_, fun n w i' j' hc => ?_⟩
    · obtain ⟨a1, a2⟩ := firstBad_clean (H := H) g0
      obtain ⟨c1, c2⟩ := firstBad_clean (H := H) g1
      unfold dueOf at h
      rw [a1, c1, a2, c2, if_pos rfl] at h
      cases h
      exact ⟨rfl, .inr ⟨rfl, rfl, .inl rfl⟩⟩
    · rcases hc with ⟨g0, rfl, rfl⟩ | ⟨g0, g1, rfl, rfl⟩
      · obtain ⟨a1, a2⟩ := firstBad_at (H := H) g0
        unfold dueOf at h
        rw [a1, a2] at h
        cases h
        refine ⟨rfl, .inl ?_⟩
        rw [List.drop_drop, show i + (n + 1) = i + n + 1 by (first | lia | omega)]; rfl
      · obtain ⟨a1, a2⟩ := firstBad_clean (H := H) g0
        obtain ⟨c1, c2⟩ := firstBad_at (H := H) g1
        unfold dueOf at h
        rw [a1, c1, c2, if_neg (by simp)] at h
        cases h
        refine ⟨rfl, .inl ?_⟩
        unfold dueOf
        rw [List.drop_length, List.drop_drop]
        show _ = errs bad (b1.drop (j + (n + 1))) ++ [AV.tup [.lst (if errs bad (b1.drop (j + (n + 1))) = [] then [] else []), .lst (tailOf bad H (b1.drop (j + (n + 1))))], lastA]
        rw [ite_self]; rfl
  · subst hi hj
    rw [List.drop_length, List.drop_length]
    rcases h with h | h
    · cases h
      refine ⟨fun _ _ => ⟨rfl, .inr ⟨rfl, rfl, .inr rfl⟩⟩, fun n w i' j' hc => ?_⟩
      rcases hc with ⟨h, _⟩ | ⟨_, h, _⟩ <;> cases h
    · cases h
theorem rel7_start (b0 b1 : List AV) : Rel7 bad H b0 b1 0 0 (dueOf bad H b0 b1) := .inl rfl
theorem errs_strs : ∀ {l : List AV} {a : AV}, a ∈ errs bad l → ∃ t, a = .str t
  | [], a, h => by cases h
  | b :: l, a, h => by
    unfold errs at h
    split at h
    · rcases List.mem_cons.mp h with rfl | h
      · exact ⟨_, rfl⟩
      · exact errs_strs h
    · exact errs_strs h
theorem errs_len : ∀ l : List AV, (errs bad l).length ≤ l.length
  | [] => Nat.le_refl _
  | a :: l => by
    have := errs_len l
    unfold errs
    split <;> simp only [List.length_cons] <;> (first | lia | omega)
theorem tail_mem : ∀ {l : List AV} {a : AV}, a ∈ tailOf bad H l → ∃ c ∈ l, bad c = none ∧ a = H c
  | [], a, h => by cases h
  | b :: l, a, h => by
    have up : a ∈ tailOf bad H l → ∃ c ∈ b :: l, bad c = none ∧ a = H c := fun h => let ⟨c, m, r⟩ := tail_mem h; ⟨c, List.mem_cons_of_mem _ m, r⟩
    unfold tailOf at h
    split at h
    · exact up h
    · rename_i hb
      split at h
      · rcases List.mem_cons.mp h with rfl | h
        · exact ⟨b, List.mem_cons_self, hb, rfl⟩
        · exact up h
      · exact up h
theorem dat_strs {l : List AV} (h : ∀ a ∈ l, ∃ t, a = .str t) (n : Nat) : dat (n + 1) (.lst l) = true := by
  show l.all (dat n) = true
  rw [List.all_eq_true]
  intro a ha
  obtain ⟨t, rfl⟩ := h a ha
  cases n <;> rfl
theorem due_cmp {l m : List AV} (hl : ∀ c, (c ∈ l ∨ c ∈ m) → bad c = none → ∃ t, H c = .str t) : ∀ a ∈ dueOf bad H l m, cmpA .NotEq a a = some false := by
  have hs : ∀ t : Str, cmpA .NotEq (.str t) (.str t) = some false := fun t => by
    show (some (t == t)).map (!·) = _
    rw [beq_self_eq_true]; rfl
  have ht : ∀ k : List AV, (∀ c ∈ k, bad c = none → ∃ t, H c = .str t) → ∀ a ∈ tailOf bad H k, ∃ t, a = .str t := fun k hk a ha => by
    obtain ⟨c, m, b, rfl⟩ := tail_mem ha
    exact hk c m b
  intro a ha
  unfold dueOf at ha
  rcases List.mem_append.mp ha with ha | ha
  · obtain ⟨t, rfl⟩ := errs_strs ha; exact hs t
  rcases List.mem_append.mp ha with ha | ha
  · obtain ⟨t, rfl⟩ := errs_strs ha; exact hs t
  rcases List.mem_cons.mp ha with rfl | ha
  · refine ne_tup _ ?_
    show List.all [_, _] (dat 7) = true
    have e1 : dat 7 (.lst (if errs bad m = [] then tailOf bad H l else [])) = true := by
      split
      · exact dat_strs (ht l fun c h => hl c (.inl h)) 6
      · rfl
    have e2 : dat 7 (.lst (tailOf bad H m)) = true := dat_strs (ht m fun c h => hl c (.inr h)) 6
    rw [List.all_cons, List.all_cons, e1, e2]; rfl
  · cases List.mem_singleton.mp ha
    exact ne_tup _ rfl
end
end Mine
end
section
set_option linter.unusedVariables false
set_option linter.unusedSimpArgs false
set_option maxHeartbeats 1000000
namespace Mine
theorem mod_pos {n : Int} (hn : 0 < n) (col : Nat) : binA .Mod (.int col) (.int n) = some (.int (col % n.toNat : Nat)) := by
  obtain ⟨N, rfl⟩ := Int.eq_ofNat_of_zero_le (Int.le_of_lt hn)
  rw [Int.toNat_natCast]
  exact mod_nat col N (by (first | lia | omega))
theorem mul_tab (k : Nat) (h : k ≤ 1000) : binA .Mult (.str "\t") (.int k) = some (.str (tx (List.replicate k 9))) := by
  rw [l_tab, mul_str' _ _ ⟨by (first | lia | omega), by (first | lia | omega), by rw [tx_length]; simp; (first | lia | omega)⟩]
  unfold repStr
  rw [tx_list, Int.toNat_natCast, List.flatten_replicate_singleton]; rfl
theorem mul_nl (k : Nat) (h : k ≤ 1000) : binA .Mult (.str "\n") (.int k) = some (.str (tx (List.replicate k 10))) := by
  rw [l_nl, mul_str' _ _ ⟨by (first | lia | omega), by (first | lia | omega), by rw [tx_length]; simp; (first | lia | omega)⟩]
  unfold repStr
  rw [tx_list, Int.toNat_natCast, List.flatten_replicate_singleton]; rfl
theorem fil_tab {ρ : Slots} {n : Int} {t : List Nat} (h1 : getV ρ "out" = some (.str (tx t))) (h3 : getV ρ "stop" = some (.int n)) (hs : getV ρ "sign" = some (.str (tx [9]))) (hn : n ≤ 100) (hz : t.length ≤ 100000) :
    fFil_B2 ρ = some (.next, ρ.set "out" (.val (.str (tx (t ++ List.replicate (gap n t.length) 9))))) := by
  have c1 : cmpA .Eq (.str (tx [9])) (.str "\t") = some true := by rw [l_tab, eq_str]; rfl
  have c2 : cmpA .Gt (.int n) (.int 0) = some (decide (0 < n)) := gt_int' n 0
  have l1 : lenF [.str (tx t)] = some (.int t.length) := len_str t (by (first | lia | omega))
  by_cases h0 : 0 < n
  · rw [decide_eq_true h0] at c2
    have m1 := mod_pos h0 t.length
    have hg : gap n t.length = n.toNat - t.length % n.toNat := by unfold gap; rw [if_pos h0]
    have hlt : t.length % n.toNat < n.toNat := Nat.mod_lt _ (by (first | lia | omega))
    have s1 : binA .Sub (.int n) (.int (t.length % n.toNat : Nat)) = some (.int (gap n t.length : Nat)) := by
      rw [hg]
      show some (AV.int (n - (t.length % n.toNat : Nat))) = _
      congr 2; (first | lia | omega)
    have u1 := mul_tab (gap n t.length) (by (first | lia | omega))
    have a1 : augA .Add (.str (tx t)) (.str (tx (List.replicate (gap n t.length) 9))) = _ := aug_str _ _ (by rw [List.length_replicate]; (first | lia | omega))
    unfold fFil_B2; ac_rfl
  · rw [decide_eq_false h0] at c2
    have hg : gap n t.length = 0 := gap_neg h0 _
    rw [hg]
    have a1 : augA .Add (.str (tx t)) (.str "") = some (.str (tx (t ++ List.replicate 0 9))) := by rw [l_empty, aug_str _ _ (by simp; (first | lia | omega))]; rfl
    unfold fFil_B2; ac_rfl
theorem fil_nl {ρ : Slots} (hs : getV ρ "sign" = some (.str (tx [10]))) : fFil_B2 ρ = some (.next, ρ) := by
  have c1 : cmpA .Eq (.str (tx [10])) (.str "\t") = some false := by rw [l_tab, eq_str]; rfl
  have c2 : cmpA .NotEq (.str (tx [10])) (.str "\n") = some false := by rw [l_nl, ne_str]; rfl
  unfold fFil_B2; ac_rfl
theorem fil_oth {ρ : Slots} {c : Nat} {t : List Nat} (h1 : getV ρ "out" = some (.str (tx t))) (hs : getV ρ "sign" = some (.str (tx [c]))) (h9 : c ≠ 9) (h10 : c ≠ 10) (hz : t.length ≤ 100000) :
    fFil_B2 ρ = some (.next, ρ.set "out" (.val (.str (tx (t ++ [swp 0 32 c]))))) := by
  have c1 : cmpA .Eq (.str (tx [c])) (.str "\t") = some false := by rw [l_tab, eq_str]; simpa using h9
  have c2 : cmpA .NotEq (.str (tx [c])) (.str "\n") = some true := by rw [l_nl, ne_str]; simpa using h10
  have a1 : augA .Add (.str (tx t)) (.str (tx [swp 0 32 c])) = some (.str (tx (t ++ [swp 0 32 c]))) := aug_str _ _ (by simp; (first | lia | omega))
  by_cases h0 : c = 0
  · subst h0
    have c3 : cmpA .Eq (.str (tx [0])) (.str "\x00") = some true := by rw [l_zero, eq_str]; rfl
    have e : AV.str " " = .str (tx [swp 0 32 0]) := congrArg AV.str l_blank
    rw [← e] at a1
    unfold fFil_B2; ac_rfl
  · have c3 : cmpA .Eq (.str (tx [c])) (.str "\x00") = some false := by rw [l_zero, eq_str]; simpa using h0
    have e : swp 0 32 c = c := by unfold swp; rw [if_neg h0]
    rw [e] at a1 ⊢
    unfold fFil_B2; ac_rfl
theorem fil_loop {n : Int} (hn : n ≤ 100) : ∀ (l : List Nat) (ρ : Slots) (t : List Nat), 10 ∉ l → 13 ∉ l → getV ρ "out" = some (.str (tx t)) → getV ρ "stop" = some (.int n) → t.length + 100 * l.length ≤ 100000 →
    ∃ ρ', Runs fFil_T1 fFil_B2 (l.map fun c => AV.str (tx [c])) ρ ρ' ∧ getV ρ' "out" = some (.str (tx (t ++ expT n t.length l))) ∧ getV ρ' "stop" = some (.int n)
  | [], ρ, t, _, _, h1, h3, _ => ⟨ρ, .nil, by rw [expT, List.append_nil]; exact h1, h3⟩
  | c :: r, ρ, t, h10, h13, h1, h3, hz => by
    simp only [List.length_cons, List.mem_cons, not_or] at hz h10 h13
    generalize hρ₁ : ρ.set "sign" (.val (.str (tx [c]))) = ρ₁
    have g1 : getV ρ₁ "out" = some (.str (tx t)) := by subst hρ₁; ac_rfl
    have g3 : getV ρ₁ "stop" = some (.int n) := by subst hρ₁; ac_rfl
    have g4 : getV ρ₁ "sign" = some (.str (tx [c])) := by subst hρ₁; ac_rfl
    by_cases h9 : c = 9
    · subst h9
      have e := fil_tab g1 g3 g4 hn (by (first | lia | omega))
      have hg : gap n t.length ≤ 100 := by unfold gap; split <;> (first | lia | omega)
      obtain ⟨ρ₂, e₂, b, b3⟩ := fil_loop hn r (ρ₁.set "out" (.val (.str (tx (t ++ List.replicate (gap n t.length) 9))))) (t ++ List.replicate (gap n t.length) 9) h10.2 h13.2 (getV_hit _ _ _) (by ac_rfl) (by simp; (first | lia | omega))
      refine ⟨ρ₂, .cons (bindS (show fFil_T1 (.str (tx [9])) ρ = some ρ₁ by rw [← hρ₁]; rfl) e) e₂, ?_, b3⟩
      rw [b, expT, List.append_assoc]
      simp
    · have e := fil_oth g1 g4 h9 (Ne.symm h10.1) (by (first | lia | omega))
      obtain ⟨ρ₂, e₂, b, b3⟩ := fil_loop hn r (ρ₁.set "out" (.val (.str (tx (t ++ [swp 0 32 c]))))) (t ++ [swp 0 32 c]) h10.2 h13.2 (getV_hit _ _ _) (by ac_rfl) (by simp; (first | lia | omega))
      refine ⟨ρ₂, .cons (bindS (show fFil_T1 (.str (tx [c])) ρ = some ρ₁ by rw [← hρ₁]; rfl) e) e₂, ?_, b3⟩
      have hx : nxt c t.length = t.length + 1 := by
        unfold nxt
        rw [if_neg]
        simp only [Bool.or_eq_true, beq_iff_eq]
        rintro (h | h)
        · exact h10.1 h.symm
        · exact h13.1 h.symm
      rw [b, expT, List.append_assoc]
      simp [h9, hx]
theorem fil_nls : ∀ (k : Nat) (ρ : Slots) (t : List Nat), getV ρ "out" = some (.str (tx t)) → ∃ ρ', Runs fFil_T1 fFil_B2 ((List.replicate k 10).map fun c => AV.str (tx [c])) ρ ρ' ∧ getV ρ' "out" = some (.str (tx t))
  | 0, ρ, t, h => ⟨ρ, .nil, h⟩
  | k + 1, ρ, t, h => by
    obtain ⟨ρ', e, g⟩ := fil_nls k (ρ.set "sign" (.val (.str (tx [10])))) t (by ac_rfl)
    exact ⟨ρ', .cons (bindS (show fFil_T1 (.str (tx [10])) ρ = some _ from rfl) (fil_nl (getV_hit _ _ _))) e, g⟩
theorem exp_plain {n : Int} {l : List Nat} (h : 10 ∉ l) (k : Nat) : rst (expT n 0 (l ++ List.replicate k 10)) = expT n 0 l := by
  obtain ⟨col, e⟩ := expT_append n l (List.replicate k 10) 0
  rw [e, exp_nls, rst_nls]
  refine rst_id fun m => ?_
  rcases exp_mem m with h' | ⟨c, hc, h'⟩
  · cases h'
  · rw [swp_nl] at h'; subst h'; exact h hc
theorem GL1_eq {n : Int} (hn : n ≤ 100) {l : List Nat} (h10 : 10 ∉ l) (h13 : 13 ∉ l) (hl : l.length ≤ 100) (k : Nat) (hk : k ≤ 100) : GL1 [.str (tx (l ++ List.replicate k 10)), .int n] = some (H7 n (.str (tx (l ++ List.replicate k 10)))) := by
  rw [H7_tx, exp_plain h10]
  unfold GL1 asF
  refine ifP rfl ?_
  rw [bindA2' _ _ _ _ (sne rfl)]
  generalize hρ : (one1 "line" (.str (tx (l ++ List.replicate k 10)))).set "stop" (.val (.int n)) = ρ
  have g1 : getV ρ "line" = some (.str (tx (l ++ List.replicate k 10))) := by subst hρ; exact getV_skip rfl (by rw [getV_one, if_pos rfl])
  have g2 : getV ρ "stop" = some (.int n) := by subst hρ; ac_rfl
  obtain ⟨ρ', e, g, g'⟩ := fil_loop hn l (ρ.set "out" (.val (.str ""))) [] h10 h13 (by rw [l_empty]; ac_rfl) (by ac_rfl) (by simp; (first | lia | omega))
  obtain ⟨ρ'', e2, g''⟩ := fil_nls k ρ' _ g
  have e' := (e.append e2).forA
  rw [← List.map_append] at e'
  rw [List.nil_append] at g''
  have it : iterA (.str (tx (l ++ List.replicate k 10))) = some ((l ++ List.replicate k 10).map fun c => AV.str (tx [c])) := by rw [← signs_tx]; rfl
  have e4 : fFil_k3 ρ'' = some (.ret (.str (tx (expT n 0 l))), ρ'') := by
    have g'' : getV ρ'' "out" = some (.str (tx (expT n 0 l))) := g''
    unfold fFil_k3; ac_rfl
  have e5 : fFil_k4 (ρ.set "out" (.val (.str ""))) = some (.ret (.str (tx (expT n 0 l))), ρ'') := by
    unfold fFil_k4; ac_rfl
  have e6 : fFil ρ = some (.ret (.str (tx (expT n 0 l))), ρ'') := by
    unfold fFil
    exact bindS rfl (thenS e5)
  rw [e6]; rfl
end Mine
end
section
set_option linter.unusedVariables false
set_option linter.unusedSimpArgs false
set_option maxHeartbeats 1000000
namespace Mine
noncomputable def words7 (four : Bool) (a : AV) : Str := match bad7 four a with
  | none => Str.ofString ""
  | some w => toldX w
noncomputable def StopIs (four : Bool) (stop : AV) : Prop := (stop = .str "4" ∧ four = true) ∨ ∃ n : Int, stop = .int n ∧ four = false
theorem stop_ne {four : Bool} {stop : AV} (h : StopIs four stop) : cmpA .NotEq stop (.str "4") = some (!four) := by
  rcases h with ⟨rfl, rfl⟩ | ⟨n, rfl, rfl⟩
  · kernel_rfl
  · rfl
inductive Thing : AV → Prop
  | str (l : List Nat) (k : Nat) (h10 : 10 ∉ l) (h13 : 13 ∉ l) (hl : l.length ≤ 6) (hk : k ≤ 2) : Thing (.str (tx (l ++ List.replicate k 10)))
  | none : Thing .none
  | int (n : Int) : Thing (.int n)
  | bytes (b : Array UInt8) : Thing (.bytes b)
  | lst (l : List AV) : Thing (.lst l)
theorem is_str {a : AV} {b : Bool} (h : isStr a = some b) : isiF [a, .raw (.type "str")] = some (.bool b) := by
  show (if "str" = "str" then (isStr a).map AV.bool else if "str" = "bytes" then (isBytes a).map AV.bool else if "str" = "int" then (isInt a).map AV.bool else none) = _
  rw [if_pos rfl, h]; rfl
theorem is_bytes {a : AV} {b : Bool} (h : isBytes a = some b) : isiF [a, .raw (.type "bytes")] = some (.bool b) := by
  show (if "bytes" = "str" then (isStr a).map AV.bool else if "bytes" = "bytes" then (isBytes a).map AV.bool else if "bytes" = "int" then (isInt a).map AV.bool else none) = _
  rw [if_neg (by decide), if_pos rfl, h]; rfl
theorem is_int {a : AV} {b : Bool} (h : isInt a = some b) : isiF [a, .raw (.type "int")] = some (.bool b) := by
  show (if "int" = "str" then (isStr a).map AV.bool else if "int" = "bytes" then (isBytes a).map AV.bool else if "int" = "int" then (isInt a).map AV.bool else none) = _
  rw [if_neg (by decide), if_neg (by decide), if_pos rfl, h]; rfl
theorem wrd_last {ρ : Slots} {kind mid msg : Str} (hk : getV ρ "kind" = some (.str kind)) (h1 : binA .Add (.str "AttributeError: '") (.str kind) = some (.str mid)) (h2 : binA .Add (.str mid) (.str "' object has no attribute 'replace'") = some (.str msg)) : fWrd_k1 ρ = some (.ret (.str msg), ρ) := by
  unfold fWrd_k1; ac_rfl
theorem wrd_eq {four : Bool} {stop a : AV} {ρ : Slots} (hs : StopIs four stop) (ht : Thing a) (g1 : getV ρ "thing" = some a) (g2 : getV ρ "stop" = some stop) : ∃ ρ', fWrd ρ = some (.ret (.str (words7 four a)), ρ') := by
  have c1 := stop_ne hs
  have kn : ∀ kind : Str, ∃ ρ', ρ.set "kind" (.val (.str kind)) = ρ' ∧ getV ρ' "kind" = some (.str kind) := fun kind => ⟨_, rfl, getV_hit _ _ _⟩
  cases ht with
  | str l k h10 h13 hl hk =>
    have i1 := is_str (a := .str (tx (l ++ List.replicate k 10))) (b := true) rfl
    refine ⟨ρ, ?_⟩
    cases four with
    | true =>
      have e : words7 true (.str (tx (l ++ List.replicate k 10))) = Str.ofString "TypeError: 'str' object cannot be interpreted as an integer" := by
        show toldX ("TypeError", msgInt) = _
        kernel_rfl
      rw [e]
      have c1 : cmpA .NotEq stop (.str "4") = some false := c1
      unfold fWrd; ac_rfl
    | false =>
      have e : words7 false (.str (tx (l ++ List.replicate k 10))) = Str.ofString "" := rfl
      rw [e]
      have c1 : cmpA .NotEq stop (.str "4") = some true := c1
      unfold fWrd; ac_rfl
  | none =>
    have i1 := is_str (a := .none) (b := false) rfl
    have i2 := is_bytes (a := .none) (b := false) rfl
    have i3 : cmpA .Is .none .none = some true := rfl
    have e : words7 four .none = toldX ("AttributeError", noRepl "'NoneType' object has no attribute '") := rfl
    rw [e]
    have k1 := wrd_last (ρ := ρ.set "kind" (.val (.str "NoneType"))) (kind := "NoneType") (mid := "AttributeError: 'NoneType") (msg := toldX ("AttributeError", noRepl "'NoneType' object has no attribute '")) (getV_hit _ _ _) (by kernel_rfl) (by kernel_rfl)
    refine ⟨ρ.set "kind" (.val (.str "NoneType")), ?_⟩
    have k2 : fWrd_k2 ρ = some (.ret (.str (toldX ("AttributeError", noRepl "'NoneType' object has no attribute '"))), ρ.set "kind" (.val (.str "NoneType"))) := by unfold fWrd_k2; ac_rfl
    have k3 : fWrd_k3 ρ = some (.ret (.str (toldX ("AttributeError", noRepl "'NoneType' object has no attribute '"))), ρ.set "kind" (.val (.str "NoneType"))) := by unfold fWrd_k3; ac_rfl
    unfold fWrd; ac_rfl
  | int n =>
    have i1 := is_str (a := .int n) (b := false) rfl
    have i2 := is_bytes (a := .int n) (b := false) rfl
    have i4 := is_int (a := .int n) (b := true) rfl
    have i3 : cmpA .Is (.int n) .none = some false := rfl
    have e : words7 four (.int n) = toldX ("AttributeError", noRepl "'int' object has no attribute '") := rfl
    rw [e]
    have k1 := wrd_last (ρ := ρ.set "kind" (.val (.str "int"))) (kind := "int") (mid := "AttributeError: 'int") (msg := toldX ("AttributeError", noRepl "'int' object has no attribute '")) (getV_hit _ _ _) (by kernel_rfl) (by kernel_rfl)
    refine ⟨ρ.set "kind" (.val (.str "int")), ?_⟩
    have k2 : fWrd_k2 ρ = some (.ret (.str (toldX ("AttributeError", noRepl "'int' object has no attribute '"))), ρ.set "kind" (.val (.str "int"))) := by unfold fWrd_k2; ac_rfl
    have k3 : fWrd_k3 ρ = some (.ret (.str (toldX ("AttributeError", noRepl "'int' object has no attribute '"))), ρ.set "kind" (.val (.str "int"))) := by unfold fWrd_k3; ac_rfl
    unfold fWrd; ac_rfl
  | bytes b =>
    have i1 := is_str (a := .bytes b) (b := false) rfl
    have i2 := is_bytes (a := .bytes b) (b := true) rfl
    have e : words7 four (.bytes b) = Str.ofString "TypeError: a bytes-like object is required, not 'str'" := by
      show toldX ("TypeError", msgByt) = _
      kernel_rfl
    rw [e]
    refine ⟨ρ, ?_⟩
    have k3 : fWrd_k3 ρ = some (.ret (.str (Str.ofString "TypeError: a bytes-like object is required, not 'str'")), ρ) := by unfold fWrd_k3; ac_rfl
    unfold fWrd; ac_rfl
  | lst l =>
    have i1 := is_str (a := .lst l) (b := false) rfl
    have i2 := is_bytes (a := .lst l) (b := false) rfl
    have i4 := is_int (a := .lst l) (b := false) rfl
    have i3 : cmpA .Is (.lst l) .none = some false := rfl
    have e : words7 four (.lst l) = toldX ("AttributeError", noRepl "'list' object has no attribute '") := rfl
    rw [e]
    have k1 := wrd_last (ρ := ρ.set "kind" (.val (.str "list"))) (kind := "list") (mid := "AttributeError: 'list") (msg := toldX ("AttributeError", noRepl "'list' object has no attribute '")) (getV_hit _ _ _) (by kernel_rfl) (by kernel_rfl)
    refine ⟨ρ.set "kind" (.val (.str "list")), ?_⟩
    have k2 : fWrd_k2 ρ = some (.ret (.str (toldX ("AttributeError", noRepl "'list' object has no attribute '"))), ρ.set "kind" (.val (.str "list"))) := by unfold fWrd_k2; ac_rfl
    have k3 : fWrd_k3 ρ = some (.ret (.str (toldX ("AttributeError", noRepl "'list' object has no attribute '"))), ρ.set "kind" (.val (.str "list"))) := by unfold fWrd_k3; ac_rfl
    unfold fWrd; ac_rfl
theorem GW1_eq {four : Bool} {stop a : AV} (hs : StopIs four stop) (ht : Thing a) : GW1 [a, stop] = some (.str (words7 four a)) := by
  unfold GW1 asF
  refine ifP rfl ?_
  rw [bindA2' _ _ _ _ (sne rfl)]
  obtain ⟨ρ', e⟩ := wrd_eq (ρ := (one1 "thing" a).set "stop" (.val stop)) hs ht (getV_skip rfl (by rw [getV_one, if_pos rfl])) (getV_hit _ _ _)
  rw [e]; rfl
theorem told_ne (w : String × Str) : (toldX w == Str.ofString "") = false := by
  unfold toldX
  rw [beq_eq_false_iff_ne]
  intro h
  have := congrArg Str.length h
  have e : (Str.ofString "").length = 0 := by decide +kernel
  rw [e] at this
  have la : ∀ a b : Str, (a ++ b).length = a.length + b.length := fun a b => by
    show (a.cps ++ b.cps).size = _
    rw [Array.size_append]; rfl
  rw [la] at this
  split at this
  · rw [len_preA] at this; (first | lia | omega)
  · rw [len_preB] at this; (first | lia | omega)
end Mine
end
section
set_option linter.unusedVariables false
set_option linter.unusedSimpArgs false
set_option maxHeartbeats 1000000
namespace Mine
theorem nf_set {ρ : Slots} {y : String} {v : SV} (h : ("fault" == y) = false) (k : ρ (Str.ofString "fault") = none) : (ρ.set (Str.ofString y) v) (Str.ofString "fault") = none := set_skip h k
structure OInv (stop w : AV) (ρ : Slots) (D T : List AV) : Prop where
  stop : getV ρ "stop" = some stop
  due : getO ρ "due" = some ⟨none, D⟩
  tails : getO ρ "tails" = some ⟨none, T⟩
  wells : getV ρ "wells" = some w
  nf : ρ (Str.ofString "fault") = none
noncomputable def nilA (T : List AV) : List AV := T.map fun _ => AV.lst []
theorem nilA_nilA (T : List AV) : nilA (nilA T) = nilA T := by unfold nilA; rw [List.map_map]; rfl
theorem nilA_len (T : List AV) : (nilA T).length = T.length := by unfold nilA; rw [List.length_map]
theorem comp_nil : ∀ (T : List AV) (ρ : Slots), compA (fDue_T1 GW1 GL1) (fun _ => some true) (fDue_f2 GW1 GL1) T ρ = some (nilA T)
  | [], _ => rfl
  | a :: r, ρ => by
    have ef : fDue_f2 GW1 GL1 (ρ.set "tail_ahead" (.val a)) = some (.lst []) := by
      unfold fDue_f2
      exact bindS rfl (ifP (Nat.zero_le _) rfl)
    refine bindS (show fDue_T1 GW1 GL1 a ρ = _ from rfl) (bindS rfl (iteT ?_))
    rw [ef, comp_nil r]; rfl
theorem eq_words (four : Bool) (a : AV) : cmpA .Eq (.str (words7 four a)) (.str "") = some (match bad7 four a with | none => true | some _ => false) := by
  show some (words7 four a == Str.ofString "") = _
  unfold words7
  cases bad7 four a with
  | none => rfl
  | some w => exact congrArg some (told_ne w)
section
variable {four : Bool} {stop w : AV} {n : Int}
theorem due_good {a : AV} {ρ : Slots} {D T t : List AV} (hs : StopIs four stop) (ha : Thing a) (hG : GL1 [a, stop] = some (H7 n a)) (hb : bad7 four a = none) (h : OInv stop w ρ D T) (ht : getO ρ "tail" = some ⟨none, t⟩) (hD : D.length ≤ 100000) (hT : T.length ≤ 100000) (hl : t.length ≤ 100000) :
    ∃ ρ', (fDue_T7 GW1 GL1 a ρ >>= fDue_B8 GW1 GL1) = some (.next, ρ') ∧ OInv stop w ρ' D T ∧ getO ρ' "tail" = some ⟨none, t ++ [H7 n a]⟩ := by
  obtain ⟨h1, h2, h3, h4, h5⟩ := h
  have hW := GW1_eq hs ha
  have c1 := eq_words four a
  rw [hb] at c1
  have c1 : cmpA .Eq (.str (words7 four a)) (.str "") = some true := c1
  generalize hρ₁ : (ρ.set "thing" (.val a)).set "words" (.val (.str (words7 four a))) = ρ₁
  have g1 : getV ρ₁ "stop" = some stop := by subst hρ₁; ac_rfl
  have g2 : getO ρ₁ "due" = some ⟨none, D⟩ := by subst hρ₁; ac_rfl
  have g3 : getO ρ₁ "tails" = some ⟨none, T⟩ := by subst hρ₁; ac_rfl
  have g4 : getV ρ₁ "wells" = some w := by subst hρ₁; ac_rfl
  have g5 : ρ₁ (Str.ofString "fault") = none := by subst hρ₁; exact nf_set rfl (nf_set rfl h5)
  have g6 : getO ρ₁ "tail" = some ⟨none, t⟩ := by subst hρ₁; ac_rfl
  have g7 : getV ρ₁ "thing" = some a := by subst hρ₁; ac_rfl
  have g8 : getV ρ₁ "words" = some (.str (words7 four a)) := by subst hρ₁; ac_rfl
  have hl' : t.length ≤ 1000000 := by (first | lia | omega)
  have k6 : fDue_k6 GW1 GL1 ρ₁ = some (.next, ρ₁.set "tail" (.own ⟨none, t ++ [H7 n a]⟩)) := by
    unfold fDue_k6; ac_rfl
  refine ⟨ρ₁.set "tail" (.own ⟨none, t ++ [H7 n a]⟩), ?_, ⟨by ac_rfl, by ac_rfl, by ac_rfl, by ac_rfl, nf_set rfl g5⟩, getO_hit _ _ _⟩
  refine bindS (show fDue_T7 GW1 GL1 a ρ = some (ρ.set "thing" (.val a)) from rfl) ?_
  rw [← hρ₁] at k6 ⊢
  unfold fDue_B8; ac_rfl
theorem due_bad {a : AV} {ρ : Slots} {D T t : List AV} {m : String × Str} (hs : StopIs four stop) (ha : Thing a) (hb : bad7 four a = some m) (h : OInv stop w ρ D T) (ht : getO ρ "tail" = some ⟨none, t⟩) (hD : D.length ≤ 100000) (hT : T.length ≤ 100000) :
    ∃ ρ', (fDue_T7 GW1 GL1 a ρ >>= fDue_B8 GW1 GL1) = some (.next, ρ') ∧ OInv stop w ρ' (D ++ [.str (toldX m)]) (nilA T) ∧ getO ρ' "tail" = some ⟨none, []⟩ := by
  obtain ⟨h1, h2, h3, h4, h5⟩ := h
  have hW := GW1_eq hs ha
  have c1 := eq_words four a
  rw [hb] at c1
  have c1 : cmpA .Eq (.str (words7 four a)) (.str "") = some false := c1
  have ew : words7 four a = toldX m := by unfold words7; rw [hb]
  rw [ew] at c1 hW
  generalize hρ₁ : (ρ.set "thing" (.val a)).set "words" (.val (.str (toldX m))) = ρ₁
  have g1 : getV ρ₁ "stop" = some stop := by subst hρ₁; ac_rfl
  have g2 : getO ρ₁ "due" = some ⟨none, D⟩ := by subst hρ₁; ac_rfl
  have g3 : getO ρ₁ "tails" = some ⟨none, T⟩ := by subst hρ₁; ac_rfl
  have g4 : getV ρ₁ "wells" = some w := by subst hρ₁; ac_rfl
  have g5 : ρ₁ (Str.ofString "fault") = none := by subst hρ₁; exact nf_set rfl (nf_set rfl h5)
  have g7 : getV ρ₁ "thing" = some a := by subst hρ₁; ac_rfl
  have g8 : getV ρ₁ "words" = some (.str (toldX m)) := by subst hρ₁; ac_rfl
  have hD' : D.length ≤ 1000000 := by (first | lia | omega)
  have hT' : T.length ≤ 1000000 := by (first | lia | omega)
  generalize hρ₂ : (ρ₁.set "due" (.own ⟨none, D ++ [.str (toldX m)]⟩)).set "tail" (.own ⟨none, []⟩) = ρ₂
  have q1 : getV ρ₂ "stop" = some stop := by subst hρ₂; ac_rfl
  have q2 : getO ρ₂ "due" = some ⟨none, D ++ [.str (toldX m)]⟩ := by subst hρ₂; ac_rfl
  have q3 : getO ρ₂ "tails" = some ⟨none, T⟩ := by subst hρ₂; ac_rfl
  have q4 : getV ρ₂ "wells" = some w := by subst hρ₂; ac_rfl
  have q5 : ρ₂ (Str.ofString "fault") = none := by subst hρ₂; exact nf_set rfl (nf_set rfl g5)
  have q6 : getO ρ₂ "tail" = some ⟨none, []⟩ := by subst hρ₂; ac_rfl
  generalize hρ₃ : ρ₂.set "tails" (.val (.lst T)) = ρ₃
  have e1 := comp_nil T (only [] ρ₃)
  have r3 : getV ρ₃ "tails" = some (.lst T) := by subst hρ₃; ac_rfl
  have k4 : fDue_k4 GW1 GL1 ρ₂ = some (.next, ρ₃.set "tails" (.own ⟨none, nilA T⟩)) := by
    unfold fDue_k4
    rw [freeze_own' q3]
    show fDue_z3 GW1 GL1 (ρ₂.set "tails" (.val (.lst T))) = _
    rw [hρ₃]
    unfold fDue_z3; ac_rfl
  have k5 : fDue_k5 GW1 GL1 (ρ₁.set "due" (.own ⟨none, D ++ [.str (toldX m)]⟩)) = some (.next, ρ₃.set "tails" (.own ⟨none, nilA T⟩)) := by
    rw [← hρ₂] at k4
    unfold fDue_k5
    exact bindS (bindS (bindS rfl (ifP (Nat.zero_le _) rfl)) rfl) (thenS k4)
  have k6 : fDue_k6 GW1 GL1 ρ₁ = some (.next, ρ₃.set "tails" (.own ⟨none, nilA T⟩)) := by
    unfold fDue_k6; ac_rfl
  have s1 : getV ρ₃ "stop" = some stop := by subst hρ₃; ac_rfl
  have s2 : getO ρ₃ "due" = some ⟨none, D ++ [.str (toldX m)]⟩ := by subst hρ₃; ac_rfl
  have s4 : getV ρ₃ "wells" = some w := by subst hρ₃; ac_rfl
  have s5 : ρ₃ (Str.ofString "fault") = none := by subst hρ₃; exact nf_set rfl q5
  have s6 : getO ρ₃ "tail" = some ⟨none, []⟩ := by subst hρ₃; ac_rfl
  refine ⟨ρ₃.set "tails" (.own ⟨none, nilA T⟩), ?_, ⟨by ac_rfl, by ac_rfl, getO_hit _ _ _, by ac_rfl, nf_set rfl s5⟩, by ac_rfl⟩
  refine bindS (show fDue_T7 GW1 GL1 a ρ = some (ρ.set "thing" (.val a)) from rfl) ?_
  rw [← hρ₁] at k6
  unfold fDue_B8; ac_rfl
theorem due_loop (hs : StopIs four stop) (hG : ∀ a, Thing a → bad7 four a = none → GL1 [a, stop] = some (H7 n a)) : ∀ (b : List AV) (ρ : Slots) (D T t : List AV), (∀ a ∈ b, Thing a) → OInv stop w ρ D T → getO ρ "tail" = some ⟨none, t⟩ → D.length + b.length ≤ 100000 → T.length ≤ 100000 → t.length + b.length ≤ 100000 →
    ∃ ρ', Runs (fDue_T7 GW1 GL1) (fDue_B8 GW1 GL1) b ρ ρ' ∧ OInv stop w ρ' (D ++ errs (bad7 four) b) (if errs (bad7 four) b = [] then T else nilA T) ∧ getO ρ' "tail" = some ⟨none, if errs (bad7 four) b = [] then t ++ tailOf (bad7 four) (H7 n) b else tailOf (bad7 four) (H7 n) b⟩
  | [], ρ, D, T, t, _, h, ht, _, _, _ => ⟨ρ, .nil, by show OInv stop w ρ (D ++ []) T; rw [List.append_nil]; exact h, by show getO ρ "tail" = some ⟨none, t ++ []⟩; rw [List.append_nil]; exact ht⟩
  | a :: b, ρ, D, T, t, hb, h, ht, hD, hT, hl => by
    simp only [List.length_cons] at hD hl
    have hb' : ∀ c ∈ b, Thing c := fun c m => hb c (List.mem_cons_of_mem _ m)
    cases e : bad7 four a with
    | none =>
      obtain ⟨ρ₁, e₁, i₁, t₁⟩ := due_good hs (hb a List.mem_cons_self) (hG a (hb a List.mem_cons_self) e) e h ht (by (first | lia | omega)) hT (by (first | lia | omega))
      obtain ⟨ρ₂, e₂, i₂, t₂⟩ := due_loop hs hG b ρ₁ D T (t ++ [H7 n a]) hb' i₁ t₁ (by (first | lia | omega)) hT (by simp; (first | lia | omega))
      refine ⟨ρ₂, .cons e₁ e₂, ?_, ?_⟩
      · rw [errs_ok e]; exact i₂
      · rw [errs_ok e, tail_ok e, t₂]
        by_cases h0 : errs (bad7 four) b = []
        · rw [if_pos h0, if_pos h0, if_pos h0, List.append_assoc]; rfl
        · rw [if_neg h0, if_neg h0, if_neg h0]
    | some m =>
      obtain ⟨ρ₁, e₁, i₁, t₁⟩ := due_bad hs (hb a List.mem_cons_self) e h ht (by (first | lia | omega)) hT
      obtain ⟨ρ₂, e₂, i₂, t₂⟩ := due_loop hs hG b ρ₁ (D ++ [.str (toldX m)]) (nilA T) [] hb' i₁ t₁ (by simp; (first | lia | omega)) (by rw [nilA_len]; exact hT) (by simp; (first | lia | omega))
      refine ⟨ρ₂, .cons e₁ e₂, ?_, ?_⟩
      · rw [errs_bad e, if_neg (by simp)]
        rw [List.append_assoc, nilA_nilA, ite_self] at i₂
        exact i₂
      · rw [errs_bad e, tail_bad e, if_neg (by simp), t₂, List.nil_append, ite_self]
theorem due_one (hs : StopIs four stop) (hG : ∀ a, Thing a → bad7 four a = none → GL1 [a, stop] = some (H7 n a)) {b D T : List AV} {ρ : Slots} (hb : ∀ a ∈ b, Thing a) (h : OInv stop w ρ D T) (hD : D.length + b.length ≤ 100000) (hT : T.length ≤ 1000) :
    ∃ ρ', (fDue_T12 GW1 GL1 (.lst b) ρ >>= fDue_B13 GW1 GL1) = some (.next, ρ') ∧ OInv stop w ρ' (D ++ errs (bad7 four) b) ((if errs (bad7 four) b = [] then T else nilA T) ++ [.lst (tailOf (bad7 four) (H7 n) b)]) := by
  obtain ⟨h1, h2, h3, h4, h5⟩ := h
  generalize hρ₁ : (ρ.set "well" (.val (.lst b))).set "tail" (.own ⟨none, []⟩) = ρ₁
  have i₁ : OInv stop w ρ₁ D T := by subst hρ₁; exact ⟨by ac_rfl, by ac_rfl, by ac_rfl, by ac_rfl, nf_set rfl (nf_set rfl h5)⟩
  have g6 : getO ρ₁ "tail" = some ⟨none, []⟩ := by subst hρ₁; ac_rfl
  have g7 : getV ρ₁ "well" = some (.lst b) := by subst hρ₁; ac_rfl
  obtain ⟨ρ₂, e₂, i₂, t₂⟩ := due_loop hs hG b ρ₁ D T [] hb i₁ g6 (by (first | lia | omega)) (by (first | lia | omega)) (by simp; (first | lia | omega))
  rw [List.nil_append, ite_self] at t₂
  have e₂ := e₂.forA
  obtain ⟨q1, q2, q3, q4, q5⟩ := i₂
  generalize hT' : (if errs (bad7 four) b = [] then T else nilA T) = T' at q3
  have zT' : T'.length ≤ 1000000 := by rw [← hT']; split <;> (try rw [nilA_len]) <;> (first | lia | omega)
  generalize hρ₃ : ρ₂.set "tail" (.val (.lst (tailOf (bad7 four) (H7 n) b))) = ρ₃
  have s1 : getV ρ₃ "stop" = some stop := by subst hρ₃; ac_rfl
  have s2 : getO ρ₃ "due" = some ⟨none, D ++ errs (bad7 four) b⟩ := by subst hρ₃; ac_rfl
  have s3 : getO ρ₃ "tails" = some ⟨none, T'⟩ := by subst hρ₃; ac_rfl
  have s4 : getV ρ₃ "wells" = some w := by subst hρ₃; ac_rfl
  have s5 : ρ₃ (Str.ofString "fault") = none := by subst hρ₃; exact nf_set rfl q5
  have s6 : getV ρ₃ "tail" = some (.lst (tailOf (bad7 four) (H7 n) b)) := by subst hρ₃; ac_rfl
  have k10 : fDue_k10 GW1 GL1 ρ₂ = some (.next, ρ₃.set "tails" (.own ⟨none, T' ++ [.lst (tailOf (bad7 four) (H7 n) b)]⟩)) := by
    unfold fDue_k10
    rw [freeze_own' t₂]
    show fDue_z9 GW1 GL1 (ρ₂.set "tail" (.val (.lst (tailOf (bad7 four) (H7 n) b)))) = _
    rw [hρ₃]
    unfold fDue_z9; ac_rfl
  refine ⟨ρ₃.set "tails" (.own ⟨none, T' ++ [.lst (tailOf (bad7 four) (H7 n) b)]⟩), ?_, ⟨by ac_rfl, by ac_rfl, getO_hit _ _ _, by ac_rfl, nf_set rfl s5⟩⟩
  have k11 : fDue_k11 GW1 GL1 ρ₁ = some (.next, ρ₃.set "tails" (.own ⟨none, T' ++ [.lst (tailOf (bad7 four) (H7 n) b)]⟩)) := by
    unfold fDue_k11; ac_rfl
  refine bindS (show fDue_T12 GW1 GL1 (.lst b) ρ = some (ρ.set "well" (.val (.lst b))) from rfl) ?_
  rw [← hρ₁] at k11
  unfold fDue_B13
  exact bindS (bindS (bindS rfl (ifP (Nat.zero_le _) rfl)) rfl) (thenS k11)
theorem due_eq (hs : StopIs four stop) (hG : ∀ a, Thing a → bad7 four a = none → GL1 [a, stop] = some (H7 n a)) {b0 b1 : List AV} {ρ : Slots} (h0 : ∀ a ∈ b0, Thing a) (h1 : ∀ a ∈ b1, Thing a) (z0 : b0.length ≤ 1000) (z1 : b1.length ≤ 1000) (g1 : getV ρ "stop" = some stop) (g2 : getV ρ "wells" = some (.lst [.lst b0, .lst b1])) (g3 : ρ (Str.ofString "fault") = none) :
    ∃ ρ', fDue GW1 GL1 ρ = some (.next, ρ') ∧ getV ρ' "stop" = some stop ∧ getV ρ' "wells" = some (.lst [.lst b0, .lst b1]) ∧ ρ' (Str.ofString "fault") = none ∧ getO ρ' "due" = some ⟨none, dueOf (bad7 four) (H7 n) b0 b1⟩ := by
  generalize hρ₁ : setMany ρ ["tails", "due"] ([SV.own ⟨none, []⟩, .own ⟨none, []⟩] : List SV) = ρ₁
  have i₁ : OInv stop (.lst [.lst b0, .lst b1]) ρ₁ [] [] := by
    subst hρ₁
    show OInv stop _ ((ρ.set "tails" (.own ⟨none, []⟩)).set "due" (.own ⟨none, []⟩)) [] []
    exact ⟨by ac_rfl, by ac_rfl, by ac_rfl, by ac_rfl, nf_set rfl (nf_set rfl g3)⟩
  have le0 := errs_len (bad := bad7 four) b0
  have le1 := errs_len (bad := bad7 four) b1
  obtain ⟨ρ₂, e₂, i₂⟩ := due_one hs hG h0 i₁ (by simp; (first | lia | omega)) (by simp)
  obtain ⟨ρ₃, e₃, i₃⟩ := due_one hs hG h1 i₂ (by simp; (first | lia | omega)) (by split <;> simp [nilA])
  have er := (Runs.cons e₂ (Runs.cons e₃ Runs.nil)).forA
  obtain ⟨q1, q2, q3, q4, q5⟩ := i₃
  have et : ((if errs (bad7 four) b1 = [] then (if errs (bad7 four) b0 = [] then ([] : List AV) else nilA []) ++ [AV.lst (tailOf (bad7 four) (H7 n) b0)] else nilA ((if errs (bad7 four) b0 = [] then [] else nilA []) ++ [.lst (tailOf (bad7 four) (H7 n) b0)])) ++ [.lst (tailOf (bad7 four) (H7 n) b1)]) = [.lst (if errs (bad7 four) b1 = [] then tailOf (bad7 four) (H7 n) b0 else []), .lst (tailOf (bad7 four) (H7 n) b1)] := by
    have : (if errs (bad7 four) b0 = [] then ([] : List AV) else nilA []) = [] := by split <;> rfl
    rw [this]
    split <;> rfl
  rw [et] at q3
  generalize htA : (if errs (bad7 four) b1 = [] then tailOf (bad7 four) (H7 n) b0 else []) = tA at q3
  have gt := getL_own q3
  have x0 : idxA (.lst [.lst tA, .lst (tailOf (bad7 four) (H7 n) b1)]) (.int 0) = some (.lst tA) := rfl
  have x1 : idxA (.lst [.lst tA, .lst (tailOf (bad7 four) (H7 n) b1)]) (.int 1) = some (.lst (tailOf (bad7 four) (H7 n) b1)) := rfl
  have zd : (([] ++ errs (bad7 four) b0) ++ errs (bad7 four) b1).length + 2 ≤ 1000000 := by simp; (first | lia | omega)
  have k14 : fDue_k14 GW1 GL1 ρ₃ = some (.next, ρ₃.set "due" (.own ⟨none, (([] ++ errs (bad7 four) b0) ++ errs (bad7 four) b1) ++ [.tup [.lst tA, .lst (tailOf (bad7 four) (H7 n) b1)], lastA]⟩)) := by
    unfold fDue_k14
    refine bindS (bindS q2 (bindS (a := [AV.tup [.lst tA, .lst (tailOf (bad7 four) (H7 n) b1)], lastA]) ?_ (ifP zd rfl))) rfl
    have y0 : (((getL ρ₃ "tails") >>= fun l => (some (.int 0)) >>= fun i => idxA (.lst l) i)) = some (.lst tA) := bindS gt (bindS rfl x0)
    have y1 : (((getL ρ₃ "tails") >>= fun l => (some (.int 1)) >>= fun i => idxA (.lst l) i)) = some (.lst (tailOf (bad7 four) (H7 n) b1)) := bindS gt (bindS rfl x1)
    have nl : ((some []) >>= fun l => if l.length ≤ 1000000 then some (AV.lst l) else none) = some (AV.lst []) := bindS rfl (ifP (Nat.zero_le _) rfl)
    refine bindS (a := [AV.tup [.lst tA, .lst (tailOf (bad7 four) (H7 n) b1)], lastA]) ?_ (ifP (Nat.le_of_ble_eq_true rfl) rfl)
    refine bindS (a := AV.tup [.lst tA, .lst (tailOf (bad7 four) (H7 n) b1)]) (bindS (a := [AV.lst tA, .lst (tailOf (bad7 four) (H7 n) b1)]) (bindS y0 (bindS (bindS y1 (bindS rfl rfl)) rfl)) (ifP (Nat.le_of_ble_eq_true rfl) rfl)) ?_
    refine bindS (a := [lastA]) (bindS (a := lastA) (bindS (a := [AV.lst [], .lst []]) (bindS nl (bindS (bindS nl (bindS rfl rfl)) rfl)) (ifP (Nat.le_of_ble_eq_true rfl) rfl)) (bindS rfl rfl)) rfl
  refine ⟨ρ₃.set "due" (.own ⟨none, (([] ++ errs (bad7 four) b0) ++ errs (bad7 four) b1) ++ [.tup [.lst tA, .lst (tailOf (bad7 four) (H7 n) b1)], lastA]⟩), ?_, by ac_rfl, by ac_rfl, nf_set rfl q5, ?_⟩
  rotate_left
  · refine (getO_hit _ _ _).trans ?_
    rw [List.nil_append, List.append_assoc, ← htA]
    rfl
  have i4 := i₁.wells
  have k15 : fDue_k15 GW1 GL1 ρ₁ = some (.next, ρ₃.set "due" (.own ⟨none, (([] ++ errs (bad7 four) b0) ++ errs (bad7 four) b1) ++ [.tup [.lst tA, .lst (tailOf (bad7 four) (H7 n) b1)], lastA]⟩)) := by
    unfold fDue_k15
    exact bindS (bindS (bindS i4 (iter_lst _)) er) (thenS k14)
  unfold fDue
  have nl : ((some []) >>= fun l => if l.length ≤ 1000000 then some l else none) = some ([] : List AV) := bindS rfl (ifP (Nat.zero_le _) rfl)
  refine bindS (bindS (a := [SV.own ⟨none, []⟩, .own ⟨none, []⟩]) (bindS nl (bindS (bindS nl (bindS rfl rfl)) rfl)) (ifP ⟨rfl, Nat.le_of_ble_eq_true rfl⟩ rfl)) (thenS ?_)
  rw [show ([SV.own ⟨none, []⟩, .own ⟨none, []⟩] : List SV).reverse = [SV.own ⟨none, []⟩, .own ⟨none, []⟩] from rfl, hρ₁]
  exact k15
end
end Mine
end
section
set_option linter.unusedVariables false
set_option linter.unusedSimpArgs false
set_option maxHeartbeats 4000000
set_option maxRecDepth 20000
namespace Mine
noncomputable def intA (x : Nat) : AV := .int x
noncomputable def signA (s : Nat) : AV := .str (tx [s])
theorem texts_signs : ∀ ss : List Nat, textsOf (ss.map signA) = some (ss.map fun s => tx [s])
  | [] => rfl
  | s :: ss => by show (textsOf (ss.map signA)).map _ = _; rw [texts_signs ss]; rfl
theorem fold_tx : ∀ (ss : List Nat) (b : Array Nat), (ss.map fun s => tx [s]).foldl (fun acc p => acc ++ (tx []).cps ++ p.cps) b = b ++ ss.toArray
  | [], b => by simp
  | s :: ss, b => by
    rw [List.map_cons, List.foldl_cons, fold_tx ss]
    unfold tx; simp
theorem glued_tx (ss : List Nat) : Txt.join (tx []) (ss.map fun s => tx [s]) = tx ss := by
  show Builtin.Str.glued _ _ = _
  unfold Builtin.Str.glued
  cases ss with
  | nil => rfl
  | cons s ss =>
    rw [List.map_cons, List.drop_one, List.tail_cons, fold_tx, List.headD_cons]
    unfold tx; simp
theorem fold_len : ∀ (ss : List Nat) (b : Nat), (ss.map fun s => tx [s]).foldl (fun a p => a + p.length + (tx []).length) b = b + ss.length
  | [], b => by simp
  | s :: ss, b => by
    rw [List.map_cons, List.foldl_cons, fold_len ss, tx_length, tx_length]; simp; (first | lia | omega)
theorem join_tx (ss : List Nat) (h : ss.length ≤ 1000000) : joinF [.str "", .lst (ss.map signA)] = some (.str (tx ss)) := by
  show joinF [.str (Str.ofString ""), _] = _
  rw [l_empty]
  show (textsOf (ss.map signA) >>= fun ts => if JoinOk (tx []) ts = true then some (AV.str (Txt.join (tx []) ts)) else none) = _
  rw [texts_signs, bind_some', if_pos, glued_tx]
  unfold JoinOk Builtin.Str.tooLong
  rw [List.foldl_toArray, fold_len]
  unfold sizeLine
  simp; (first | lia | omega)
noncomputable def dfl07 : List Nat := [6, 5, 95, 8, 111, 154, 10, 66]
noncomputable def nums7 (ns : List Int) : List Nat := ns.map Int.natAbs ++ dfl07.drop ns.length
theorem nums7_len (ns : List Int) (h : ns.length ≤ 63) : 1 ≤ (nums7 ns).length ∧ (nums7 ns).length ≤ 63 := by
  unfold nums7 dfl07; simp; (first | lia | omega)
theorem comp_abs7 : ∀ (ns : List Int) (ρ : Slots), compA fPre_T1 (fun _ => some true) fPre_f2 (ns.map AV.int) ρ = some ((ns.map Int.natAbs).map intA)
  | [], ρ => rfl
  | i :: ns, ρ => by
    have ef : fPre_f2 (ρ.set "x" (.val (.int i))) = some (intA i.natAbs) := by
      have := abs_int i
      unfold fPre_f2; exact bindS (bindS (getV_hit _ _ _) rfl) this
    exact bindS (show fPre_T1 (.int i) ρ = _ from rfl) (bindS rfl (iteT (bindS ef (mapS (comp_abs7 ns _) rfl))))
structure StopOk (four : Bool) (stop : AV) (n : Int) : Prop where
  is : (stop = .str "4" ∧ four = true) ∨ (stop = .int n ∧ four = false)
  lo : -1 ≤ n
  hi : n ≤ 6
theorem StopOk.stopIs {four : Bool} {stop : AV} {n : Int} (h : StopOk four stop n) : StopIs four stop := h.is.imp id fun h => ⟨n, h⟩
theorem pick7 (r : Nat) (h : r < 9) : ∃ four stop n, idxA (.lst [.int (-1), .int 0, .int 1, .int 2, .int 3, .int 4, .int 5, .int 6, .str "4"]) (intA r) = some stop ∧ StopOk four stop n := by
  have : r = 0 ∨ r = 1 ∨ r = 2 ∨ r = 3 ∨ r = 4 ∨ r = 5 ∨ r = 6 ∨ r = 7 ∨ r = 8 := by (first | lia | omega)
  rcases this with rfl | rfl | rfl | rfl | rfl | rfl | rfl | rfl | rfl
  · exact ⟨false, .int (-1), -1, rfl, .inr ⟨rfl, rfl⟩, by (first | lia | omega), by (first | lia | omega)⟩
  · exact ⟨false, .int 0, 0, rfl, .inr ⟨rfl, rfl⟩, by (first | lia | omega), by (first | lia | omega)⟩
  · exact ⟨false, .int 1, 1, rfl, .inr ⟨rfl, rfl⟩, by (first | lia | omega), by (first | lia | omega)⟩
  · exact ⟨false, .int 2, 2, rfl, .inr ⟨rfl, rfl⟩, by (first | lia | omega), by (first | lia | omega)⟩
  · exact ⟨false, .int 3, 3, rfl, .inr ⟨rfl, rfl⟩, by (first | lia | omega), by (first | lia | omega)⟩
  · exact ⟨false, .int 4, 4, rfl, .inr ⟨rfl, rfl⟩, by (first | lia | omega), by (first | lia | omega)⟩
  · exact ⟨false, .int 5, 5, rfl, .inr ⟨rfl, rfl⟩, by (first | lia | omega), by (first | lia | omega)⟩
  · exact ⟨false, .int 6, 6, rfl, .inr ⟨rfl, rfl⟩, by (first | lia | omega), by (first | lia | omega)⟩
  · exact ⟨true, .str "4", 0, rfl, .inl ⟨rfl, rfl⟩, by (first | lia | omega), by (first | lia | omega)⟩
theorem pre_eq (ns : List Int) (h : ns.length ≤ 63) : ∃ (ρ : Slots) (four : Bool) (stop : AV) (n : Int) (N : List Nat), fPre (script0 ns) = some (.next, ρ) ∧ getV ρ "stop" = some stop ∧ getO ρ "numbers" = some ⟨none, N.map intA⟩ ∧ 1 ≤ N.length ∧ N.length ≤ 63 ∧ ρ (Str.ofString "fault") = none ∧ StopOk four stop n := by
  have g0 : getV (script0 ns) "script" = some (.lst (ns.map .int)) := by unfold getV script0; simp
  have nf : script0 ns (Str.ofString "fault") = none := by
    unfold script0
    exact if_neg (sne rfl)
  obtain ⟨hM1, hM2⟩ := nums7_len ns h
  have zl : (ns.map AV.int).length ≤ 1000000 := by rw [List.length_map]; (first | lia | omega)
  generalize script0 ns = ρ at *
  generalize hρ₁ : ρ.set "numbers" (.own ⟨none, (ns.map Int.natAbs).map intA⟩) = ρ₁
  have g1 : getO ρ₁ "numbers" = some ⟨none, (ns.map Int.natAbs).map intA⟩ := by subst hρ₁; ac_rfl
  have n1 : ρ₁ (Str.ofString "fault") = none := by subst hρ₁; exact nf_set rfl nf
  have gl := getL_own g1
  have ec : cutO (.lst [.int 6, .int 5, .int 95, .int 8, .int 111, .int 154, .int 10, .int 66]) (some (ns.length : Int)) none = some ((dfl07.drop ns.length).map intA) := by
    show (if ([.int 6, .int 5, .int 95, .int 8, .int 111, .int 154, .int 10, .int 66] : List AV).length ≤ 1000000 then some (cutL ([.int 6, .int 5, .int 95, .int 8, .int 111, .int 154, .int 10, .int 66] : List AV) (some (ns.length : Int)) none) else none) = _
    rw [if_pos (by simp), cutL_drop, List.map_drop]; rfl
  obtain ⟨N, hN⟩ : ∃ N, nums7 ns = N := ⟨_, rfl⟩
  have hN' : (ns.map Int.natAbs).map intA ++ (dfl07.drop ns.length).map intA = N.map intA := by rw [← hN, nums7, List.map_append]
  rw [hN] at hM1 hM2
  obtain ⟨n0, N', rfl⟩ : ∃ a l, N = a :: l := by cases N with
    | nil => simp at hM1
    | cons a l => exact ⟨a, l, rfl⟩
  have i0 : idxA (.lst ((n0 :: N').map intA)) (.int 0) = some (intA n0) := rfl
  have m9 : binA .Mod (intA n0) (.int 9) = some (intA (n0 % 9)) := mod_nat n0 9 (by (first | lia | omega))
  obtain ⟨four, stop, n, hi, ok⟩ := pick7 (n0 % 9) (by (first | lia | omega))
  have ng : negA (.int 1) = some (.int (-1)) := rfl
  generalize hρ₂ : ρ₁.set "numbers" (.own ⟨none, (n0 :: N').map intA⟩) = ρ₂
  have b1 : getO ρ₂ "numbers" = some ⟨none, (n0 :: N').map intA⟩ := by subst hρ₂; ac_rfl
  have n2 : ρ₂ (Str.ofString "fault") = none := by subst hρ₂; exact nf_set rfl n1
  have gl2 := getL_own b1
  have eL : ((((((some (AV.int 1)) >>= negA)) >>= fun a => ((some (AV.int 0)) >>= fun a => ((some (AV.int 1)) >>= fun a => ((some (AV.int 2)) >>= fun a => ((some (AV.int 3)) >>= fun a => ((some (AV.int 4)) >>= fun a => ((some (AV.int 5)) >>= fun a => ((some (AV.int 6)) >>= fun a => ((some (AV.str "4")) >>= fun a => (some []) >>= fun l => some (a :: l)) >>= fun l => some (a :: l)) >>= fun l => some (a :: l)) >>= fun l => some (a :: l)) >>= fun l => some (a :: l)) >>= fun l => some (a :: l)) >>= fun l => some (a :: l)) >>= fun l => some (a :: l)) >>= fun l => some (a :: l)) >>= fun l => if l.length ≤ 1000000 then some (AV.lst l) else none)) = some (AV.lst [.int (-1), .int 0, .int 1, .int 2, .int 3, .int 4, .int 5, .int 6, .str "4"]) := bindS (a := [.int (-1), .int 0, .int 1, .int 2, .int 3, .int 4, .int 5, .int 6, .str "4"]) (bindS ng (bindS (bindS rfl (bindS (bindS rfl (bindS (bindS rfl (bindS (bindS rfl (bindS (bindS rfl (bindS (bindS rfl (bindS (bindS rfl (bindS (bindS rfl (bindS rfl rfl)) rfl)) rfl)) rfl)) rfl)) rfl)) rfl)) rfl)) rfl)) (ifP (by simp) rfl)
  generalize (AV.lst [.int (-1), .int 0, .int 1, .int 2, .int 3, .int 4, .int 5, .int 6, .str "4"]) = Ls at eL hi
  have e1 : (((((getL ρ₂ "numbers") >>= fun l => (some (.int 0)) >>= fun i => idxA (.lst l) i)) >>= fun a => (some (.int 9)) >>= fun b => binA .Mod a b)) = some (intA (n0 % 9)) := bindS (bindS gl2 (bindS rfl i0)) (bindS rfl m9)
  have k3 : fPre_k3 ρ₂ = some (.next, ρ₂.set "stop" (.val stop)) := by
    unfold fPre_k3
    refine bindS (bindS (bindS eL (bindS e1 hi)) rfl) rfl
  have ln : ((ns.map Int.natAbs).map intA).length ≤ 16777216 := by simp; (first | lia | omega)
  have ll : (((ns.map Int.natAbs).map intA).length : Int) = (ns.length : Int) := by simp
  have k4 : fPre_k4 ρ₁ = some (.next, ρ₂.set "stop" (.val stop)) := by
    unfold fPre_k4
    refine bindS (a := (.next, ρ₁.set "numbers" (.own ⟨none, (n0 :: N').map intA⟩))) (bindS g1 (bindS (a := (dfl07.drop ns.length).map intA) (bindS (a := .lst [.int 6, .int 5, .int 95, .int 8, .int 111, .int 154, .int 10, .int 66]) (bindS (a := [.int 6, .int 5, .int 95, .int 8, .int 111, .int 154, .int 10, .int 66]) (bindS rfl (bindS (bindS rfl (bindS (bindS rfl (bindS (bindS rfl (bindS (bindS rfl (bindS (bindS rfl (bindS (bindS rfl (bindS (bindS rfl (bindS rfl rfl)) rfl)) rfl)) rfl)) rfl)) rfl)) rfl)) rfl)) (ifP (by simp) rfl)) (bindS (a := some (ns.length : Int)) (bindS (bindS gl (ifP ln rfl)) ?_) (bindS rfl ec))) (ifP ?_ ?_))) (thenS ?_)
    · rw [ll]; rfl
    · simp [dfl07]; (first | lia | omega)
    · rw [hN']
    · rw [hρ₂]; exact k3
  refine ⟨ρ₂.set "stop" (.val stop), four, stop, n, n0 :: N', ?_, getV_hit _ _ _, by ac_rfl, hM1, hM2, nf_set rfl n2, ok⟩
  unfold fPre
  refine bindS (bindS (bindS g0 (iter_lst _)) (ifP zl (bindS (comp_abs7 ns _) rfl))) (thenS ?_)
  rw [hρ₁]; exact k4
end Mine
end
section
set_option linter.unusedVariables false
set_option linter.unusedSimpArgs false
set_option maxHeartbeats 4000000
set_option maxRecDepth 20000
namespace Mine
theorem l_signs : (Str.ofString "a \tb\x00\t" : Str) = tx [97, 32, 9, 98, 0, 9] := by decide +kernel
noncomputable def sgn (rest j : Nat) : Nat := ([97, 32, 9, 98, 0, 9] : List Nat).getD ((rest / 7 + j * (1 + rest % 5)) % 6) 0
theorem sgn_mem (rest j : Nat) : sgn rest j ≠ 10 ∧ sgn rest j ≠ 13 := by
  have hall : ∀ i, i < 6 → ([97, 32, 9, 98, 0, 9] : List Nat).getD i 0 ≠ 10 ∧ ([97, 32, 9, 98, 0, 9] : List Nat).getD i 0 ≠ 13 := by decide
  exact hall _ (Nat.mod_lt _ (by (first | lia | omega)))
theorem mul_nat (a b : Nat) (ha : a < 1000) (hb : b < 1000) : binA .Mult (intA a) (intA b) = some (intA (a * b)) := by
  refine Eq.trans (if_pos (α := Option AV) ⟨by (first | lia | omega), by (first | lia | omega)⟩) ?_
  unfold intA
  rw [Int.natCast_mul]
theorem add_nat (a b : Nat) : binA .Add (intA a) (intA b) = some (intA (a + b)) := by unfold intA; rw [Int.natCast_add]; rfl
theorem comp_line (rest : Nat) : ∀ (k a : Nat) (ρ : Slots), a + k ≤ 10 → getV ρ "rest" = some (intA rest) → compA fFill_T1 (fun _ => some true) fFill_f2 (rangeL (a : Int) 1 k) ρ = some (((List.range' a k).map (sgn rest)).map signA)
  | 0, _, _, _, _ => rfl
  | k + 1, a, ρ, hz, h => by
    have ef : fFill_f2 (ρ.set "k" (.val (intA a))) = some (signA (sgn rest a)) := by
      have g1 : getV (ρ.set "k" (.val (intA a))) "rest" = some (intA rest) := by ac_rfl
      have d7 : binA .FloorDiv (intA rest) (.int 7) = some (intA (rest / 7)) := fdv_nat rest 7 (by (first | lia | omega)) (by (first | lia | omega))
      have m5 : binA .Mod (intA rest) (.int 5) = some (intA (rest % 5)) := mod_nat rest 5 (by (first | lia | omega))
      have a1 : binA .Add (.int 1) (intA (rest % 5)) = some (intA (1 + rest % 5)) := add_nat 1 _
      have mu : binA .Mult (intA a) (intA (1 + rest % 5)) = some (intA (a * (1 + rest % 5))) := mul_nat _ _ (by (first | lia | omega)) (by (first | lia | omega))
      have a2 := add_nat (rest / 7) (a * (1 + rest % 5))
      have m6 : binA .Mod (intA (rest / 7 + a * (1 + rest % 5))) (.int 6) = some (intA ((rest / 7 + a * (1 + rest % 5)) % 6)) := mod_nat _ 6 (by (first | lia | omega))
      have hlt : (rest / 7 + a * (1 + rest % 5)) % 6 < 6 := Nat.mod_lt _ (by (first | lia | omega))
      have ix : idxA (.str "a \tb\x00\t") (intA ((rest / 7 + a * (1 + rest % 5)) % 6)) = some (signA (sgn rest a)) := by
        rw [l_signs]
        refine (idx_str _ _ (by simpa using hlt) (by simp)).trans ?_
        unfold sgn signA
        rw [List.getD_eq_getElem?_getD, List.getElem?_eq_getElem (by simpa using hlt)]; rfl
      unfold fFill_f2; ac_rfl
    have nx : rangeL (a : Int) 1 (k + 1) = intA a :: rangeL ((a + 1 : Nat) : Int) 1 k := rfl
    rw [nx]
    refine bindS (show fFill_T1 (intA a) ρ = _ from rfl) (bindS rfl (iteT (bindS ef ?_)))
    rw [comp_line rest k (a + 1) _ (by (first | lia | omega)) (by ac_rfl)]; rfl
theorem range_nat (k : Nat) (h : k ≤ 1000000) : rangeA [.int k] = some (rangeL (0 : Nat) 1 k) := by
  rw [rangeA_1]
  show (if -1000000000 < (k : Int) ∧ (k : Int) < 1000000000 then some (rangeL 0 1 (k : Int).toNat) else none) = _
  rw [if_pos ⟨by (first | lia | omega), by (first | lia | omega)⟩, Int.toNat_natCast]; rfl
theorem rangeL_len (c : Int) : ∀ (n : Nat) (a : Int), (rangeL a c n).length = n
  | 0, _ => rfl
  | n + 1, a => by rw [rangeL, List.length_cons, rangeL_len c n]
structure FInv (stop : AV) (a0 a1 : Addr) (ρ : Slots) (b0 b1 : List AV) (k : Nat) : Prop where
  stop : getV ρ "stop" = some stop
  wells : getV ρ "wells" = some (.lst [.raw (.ref a0), .raw (.ref a1)])
  h0 : ρ (Str.ofString "#0") = some (.own ⟨some a0, b0⟩)
  h1 : ρ (Str.ofString "#1") = some (.own ⟨some a1, b1⟩)
  nf : ρ (Str.ofString "fault") = none
  t0 : ∀ a ∈ b0, Thing a
  t1 : ∀ a ∈ b1, Thing a
  z0 : b0.length ≤ k
  z1 : b1.length ≤ k
theorem FInv.set {stop v : AV} {a0 a1 : Addr} {ρ : Slots} {b0 b1 : List AV} {k : Nat} {y : String} (h : FInv stop a0 a1 ρ b0 b1 k) (e : ("stop" == y) = false ∧ ("wells" == y) = false ∧ ("#0" == y) = false ∧ ("#1" == y) = false ∧ ("fault" == y) = false) : FInv stop a0 a1 (ρ.set (Str.ofString y) (.val v)) b0 b1 k :=
  ⟨getV_skip e.1 h.stop, getV_skip e.2.1 h.wells, set_skip e.2.2.1 h.h0, set_skip e.2.2.2.1 h.h1, nf_set e.2.2.2.2 h.nf, h.t0, h.t1, h.z0, h.z1⟩
section
variable {stop : AV} {a0 a1 : Addr} {ρ : Slots} {b0 b1 : List AV} {k : Nat}
theorem fill_put (h : FInv stop a0 a1 ρ b0 b1 k) (hk : k ≤ 1000) (x : Nat) {t : AV} (ht : Thing t) (g1 : getV ρ "x" = some (intA x)) (g2 : getV ρ "thing" = some t) : ∃ ρ' c0 c1, fFill_k3 ρ = some (.next, ρ') ∧ FInv stop a0 a1 ρ' c0 c1 (k + 1) := by
  have m2 : binA .Mod (intA x) (.int 2) = some (intA (x % 2)) := mod_nat x 2 (by (first | lia | omega))
  have ew : wellsOf (.lst [.raw (.ref a0), .raw (.ref a1)]) = some (a0, a1) := rfl
  obtain ⟨h1, h2, h3, h4, h5, t0, t1, z0, z1⟩ := h
  have go : ∀ r, wellPut (a0, a1) ((x % 2 : Nat) : Int) ρ t = some r → fFill_k3 ρ = (some r >>= thenA fun ρ => some (.next, ρ)) := fun r hr => by
    unfold fFill_k3
    rw [← hr]
    refine congrArg (fun q => q >>= thenA fun ρ => some (.next, ρ)) ?_
    exact bindS (bindS h2 ew) (bindS (bindS g1 (bindS rfl m2)) (bindS rfl (bindS g2 rfl)))
  have o0 := getO_own h3
  have o1 := getO_own h4
  rcases Nat.mod_two_eq_zero_or_one x with e | e
  · refine ⟨ρ.set (Str.ofString "#0") (.own ⟨some a0, b0 ++ [t]⟩), b0 ++ [t], b1, ?_, ⟨getV_skip rfl h1, getV_skip rfl h2, set_hit _ _ _, set_skip rfl h4, nf_set rfl h5, ?_, t1, by simp; (first | lia | omega), by (first | lia | omega)⟩⟩
    · rw [go (.next, ρ.set (Str.ofString "#0") (.own ⟨some a0, b0 ++ [t]⟩))]
      · rfl
      · rw [e]
        unfold wellPut
        refine ifP rfl ?_
        unfold putAt
        exact bindS o0 (ifP ⟨rfl, by simp; (first | lia | omega)⟩ rfl)
    · intro a ha
      rcases List.mem_append.mp ha with ha | ha
      · exact t0 a ha
      · rw [List.mem_singleton.mp ha]; exact ht
  · refine ⟨ρ.set (Str.ofString "#1") (.own ⟨some a1, b1 ++ [t]⟩), b0, b1 ++ [t], ?_, ⟨getV_skip rfl h1, getV_skip rfl h2, set_skip rfl h3, set_hit _ _ _, nf_set rfl h5, t0, ?_, by (first | lia | omega), by simp; (first | lia | omega)⟩⟩
    · rw [go (.next, ρ.set (Str.ofString "#1") (.own ⟨some a1, b1 ++ [t]⟩))]
      · rfl
      · rw [e]
        unfold wellPut
        rw [if_neg (by decide)]
        refine ifP rfl ?_
        unfold putAt
        exact bindS o1 (ifP ⟨rfl, by simp; (first | lia | omega)⟩ rfl)
    · intro a ha
      rcases List.mem_append.mp ha with ha | ha
      · exact t1 a ha
      · rw [List.mem_singleton.mp ha]; exact ht
theorem pickT (r : Nat) (h : r < 4) (m : Int) (l : List Nat) : ∃ t, idxA (.lst [.none, .int m, .bytes (List.toArray [97, 32, 98]), .lst [.str (tx l)]]) (intA r) = some t ∧ Thing t := by
  have : r = 0 ∨ r = 1 ∨ r = 2 ∨ r = 3 := by (first | lia | omega)
  rcases this with rfl | rfl | rfl | rfl
  · exact ⟨_, rfl, .none⟩
  · exact ⟨_, rfl, .int _⟩
  · exact ⟨_, rfl, .bytes _⟩
  · exact ⟨_, rfl, .lst _⟩
theorem fill_turn (h : FInv stop a0 a1 ρ b0 b1 k) (hk : k ≤ 1000) (x : Nat) : ∃ ρ' c0 c1, (fFill_T7 (intA x) ρ >>= fFill_B8) = some (.next, ρ') ∧ FInv stop a0 a1 ρ' c0 c1 (k + 1) := by
  have d10 : binA .FloorDiv (intA x) (.int 10) = some (intA (x / 10)) := fdv_nat x 10 (by (first | lia | omega)) (by (first | lia | omega))
  generalize hrest : x / 10 = rest at d10
  have m7 : binA .Mod (intA rest) (.int 7) = some (intA (rest % 7)) := mod_nat rest 7 (by (first | lia | omega))
  have rg : rangeA [intA (rest % 7)] = some (rangeL (0 : Nat) 1 (rest % 7)) := range_nat _ (by (first | lia | omega))
  have rl : (rangeL ((0 : Nat) : Int) 1 (rest % 7)).length ≤ 1000000 := by rw [rangeL_len]; (first | lia | omega)
  generalize hl : (List.range' 0 (rest % 7)).map (sgn rest) = l
  have hlen : l.length = rest % 7 := by rw [← hl]; simp
  have hn10 : 10 ∉ l := fun m => by
    rw [← hl] at m
    obtain ⟨j, _, e⟩ := List.mem_map.mp m
    exact (sgn_mem rest j).1 e
  have hn13 : 13 ∉ l := fun m => by
    rw [← hl] at m
    obtain ⟨j, _, e⟩ := List.mem_map.mp m
    exact (sgn_mem rest j).2 e
  have jn : joinF [.str "", .lst (l.map signA)] = some (.str (tx l)) := join_tx l (by (first | lia | omega))
  have sa : strArg (.str "") = some (Str.ofString "") := rfl
  have d2 : binA .FloorDiv (intA x) (.int 2) = some (intA (x / 2)) := fdv_nat x 2 (by (first | lia | omega)) (by (first | lia | omega))
  have m3 : binA .Mod (intA (x / 2)) (.int 3) = some (intA (x / 2 % 3)) := mod_nat _ 3 (by (first | lia | omega))
  have mn : binA .Mult (.str "\n") (intA (x / 2 % 3)) = some (.str (tx (List.replicate (x / 2 % 3) 10))) := mul_nl _ (by (first | lia | omega))
  have ad : binA .Add (.str (tx l)) (.str (tx (List.replicate (x / 2 % 3) 10))) = some (.str (tx (l ++ List.replicate (x / 2 % 3) 10))) := bin_str _ _ (by rw [List.length_replicate]; (first | lia | omega))
  have m5 : binA .Mod (intA (x / 2)) (.int 5) = some (intA (x / 2 % 5)) := mod_nat _ 5 (by (first | lia | omega))
  have c4 : cmpA .Lt (intA (x / 2 % 5)) (.int 4) = some (decide (((x / 2 % 5 : Nat) : Int) < 4)) := lt_int' _ _
  have r4 : binA .Mod (intA rest) (.int 4) = some (intA (rest % 4)) := mod_nat _ 4 (by (first | lia | omega))
  have c0 : cmpA .Eq (intA (rest % 4)) (.int 0) = some (((rest % 4 : Nat) : Int) == 0) := eq_int' _ _
  have r3 : binA .Mod (intA rest) (.int 3) = some (intA (rest % 3)) := mod_nat _ 3 (by (first | lia | omega))
  have hx0 : FInv stop a0 a1 (ρ.set "x" (.val (intA x))) b0 b1 k := h.set ⟨rfl, rfl, rfl, rfl, rfl⟩
  generalize hρ₁ : (ρ.set "x" (.val (intA x))).set "rest" (.val (intA rest)) = ρ₁
  have i₁ : FInv stop a0 a1 ρ₁ b0 b1 k := by subst hρ₁; exact hx0.set ⟨rfl, rfl, rfl, rfl, rfl⟩
  have x1 : getV ρ₁ "x" = some (intA x) := by subst hρ₁; ac_rfl
  have y1 : getV ρ₁ "rest" = some (intA rest) := by subst hρ₁; ac_rfl
  have cl := comp_line rest (rest % 7) 0 (only ["rest"] ρ₁) (by (first | lia | omega)) (by rw [only_hit (by decide)]; exact y1)
  rw [hl] at cl
  generalize hρ₂ : ρ₁.set "line" (.val (.str (tx l))) = ρ₂
  have i₂ : FInv stop a0 a1 ρ₂ b0 b1 k := by subst hρ₂; exact i₁.set ⟨rfl, rfl, rfl, rfl, rfl⟩
  have x2 : getV ρ₂ "x" = some (intA x) := by subst hρ₂; ac_rfl
  have y2 : getV ρ₂ "rest" = some (intA rest) := by subst hρ₂; ac_rfl
  have l2 : getV ρ₂ "line" = some (.str (tx l)) := by subst hρ₂; ac_rfl
  generalize hρ₃ : ρ₂.set "thing" (.val (.str (tx (l ++ List.replicate (x / 2 % 3) 10)))) = ρ₃
  have i₃ : FInv stop a0 a1 ρ₃ b0 b1 k := by subst hρ₃; exact i₂.set ⟨rfl, rfl, rfl, rfl, rfl⟩
  have x3 : getV ρ₃ "x" = some (intA x) := by subst hρ₃; ac_rfl
  have y3 : getV ρ₃ "rest" = some (intA rest) := by subst hρ₃; ac_rfl
  have l3 : getV ρ₃ "line" = some (.str (tx l)) := by subst hρ₃; ac_rfl
  have t3 : getV ρ₃ "thing" = some (.str (tx (l ++ List.replicate (x / 2 % 3) 10))) := by subst hρ₃; ac_rfl
  have tS : Thing (.str (tx (l ++ List.replicate (x / 2 % 3) 10))) := .str l _ hn10 hn13 (by (first | lia | omega)) (by (first | lia | omega))
  have start : ∀ q, fFill_k4 ρ₃ = some (.next, q) → (fFill_T7 (intA x) ρ >>= fFill_B8) = some (.next, q) := fun q hq => by
    have k5 : fFill_k5 ρ₂ = some (.next, q) := by
      rw [← hρ₃] at hq
      unfold fFill_k5; ac_rfl
    have k6 : fFill_k6 ρ₁ = some (.next, q) := by
      rw [← hρ₂] at k5
      unfold fFill_k6
      refine bindS (a := (.next, ρ₁.set "line" (.val (.str (tx l))))) (bindS (bindS rfl (bindS sa (bindS (a := [.lst (l.map signA)]) (bindS (mapS (bindS (bindS (bindS (bindS y1 (bindS rfl m7)) (bindS rfl rfl)) rg) (ifP rl cl)) rfl) (bindS rfl rfl)) jn))) rfl) (thenS k5)
    refine bindS (show fFill_T7 (intA x) ρ = some (ρ.set "x" (.val (intA x))) from rfl) ?_
    rw [← hρ₁] at k6
    unfold fFill_B8; ac_rfl
  have q5 : (((((getV ρ₃ "x") >>= fun a => (some (.int 2)) >>= fun b => binA .FloorDiv a b)) >>= fun a => (some (.int 5)) >>= fun b => binA .Mod a b)) = some (intA (x / 2 % 5)) := bindS (bindS x3 (bindS rfl d2)) (bindS rfl m5)
  have plain : (((((((((getV ρ₃ "x") >>= fun a => (some (.int 2)) >>= fun b => binA .FloorDiv a b)) >>= fun a => (some (.int 5)) >>= fun b => binA .Mod a b)) >>= fun a => (some (.int 4)) >>= fun b => cmpA .Lt a b)) >>= fun b => if b = true then (((((((getV ρ₃ "rest") >>= fun a => (some (.int 4)) >>= fun b => binA .Mod a b)) >>= fun a => (some (.int 0)) >>= fun b => cmpA .Eq a b)) >>= fun b => if b = true then (some true) else some false)) else some false)) = some (decide (((x / 2 % 5 : Nat) : Int) < 4) && (((rest % 4 : Nat) : Int) == 0)) := by
    have e0 : ((((getV ρ₃ "rest") >>= fun a => (some (.int 4)) >>= fun b => binA .Mod a b)) >>= fun a => (some (.int 0)) >>= fun b => cmpA .Eq a b) = some (((rest % 4 : Nat) : Int) == 0) := bindS (bindS y3 (bindS rfl r4)) (bindS rfl c0)
    refine bindS (bindS q5 (bindS rfl c4)) ?_
    cases decide (((x / 2 % 5 : Nat) : Int) < 4) with
    | false => rfl
    | true =>
      refine iteT (bindS e0 ?_)
      cases (((rest % 4 : Nat) : Int) == 0) <;> rfl
  generalize hcond : (decide (((x / 2 % 5 : Nat) : Int) < 4) && (((rest % 4 : Nat) : Int) == 0)) = cond at plain
  cases cond with
  | false =>
    obtain ⟨ρ', c0, c1, e, i'⟩ := fill_put i₃ hk x tS x3 t3
    refine ⟨ρ', c0, c1, start _ ?_, i'⟩
    unfold fFill_k4
    exact bindS (bindS plain (iteF rfl)) (thenS e)
  | true =>
    have hlt : x / 2 % 5 < 4 := by
      simp only [Bool.and_eq_true, decide_eq_true_eq] at hcond
      (first | lia | omega)
    obtain ⟨t, it, tt⟩ := pickT (x / 2 % 5) hlt (rest % 3 : Nat) l
    have i₄ : FInv stop a0 a1 (ρ₃.set "thing" (.val t)) b0 b1 k := i₃.set ⟨rfl, rfl, rfl, rfl, rfl⟩
    obtain ⟨ρ', c0, c1, e, i'⟩ := fill_put i₄ hk x tt (by ac_rfl) (getV_hit _ _ _)
    refine ⟨ρ', c0, c1, start _ ?_, i'⟩
    unfold fFill_k4
    have eL : ((some AV.none) >>= fun a => ((((getV ρ₃ "rest") >>= fun a => (some (.int 3)) >>= fun b => binA .Mod a b)) >>= fun a => ((some (.bytes (List.toArray [97, 32, 98]))) >>= fun a => (((((getV ρ₃ "line") >>= fun a => (some []) >>= fun l => some (a :: l)) >>= fun l => if l.length ≤ 1000000 then some (.lst l) else none)) >>= fun a => (some []) >>= fun l => some (a :: l)) >>= fun l => some (a :: l)) >>= fun l => some (a :: l)) >>= fun l => some (a :: l)) = some [.none, intA (rest % 3), .bytes (List.toArray [97, 32, 98]), .lst [.str (tx l)]] :=
      bindS rfl (bindS (bindS (bindS y3 (bindS rfl r3)) (bindS (bindS rfl (bindS (bindS (bindS (bindS l3 (bindS rfl rfl)) (ifP (Nat.le_of_ble_eq_true rfl) rfl)) (bindS rfl rfl)) rfl)) rfl)) rfl)
    exact bindS (bindS plain (iteT (bindS (bindS (bindS (bindS eL (ifP (Nat.le_of_ble_eq_true rfl) rfl)) (bindS q5 it)) rfl) rfl))) (thenS e)
theorem fill_loop : ∀ (xs : List Nat) (ρ : Slots) (b0 b1 : List AV) (k : Nat), FInv stop a0 a1 ρ b0 b1 k → k + xs.length ≤ 1000 → ∃ ρ' c0 c1, Runs fFill_T7 fFill_B8 (xs.map intA) ρ ρ' ∧ FInv stop a0 a1 ρ' c0 c1 (k + xs.length)
  | [], ρ, b0, b1, k, h, _ => ⟨ρ, b0, b1, .nil, h⟩
  | x :: xs, ρ, b0, b1, k, h, hz => by
    simp only [List.length_cons] at hz
    obtain ⟨ρ₁, c0, c1, e₁, h₁⟩ := fill_turn h (by (first | lia | omega)) x
    obtain ⟨ρ₂, d0, d1, e₂, h₂⟩ := fill_loop xs ρ₁ c0 c1 (k + 1) h₁ (by (first | lia | omega))
    exact ⟨ρ₂, d0, d1, .cons e₁ e₂, by rw [List.length_cons, show k + (xs.length + 1) = k + 1 + xs.length by (first | lia | omega)]; exact h₂⟩
theorem fill_eq {N : List Nat} (hN : 1 ≤ N.length) (hN' : N.length ≤ 63) (g1 : getV ρ "stop" = some stop) (g2 : getO ρ "numbers" = some ⟨none, N.map intA⟩) (g3 : ρ (Str.ofString "fault") = none) :
    ∃ ρ' b0 b1, fFill (wells0 ρ a0 a1) = some (.next, ρ') ∧ FInv stop a0 a1 ρ' b0 b1 100 := by
  have gn : getO (wells0 ρ a0 a1) "numbers" = some ⟨none, N.map intA⟩ := by unfold wells0; ac_rfl
  obtain ⟨n0, N', rfl⟩ : ∃ a l, N = a :: l := by cases N with
    | nil => simp at hN
    | cons a l => exact ⟨a, l, rfl⟩
  simp only [List.length_cons] at hN'
  generalize hρ₁ : (wells0 ρ a0 a1).set "numbers" (.val (.lst ((n0 :: N').map intA))) = ρ₁
  have i0 : FInv stop a0 a1 ρ₁ [] [] 0 := by
    subst hρ₁
    unfold wells0
    exact ⟨by ac_rfl, by ac_rfl, set_skip rfl (set_skip rfl (set_hit _ _ _)), set_skip rfl (set_hit _ _ _), nf_set rfl (nf_set rfl (nf_set rfl (nf_set rfl g3))), fun _ h => (by cases h), fun _ h => (by cases h), Nat.zero_le _, Nat.zero_le _⟩
  have c1 : getV ρ₁ "numbers" = some (.lst ((n0 :: N').map intA)) := by subst hρ₁; ac_rfl
  obtain ⟨ρ', b0, b1, e, i'⟩ := fill_loop N' ρ₁ [] [] 0 i0 (by (first | lia | omega))
  have e' := e.forA
  have cu : cutA (.lst ((n0 :: N').map intA)) (some 1) none = some (.lst (N'.map intA)) := by
    rw [cut_lst _ _ _ (by simp; (first | lia | omega))]
    have := cutL_drop ((n0 :: N').map intA) 1
    exact congrArg (fun l => some (AV.lst l)) this
  refine ⟨ρ', b0, b1, ?_, ⟨i'.stop, i'.wells, i'.h0, i'.h1, i'.nf, i'.t0, i'.t1, by have := i'.z0; (first | lia | omega), by have := i'.z1; (first | lia | omega)⟩⟩
  unfold fFill
  rw [freeze_own' gn]
  show fFill_z9 ((wells0 ρ a0 a1).set "numbers" (.val (.lst ((n0 :: N').map intA)))) = _
  rw [hρ₁]
  unfold fFill_z9
  exact bindS (bindS (bindS (bindS c1 (bindS rfl (bindS rfl cu))) (iter_lst _)) e') rfl
end
end Mine
end
section
set_option linter.unusedVariables false
set_option linter.unusedSimpArgs false
set_option maxHeartbeats 1000000
namespace Mine
theorem bindA1 (n : Str) (a : AV) : bindA [n] [a] = one1 n a := by
  funext x; unfold bindA one1; simp [List.lookup_cons]
  by_cases e : x = n
  · subst e; simp
  · have : (x == n) = false := by simpa using e
    rw [this, if_neg e]; rfl
theorem exp_good {me : AV} {n : Int} (hm : attrA 111 "_tabsize" me = some (.int n)) (h1 : -1000000 < n) (h2 : n < 1000000) (l : List Nat) (hl : l.length ≤ 1000000) (hz : (expT n 0 l).length ≤ 1000000) : ∃ ρ', fExp ((bindA ["line"] [.str (tx l)]).set frz (.val me)) = some (.ret (.str (tx (rst (expT n 0 l)))), ρ') := by
  rw [bindA1]
  generalize hρ : (one1 "line" (.str (tx l))).set frz (.val me) = ρ
  have g1 : getV ρ "line" = some (.str (tx l)) := by subst hρ; exact getV_skip (x := "line") (y := "self") rfl (by rw [getV_one, if_pos rfl])
  have g2 : getV ρ "self" = some me := by subst hρ; exact getV_hit _ _ _
  have hz' : (expS n 0 (l.map (swp 32 0))).length ≤ 1000000 := by rw [expT_len]; exact hz
  have r1 := replA_swp " " "\x00" 32 0 l_blank l_zero l hl
  have r2 := expandF_eq n (l.map (swp 32 0)) h1 h2 hz'
  have r3 := replA_swp " " "\t" 32 9 l_blank l_tab (expS n 0 (l.map (swp 32 0))) hz'
  have r4 := replA_swp "\x00" " " 0 32 l_zero l_blank ((expS n 0 (l.map (swp 32 0))).map (swp 32 9)) (by rw [List.length_map]; exact hz')
  rw [exp_pipe] at r4
  have r5 := rstripF_eq "\n" l_nl (expT n 0 l) hz
  have s1 : ∀ x, strArg (.str x) = some x := fun _ => rfl
  have k1 : ∀ ρ : Slots, getV ρ "line" = some (.str (tx ((expS n 0 (l.map (swp 32 0))).map (swp 32 9)))) → fExp_k1 ρ = some (.ret (.str (tx (rst (expT n 0 l)))), ρ) := fun ρ g => by
    unfold fExp_k1
    have := s1 (tx (expT n 0 l))
    ac_rfl
  have k2 : ∀ ρ : Slots, getV ρ "line" = some (.str (tx (expS n 0 (l.map (swp 32 0))))) → ∃ ρ', fExp_k2 ρ = some (.ret (.str (tx (rst (expT n 0 l)))), ρ') := fun ρ g => by
    have := k1 (ρ.set "line" (.val (.str (tx ((expS n 0 (l.map (swp 32 0))).map (swp 32 9)))))) (by ac_rfl)
    exact ⟨_, by unfold fExp_k2; ac_rfl⟩
  have k3 : ∀ ρ : Slots, getV ρ "line" = some (.str (tx (l.map (swp 32 0)))) → getV ρ "self" = some me → ∃ ρ', fExp_k3 ρ = some (.ret (.str (tx (rst (expT n 0 l)))), ρ') := fun ρ g gs => by
    obtain ⟨ρ', e⟩ := k2 (ρ.set "line" (.val (.str (tx (expS n 0 (l.map (swp 32 0))))))) (by ac_rfl)
    have := s1 (tx (l.map (swp 32 0)))
    exact ⟨ρ', by unfold fExp_k3; ac_rfl⟩
  obtain ⟨ρ', e⟩ := k3 (ρ.set "line" (.val (.str (tx (l.map (swp 32 0)))))) (by ac_rfl) (by ac_rfl)
  exact ⟨ρ', by unfold fExp; ac_rfl⟩
theorem len_msgs : msgInt.length ≤ 1000 ∧ msgByt.length ≤ 1000 ∧ (noRepl "'NoneType' object has no attribute '").length ≤ 1000 ∧ (noRepl "'int' object has no attribute '").length ≤ 1000 ∧ (noRepl "'list' object has no attribute '").length ≤ 1000 := ⟨by decide +kernel, by decide +kernel, by decide +kernel, by decide +kernel, by decide +kernel⟩
theorem bad_cls {four : Bool} {a : AV} {w : String × Str} (h : bad7 four a = some w) : (w.1 = "AttributeError" ∨ w.1 = "TypeError") ∧ w.2.length ≤ 1000 := by
  obtain ⟨l1, l2, l3, l4, l5⟩ := len_msgs
  cases a with
  | str t =>
    unfold bad7 at h
    obtain ⟨_, h⟩ := iteO h
    cases h
    exact ⟨.inr rfl, l1⟩
  | bytes b => cases h; exact ⟨.inr rfl, l2⟩
  | none => cases h; exact ⟨.inl rfl, l3⟩
  | int n => cases h; exact ⟨.inl rfl, l4⟩
  | lst l => cases h; exact ⟨.inl rfl, l5⟩
  | _ => cases h
section
variable {w : World} {mg mb : Str → Option Value} {os : OsState} {d : Nat}
theorem bad_raises {four : Bool} {me stop a : AV} (hm : attrA 111 "_tabsize" me = some stop) (hs : StopIs four stop) (ha : Thing a) {e : String × Str} (hb : bad7 four a = some e) {h₁ : Heap} {Z₁ : AddrSet} {env : Env} {A : Around} {Z : AddrSet} {s : Shared} (R : Room A d) (hE : EnvOk env scExp) (I : Inv (W07 w h₁ mg mb os (fun _ => False) Z₁) Z s) (L : Loc (W07 w h₁ mg mb os (fun _ => False) Z₁) Z s.heap env ((bindA ["line"] [a]).set frz (.val me)) (fun _ => 0)) :
    RaisesX (W07 w h₁ mg mb os (fun _ => False) Z₁) A env Z s ((bindA ["line"] [a]).set frz (.val me)) (fun _ => 0) (execs bdExp env) e.1 e.2 := by
  have g1 : getV ((bindA ["line"] [a]).set frz (.val me)) "line" = some a := by rw [bindA1]; exact getV_skip (x := "line") (y := "self") rfl (by rw [getV_one, if_pos rfl])
  have g2 : getV ((bindA ["line"] [a]).set frz (.val me)) "self" = some me := getV_hit _ _ _
  rw [exp_split]
  have miss : ∀ m, missA a = some m → RaisesX (W07 w h₁ mg mb os (fun _ => False) Z₁) A env Z s ((bindA ["line"] [a]).set frz (.val me)) (fun _ => 0) (execs (st7 0 :: st7 1 :: bdExp.drop 2) env) "AttributeError" m := fun m hmm => by
    rw [exp0_eq]
    exact raises_first (raises_miss R.handled hE I L g1 hmm (by decide) (by decide) (fun _ => rfl) (fun _ _ => _) (fun _ => rfl))
  cases ha with
  | none => cases hb; exact miss _ rfl
  | int n => cases hb; exact miss _ rfl
  | lst l => cases hb; exact miss _ rfl
  | bytes b =>
    cases hb
    rw [exp0_eq]
    exact raises_first (raises_bytes R.handled hE I L g1 (by decide) (by decide) (fun _ => rfl) (fun _ => rfl) (by kernel_rfl))
  | str l k h10 h13 hl hk =>
    unfold bad7 at hb
    obtain ⟨hf, hb⟩ := iteO hb
    cases hb
    subst hf
    have hst : stop = .str "4" := by
      rcases hs with ⟨h, _⟩ | ⟨n, _, h⟩
      · exact h
      · cases h
    subst hst
    have r1 := replA_swp " " "\x00" 32 0 l_blank l_zero (l ++ List.replicate k 10) (by simp; (first | lia | omega))
    have hden : DenS (W07 w h₁ mg mb os (fun _ => False) Z₁) d scExp (st7 0) fun ρ => ((getV ρ "line" >>= replA " " "\x00") >>= fun a => some (.next, Slots.set ρ "line" (.val a))) :=
      den_assign (den_replace (den_name "line" _ (by kernel_rfl) (by kernel_rfl)) (by kernel_rfl) (fun _ => rfl) rfl) (.inl (by kernel_rfl)) (fun _ => rfl)
    refine raises_next hden R hE I L (bindS (bindS g1 r1) rfl) fun s₁ Z₂ α₁ p => ?_
    rw [exp1_eq]
    exact raises_first (raises_expand R hE p.step.inv p.loc (getV_hit _ _ _) (den_attr at_tab at_dict at_find (by kernel_rfl) (by kernel_rfl)) (bindS (getV_skip (x := "self") (y := "line") rfl g2) hm) (by decide) (by decide) (fun _ => rfl) (fun _ => rfl) (fun _ => rfl) (by kernel_rfl))
theorem things {four : Bool} {me stop a : AV} {n : Int} {h₀ : Heap} {X Z₀ : AddrSet} (hm : attrA 111 "_tabsize" me = some stop) (ok : StopOk four stop n) (ha : Thing a) : Things (W07 w h₀ mg mb os X Z₀) d scExp bdExp fExp me (bad7 four) (H7 n) a where
  hgood hb := by
    cases ha with
    | none => cases hb
    | int n => cases hb
    | lst l => cases hb
    | bytes b => cases hb
    | str l k h10 h13 hl hk =>
      have hst : stop = .int n := by
        rcases ok.is with ⟨_, h⟩ | ⟨h, _⟩
        · subst h; cases hb
        · exact h
      subst hst
      rw [H7_tx]
      have lo := ok.lo
      have hi := ok.hi
      have hz := exp_bound (n := n) (m := 100) (by (first | lia | omega)) (by (first | lia | omega)) (l ++ List.replicate k 10) 0
      have hlen : (l ++ List.replicate k 10).length ≤ 8 := by simp; (first | lia | omega)
      exact exp_good hm (by (first | lia | omega)) (by (first | lia | omega)) _ (by (first | lia | omega)) (by (first | lia | omega))
  hbad w hw h₁ Z₁ env A Z s R hE I L := bad_raises hm ok.stopIs ha hw R hE I L
  hcls w hw := bad_cls hw
end
theorem good_GL {four : Bool} {stop : AV} {n : Int} (ok : StopOk four stop n) : ∀ a, Thing a → bad7 four a = none → GL1 [a, stop] = some (H7 n a) := fun a ha hb => by
  cases ha with
  | none => cases hb
  | int n => cases hb
  | lst l => cases hb
  | bytes b => cases hb
  | str l k h10 h13 hl hk =>
    have hst : stop = .int n := by
      rcases ok.is with ⟨_, h⟩ | ⟨h, _⟩
      · subst h; cases hb
      · exact h
    subst hst
    have hi := ok.hi
    exact GL1_eq (by (first | lia | omega)) h10 h13 (by (first | lia | omega)) k (by (first | lia | omega))
theorem thing_H {four : Bool} {n : Int} {a : AV} (ha : Thing a) (hb : bad7 four a = none) : ∃ t, H7 n a = .str t := by
  cases ha with
  | none => cases hb
  | int n => cases hb
  | lst l => cases hb
  | bytes b => cases hb
  | str l k h10 h13 hl hk => exact ⟨_, H7_tx n _⟩
theorem ctor_ok {four : Bool} {stop : AV} {n : Int} (ok : StopOk four stop n) : ∃ fs, GC [stop] = some (.inst 111 fs) ∧ attrA 111 "_tabsize" (.inst 111 fs) = some stop ∧ fs.lookup ("_tab_newline_replace" : Str) = none := by
  rcases ok.is with ⟨rfl, _⟩ | ⟨rfl, _⟩
  · exact GC_str _
  · exact GC_int _
end Mine
end
section
set_option linter.unusedVariables false
set_option maxRecDepth 100000
namespace Mine
section
variable {W : Wd} {Z Z' Z₁ : AddrSet} {s s' s₁ : Shared} {env : Env} {sc : Scope} {ρ ρ' : Slots} {α α' : Str → Addr} {A : Around} {d : Nat} {P : Addr} {ps : Array Value}
theorem law_startF {fa : Addr} {o : Obj} {fd : FuncData} {body : List Stmt} {a : Addr} {vals : List Value} {ns : List Int} {R : Result → Shared → Prop} (ok : W.Ok) (hh : W.h₀ = s₁.heap) (hos : W.os = s₁.os) (hX : ∀ a, W.X a ↔ a = P) (hZ : ∀ a, ¬ W.Z₀ a) (hP : s₁.heap.get? P = some (tabObj #[])) (hg : s₁.gens = #[])
    (hroom : A.depth < recursionLimit) (ho : s₁.heap.get? fa = some o) (hd : o.data = .func fd) (hlim : s₁.heap.NoLimit) (hcd : s₁.heap.CodeRec fd.code fd.qualname) (hbody : fd.body = .stmts body) (hbind : bindArgs fd ⟨[Value.ref a], []⟩ = pure [(("script" : Str), Value.ref a)]) (hclo : fd.closure = [])
    (hsc : fd.scope.names.lookup ("script" : Str) = some .local) (hnf : ∀ x, fd.scope.names.lookup x ≠ some .free) (hgl : fd.globals = mainGlobals) (hbl : fd.builtins = builtinsNs) (hk : fd.scope.kind = .function) (hco : fd.scope.isCoroutine = false) (hgen : fd.scope.isGenerator = false)
    (hl : IsLst s₁.heap a vals.toArray) (hi : IntsAre vals ns)
    (h : ∀ env Z s α, EnvOk env fd.scope → env.frame = some env.locals → Stage P s₁ #[] W env Z s (script0 ns) α → wpAny W.M (A.deeper env) (execs body env) (fun f s' => R (.ok (.ret (match f with | .ret v => v | _ => .none))) s') (fun _ _ => False) s) :
    codeAny W.M A (.call (.ref fa) ⟨[.ref a], []⟩) R s₁ := by
  refine codeAny_call_function hroom ho hd hco hgen hbody hcd ?_
  rw [hbind, hclo]
  refine wpAny_pure (newEnv1 hk hsc fun env he s' htk x => ?_)
  subst he
  refine ⟨hlim.keeps x.toInCall.keep, codeAny_func ?_⟩
  obtain ⟨oa, ha, hr⟩ := hl
  have haP : a ≠ P := fun e => by rw [e, hP] at ha; cases ha; cases hr.1
  have I : Inv W (· = a) { s₁ with toks := s₁.toks + 1 } := ⟨ok, fun b o e _ => hh ▸ e, fun b x => ⟨tabObj #[], by rw [(hX b).mp x]; exact hP⟩, fun b z => ⟨oa, by rw [show b = a from z]; exact ha⟩, hos.symm, .of_eq hg, fun b z x => haP ((show b = a from z).symm.trans ((hX b).mp x)), fun b h => (hZ b h).elim, Nat.le_add_left _ _⟩
  have x' : InCallC { s₁ with toks := s₁.toks + 1 } (callEnvC fd s₁.heap.objs.size fa).locals (bindL (callEnvC fd s₁.heap.objs.size fa).kindOf [("script", .ref a)] fun _ => none) (callEnvC fd s₁.heap.objs.size fa).cells (bindC (callEnvC fd s₁.heap.objs.size fa).kindOf [("script", .ref a)] fun _ => none) s' :=
    ⟨⟨let ⟨h, tk, e⟩ := x.toInCall.same; ⟨h, tk, e⟩, x.toInCall.ns, x.toInCall.keep, x.toInCall.fresh⟩, x.cell, x.apart, x.above⟩
  obtain ⟨p₁, L₁, fo₁⟩ := enter_loc (s := { s₁ with toks := s₁.toks + 1 }) (ρ := script0 ns) (α := fun _ => 0) I (fun y hy => by cases List.mem_singleton.mp hy; exact .inl hsc) (fun y sv hy => by
    unfold script0 at hy
    split at hy
    · rename_i e; cases hy; subst e
      exact ⟨.ref a, _, by simp, rfl, .lst rfl ⟨oa, ha, hr⟩ (reps_ints hi)⟩
    · cases hy) htk x'
  exact wpAny_mono (h _ _ _ _ (enter_env hgl hbl hnf hk) rfl ⟨p₁.inv, L₁, fun b o _ e => p₁.keep b o id e, fo₁, p₁.inv.os.trans hos, p₁.keep P _ id hP, hP⟩) (fun _ _ x => x) fun _ _ x => x.elim
end
end Mine
end
section
set_option linter.unusedVariables false
set_option maxRecDepth 100000
set_option maxHeartbeats 8000000
namespace Mine
theorem three_sw1 (env : Env) (he : env.scope = scLaw) : swapsWithSole [three7.tgt] three7.val three7.pos.line env = pure false := by cases env; cases he; rfl
theorem three_sw2 (env : Env) (he : env.scope = scLaw) : swappedStores [three7.tgt] three7.val env = pure (some (["sheet", "first", "second"] : List Str)) := by cases env; cases he; kernel_rfl
theorem three_slots (ρ : Slots) (it0 it1 : Addr) (me : AV) : threeS ρ it0 it1 me = ((ρ.set "second" (.val (.raw (.ref it1)))).set "first" (.val (.raw (.ref it0)))).set "sheet" (.val me) := rfl
theorem no_free (sc : Scope) (h : (sc.names.all fun x => x.2 != .free) = true) : ∀ x, sc.names.lookup x ≠ some .free := fun x hx => by
  have := List.all_eq_true.mp h _ (lookup_in hx)
  simp at this
theorem kk_tail {P : Params} {h : Heap} (K : (kk P).In h) : (kk0 P).In h ∧ h.get? 55 = some (tabObj #[]) := by
  refine ⟨fun a o e => ?_, K 55 _ (by kernel_rfl)⟩
  refine K a o ?_
  have hk : (kk P) = (55, tabObj #[]) :: kk0 P := by kernel_rfl
  rw [hk, List.lookup_cons]
  cases hb : (a == 55) with
  | false => exact e
  | true =>
    have : (kk0 P).lookup 55 = none := by kernel_rfl
    rw [beq_iff_eq.mp hb, this] at e
    cases e
theorem fin07 {w : World} {s₀ s₁ : Shared} {mg mb : Str → Option Value} {p : Program} {loose : List Str} {mean : ExcName → Option Value} (T : Top p loose mean mg mb s₁.heap) (KX : (kk0 w.params).In s₁.heap) (KT : s₁.heap.get? 55 = some (tabObj #[])) (hg : s₁.gens = #[])
    {a fa : Addr} {vals : List Value} {ns : List Int} (hl : IsLst s₁.heap a vals.toArray) (hi : IntsAre vals ns) (hlt : ¬ ((63 : Nat) : Int) < (ns.length : Int)) {o : Obj} {fd : FuncData} (ho : s₁.heap.get? fa = some o) (hd : o.data = .func fd) (hcd : s₁.heap.CodeRec fd.code fd.qualname)
    (hbody : fd.body = .stmts bdLaw) (hsc : fd.scope = scLaw) (hbind : bindArgs fd ⟨[Value.ref a], []⟩ = pure [(("script" : Str), Value.ref a)]) (hclo : fd.closure = []) (hgl : fd.globals = mainGlobals) (hbl : fd.builtins = builtinsNs) :
    codeAny (model P07 w) callerA (.call (.ref fa) ⟨[.ref a], []⟩) (GoodWG PySem.Challenge.rw_dm0064_07.row.claim (classAt s₀.heap) (ExcName.means s₀.heap) [ofPy (PyData.list (List.map PyData.int ns))] s₁) s₁ := by
  obtain ⟨ρ, four, stop, n, N, hpre, q1, q2, q3, q4, q5, okS⟩ := pre_eq ns (by (first | lia | omega))
  obtain ⟨fs, hC, hat, hlk⟩ := ctor_ok okS
  have ok : (W07 w s₁.heap mg mb s₁.os (· = 55) (fun _ => False)).Ok := ⟨T.g, T.b, T.nolimit, T.nodigits, T.builtins, KX, fun a h => by
    rw [show a = 55 from h]
    obtain ⟨mc, hmc, _⟩ := T.nodigits
    exact ⟨by kernel_rfl, ns_noP T.g KT, ns_noP T.b KT, ns_noP hmc KT⟩⟩
  have hbu : s₁.heap.BuiltinsAt mg 55 := bmain_at T KT
  have hPg : mainGlobals ≠ 55 := (ns_noP T.g KT).symm
  refine law_startF (W := W07 w s₁.heap mg mb s₁.os (· = 55) (fun _ => False)) (P := 55) ok rfl rfl (fun _ => Iff.rfl) (fun _ h => h) KT hg (by decide +kernel) ho hd T.nolimit hcd hbody hbind hclo (by rw [hsc]; kernel_rfl) (by rw [hsc]; exact no_free _ (by kernel_rfl)) hgl hbl (by rw [hsc]; kernel_rfl) (by rw [hsc]; kernel_rfl) (by rw [hsc]; kernel_rfl) hl hi fun env Z s α hE hf st => ?_
  rw [hsc] at hE
  have hfr : (callerA.deeper env).frames = some [env] := Around.frames_deeper rfl
  rw [law_split]
  refine wpAny_execs_app ?_
  refine fPre_den _ env Z s _ α .next ρ (room0 env) hE st.inv st.loc hpre _ _ fun fl s₂ Z₂ α₂ p₂ r₂ => ?_
  cases fl <;> try exact r₂.elim
  have st₂ := st.step p₂
  refine wpAny_execs_cons ?_
  rw [wells_eq]
  refine exec_wells (room0 env) hE st₂.inv st₂.loc (.inl (by kernel_rfl)) (by kernel_rfl) (by kernel_rfl) fun s₃ Z₃ α₃ a0 a1 p₃ => ?_
  have st₃ := st₂.step p₃
  obtain ⟨ρ₄, b0, b1, hfill, i₄⟩ := fill_eq (a0 := a0) (a1 := a1) q3 q4 q1 q2 q5
  refine wpAny_execs_app ?_
  refine fFill_den _ env Z₃ s₃ _ α₃ .next ρ₄ (room0 env) hE st₃.inv st₃.loc hfill _ _ fun fl s₄ Z₄ α₄ p₄ r₄ => ?_
  cases fl <;> try exact r₄.elim
  have st₄ := st₃.step p₄
  obtain ⟨Z₅, p₅⟩ := wells_freeze st₄.inv st₄.loc i₄.wells i₄.h0 i₄.h1
  have st₅ := st₄.step p₅
  have ef : (freeze "#1" (freeze "#0" ρ₄)).set "wells" (.val (.lst [.lst b0, .lst b1])) = ((ρ₄.set "#0" (.val (.lst b0))).set "#1" (.val (.lst b1))).set "wells" (.val (.lst [.lst b0, .lst b1])) := by
    rw [freeze_own' (getO_own i₄.h0), freeze_own' (l := ⟨some a1, b1⟩) (getO_own (set_skip rfl i₄.h1))]
  rw [ef] at st₅
  have z0 : b0.length ≤ 1000 := by have := i₄.z0; (first | lia | omega)
  have z1 : b1.length ≤ 1000 := by have := i₄.z1; (first | lia | omega)
  obtain ⟨ρ₆, hdue, g1, g2, g3, g4⟩ := due_eq (n := n) okS.stopIs (good_GL okS) (b0 := b0) (b1 := b1) (ρ := ((ρ₄.set "#0" (.val (.lst b0))).set "#1" (.val (.lst b1))).set "wells" (.val (.lst [.lst b0, .lst b1]))) i₄.t0 i₄.t1 z0 z1 (getV_skip rfl (getV_skip rfl (getV_skip rfl i₄.stop))) (getV_hit _ _ _) (nf_set rfl (nf_set rfl (nf_set rfl i₄.nf)))
  refine wpAny_execs_app ?_
  refine fDue_den (spec_words (d := 249)) (spec_filled (d := 249)) _ env Z₅ s₄ _ α₄ .next ρ₆ (room0 env) hE st₅.inv st₅.loc hdue _ _ fun fl s₆ Z₆ α₆ p₆ r₆ => ?_
  cases fl <;> try exact r₆.elim
  have st₆ := st₅.step p₆
  obtain ⟨Z₇, p₇⟩ := st₆.loc.freeze "due" st₆.inv
  rw [freeze_own' g4] at p₇
  have st₇ := st₆.step p₇
  refine wpAny_execs_cons ?_
  rw [three_eq]
  refine exec_three (t := three7) gl_iter (by kernel_rfl) gl_diff (by kernel_rfl) ke_diff (spec_ctor (d := 249)) (fun x hx => kinds_in (l := ["sheet", "first", "second"]) (by kernel_rfl) x hx) three_sw1 three_sw2 (room0 env) hE st₇.inv st₇.loc (getV_skip rfl g1) hC (getV_skip rfl g2) fun it0 it1 w0 w1 s₈ Z₈ α₈ p₈ wl0 wl1 hne hb => ?_
  have st₈ := st₇.step p₈
  rw [three_slots] at st₈ hb
  refine wpAny_execs_cons ?_
  rw [loop_eq]
  have cI : LI (W07 w s₁.heap mg mb s₁.os (· = 55) (fun _ => False)) 55 (posOf stExp) qualE env 111 fs it0 w0 b0 it1 w1 b1 0 0 Z₈ s₈ _ α₈ := ⟨st₈.inv, st₈.loc, getV_hit _ _ _, getV_skip rfl (getV_hit _ _ _), getV_skip rfl (getV_skip rfl (getV_hit _ _ _)), nf_set rfl (nf_set rfl (nf_set rfl (nf_set rfl g3))), .inl st₈.tab, wl0, wl1, fun a h => (hb a h).2⟩
  refine loop7 (d := 248) (FI := fExp) (bad := bad7 four) (H := H7 n) (Rel := Rel7 (bad7 four) (H7 n) b0 b1) (meth hbu hPg) lawSc (by kernel_rfl) hE (room0 env) hfr hf hlk hne (fun a h => (hb a h).1) z0 z1 (fun a h => things hat okS (h.elim (i₄.t0 a) (i₄.t1 a))) (fun _ _ => _) (fun _ => rfl) rel7 (due_cmp fun c h hbd => thing_H (h.elim (i₄.t0 c) (i₄.t1 c)) hbd) (rel7_start b0 b1) cI (getV_skip rfl (getV_skip rfl (getV_skip rfl (getV_hit _ _ _)))) fun s₉ Z₉ ρ₉ α₉ i j c => ?_
  have hret : DenSs (W07 w s₁.heap mg mb s₁.os (· = 55) (fun _ => False)) 250 scLaw [stRet] fun ρ => (((some (.bool true)) >>= fun a => some (.ret a, ρ)) >>= thenA fun ρ => some (.next, ρ)) := by
    rw [ret_eq]
    exact dens_cons (den_return (den_bool true _ _)) dens_nil
  refine hret _ env Z₉ s₉ ρ₉ α₉ (.ret (.bool true)) ρ₉ (room0 env) hE c.inv c.loc rfl _ _ fun fl s' Z' α' p' r' => ?_
  cases fl <;> try exact r'.elim
  cases r'
  obtain ⟨ps, htab⟩ : ∃ ps, s₉.heap.get? 55 = some (tabObj ps) := c.tab.elim (fun h => ⟨_, h⟩) fun ⟨c', h, _⟩ => ⟨_, h⟩
  have st₉ : Stage 55 s₁ ps (W07 w s₁.heap mg mb s₁.os (· = 55) (fun _ => False)) env Z₉ s₉ ρ₉ α₉ := ⟨c.inv, c.loc, fun b o hne e => c.inv.base b o e hne, fun a f => (c.loc.nb a f).1, c.inv.os, htab, KT⟩
  have st' := st₉.step p'
  exact ⟨.inl ⟨.bool true, .bool true, [], rfl, fun _ => rfl, .bool _, by kernel_rfl, fun _ => ⟨List.nodup_nil, fun _ h => by cases h⟩⟩, st'.old (c := 57) KX (by kernel_rfl) (by decide +kernel), st'.os, st'.inv.bare⟩
theorem well_lst {P : Params} {h : Heap} {a : Addr} {xs : List WData} {vs : List Value} (w : WellAll P h [.ref a] [.list xs]) (hl : h.IsList a vs.toArray) : IsLst h a vs.toArray := by
  cases w with
  | cons w _ =>
    cases w with
    | list hg _ =>
      obtain ⟨o, ho, hc, n, hd⟩ := hl
      rw [hg] at ho
      cases ho
      exact ⟨_, hg, rfl, rfl, n, hd⟩
end Mine
theorem PySem.Challenge.cw_dm0064_07_holds : PySem.Challenge.rw_dm0064_07.Holds :=
  Mine.hd (by
  intro w s₀ s₁ mg mb G Y fa o pm cd doc dV kV ho hd hcd hD hmg hg args vals as hpre hlay hrd hwl hlo
  have KX : (Mine.kk w.params).In s₁.heap := Y
  obtain ⟨KX0, KT⟩ := Mine.kk_tail KX
  have hwl2 := hwl
  refine Ground.open G ?_
  intro T B D TE TW
  try (refine guard_noD D (by decide +kernel) ?_; clear D)
  have TA := at_of_top T
  clear hmg
  wrow_args hpre hlay hrd hwl hlo
  refine enter_call ?_
  w_top on
  have he := Dflts.none hD rfl; subst he
  have he := Dflts.noKw hD; subst he
  exact Mine.fin07 T KX0 KT hg (Mine.well_lst hwl2 (by assumption)) (by assumption) (by assumption) ho (fd_plain hd) hcd rfl rfl rfl rfl rfl rfl)
end
