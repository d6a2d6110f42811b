import PyProof.Rows.All
import Wide.All
import OpenK.AllK
import Wide.FinOn
import PySem.Challenge.RW_ik0067_01
open PySem PySem.W PyProof.Rows PySem.Calls
set_option Elab.async false
set_option maxRecDepth 100000
namespace Mine
/-! HD -/
section
set_option maxHeartbeats 8000000
abbrev PR : Program := PySem.Challenge.rw_ik0067_01.row.prog
noncomputable def st2 : { s : Stmt // PR.main.body[2]? = some s } := ⟨_, rfl⟩
noncomputable def st3 : { s : Stmt // PR.main.body[3]? = some s } := ⟨_, rfl⟩
noncomputable def st4 : { s : Stmt // PR.main.body[4]? = some s } := ⟨_, rfl⟩
noncomputable def st6 : { s : Stmt // PR.main.body[6]? = some s } := ⟨_, rfl⟩
noncomputable def st7 : { s : Stmt // PR.main.body[7]? = some s } := ⟨_, rfl⟩
noncomputable def st8 : { s : Stmt // PR.main.body[8]? = some s } := ⟨_, rfl⟩
noncomputable def st9 : { s : Stmt // PR.main.body[9]? = some s } := ⟨_, rfl⟩
noncomputable def st10 : { s : Stmt // PR.main.body[10]? = some s } := ⟨_, rfl⟩
noncomputable def st11 : { s : Stmt // PR.main.body[11]? = some s } := ⟨_, rfl⟩
noncomputable def st20 : { s : Stmt // PR.main.body[20]? = some s } := ⟨_, rfl⟩
noncomputable def st24 : { s : Stmt // PR.main.body[24]? = some s } := ⟨_, rfl⟩
noncomputable def st25 : { s : Stmt // PR.main.body[25]? = some s } := ⟨_, rfl⟩
noncomputable def st26 : { s : Stmt // PR.main.body[26]? = some s } := ⟨_, rfl⟩
noncomputable def st27 : { s : Stmt // PR.main.body[27]? = some s } := ⟨_, rfl⟩
noncomputable def st29 : { s : Stmt // PR.main.body[29]? = some s } := ⟨_, rfl⟩
noncomputable def st30 : { s : Stmt // PR.main.body[30]? = some s } := ⟨_, rfl⟩
noncomputable def st31 : { s : Stmt // PR.main.body[31]? = some s } := ⟨_, rfl⟩
noncomputable def st32 : { s : Stmt // PR.main.body[32]? = some s } := ⟨_, rfl⟩
noncomputable def fnO (s : Stmt) (md : Str) (mt : Tok) (df : Value) (c : Addr) : Obj := match s with
  | .FunctionDef n ps b _ _ _ sc _ _ _ => { cls := .type "function", data := .func { name := n, qualname := n, params := ps, body := .stmts b, scope := sc, globals := 3, closure := [], defaults := df, kwdefaults := .none, pyModule := .str md mt, code := .ref c } }
  | _ => default
noncomputable def cO (n : Str) (t : Tok) (ln ac fl : Int) (r : Addr) : Option Nat → Obj
  | some k => { cls := .type "code", data := .fields #[.str n t, .str n (t + 1), .str "/claim/cut.py" (t + 2), .int ln 0, .int ac 0, .int 0 0, .int 0 0, .int fl 0, .ref r, .bool true, .int 181 0, .ref (r + 1), .none, .ref (r + 2), .ref (r + 3), .ref (r + 4), .int ((t + 3 + k : Nat) : Int) 0, .int ln 0, .str "/claim/cut.py" (t + 4 + k)] }
  | none => { cls := .type "code", data := .fields #[.str n t, .str n (t + 1), .str "/claim/cut.py" (t + 2), .int ln 0, .int ac 0, .int 0 0, .int 0 0, .int fl 0, .ref r, .bool true, .int 181 0, .ref (r + 1), .none, .none, .none, .ref (r + 2), .int ((t + 3 : Nat) : Int) 0, .int ln 0, .str "/claim/cut.py" (t + 4)] }
/-- the part of the heap that the walk leans on -/
noncomputable def KA (P : Params) : Frag := [(2, { cls := .none, data := .dict #[] 0 }),
  (3, { cls := .type "dict", data := .dict #[⟨PyData.keyHash P "__name__", .str "__name__" 165, .str "law_ik0067_01" 430⟩,
    ⟨PyData.keyHash P "__doc__", .str "__doc__" 166, .none⟩,
    ⟨PyData.keyHash P "__package__", .str "__package__" 167, .none⟩,
    ⟨PyData.keyHash P "__loader__", .str "__loader__" 168, .builtin "__main__.__loader__#opaque"⟩,
    ⟨PyData.keyHash P "__spec__", .str "__spec__" 169, .none⟩,
    ⟨PyData.keyHash P "__annotations__", .str "__annotations__" 170, .ref 6⟩,
    ⟨PyData.keyHash P "__builtins__", .str "__builtins__" 171, .ref 4⟩,
    ⟨PyData.keyHash P "__file__", .str "__file__" 173, .str "/claim/cut.py" 172⟩,
    ⟨PyData.keyHash P "__cached__", .str "__cached__" 174, .none⟩,
    ⟨PyData.keyHash P "_wall", .str "_wall" 193, .ref 21⟩,
    ⟨PyData.keyHash P "countOf", .str "countOf" 205, .ref 28⟩,
    ⟨PyData.keyHash P "iadd", .str "iadd" 213, .ref 35⟩,
    ⟨PyData.keyHash P "ixor", .str "ixor" 221, .ref 42⟩,
    ⟨PyData.keyHash P "heappop", .str "heappop" 232, .ref 49⟩,
    ⟨PyData.keyHash P "heapreplace", .str "heapreplace" 241, .ref 56⟩,
    ⟨PyData.keyHash P "heapify", .str "heapify" 250, .ref 63⟩,
    ⟨PyData.keyHash P "_siftdown", .str "_siftdown" 262, .ref 70⟩,
    ⟨PyData.keyHash P "_siftup", .str "_siftup" 275, .ref 77⟩,
    ⟨PyData.keyHash P "nlargest", .str "nlargest" 281, .ref 83⟩,
    ⟨PyData.keyHash P "_plain_name", .str "_plain_name" 292, .ref 90⟩,
    ⟨PyData.keyHash P "ABCMeta", .str "ABCMeta" 318, .ref 107⟩,
    ⟨PyData.keyHash P "_ABCLike", .str "_ABCLike" 361, .ref 140⟩,
    ⟨PyData.keyHash P "_abc_plain_meta", .str "_abc_plain_meta" 368, .ref 149⟩,
    ⟨PyData.keyHash P "fspath", .str "fspath" 380, .ref 156⟩,
    ⟨PyData.keyHash P "_check_arg_types", .str "_check_arg_types" 393, .ref 163⟩,
    ⟨PyData.keyHash P "_get_sep", .str "_get_sep" 402, .ref 170⟩,
    ⟨PyData.keyHash P "join", .str "join" 413, .ref 177⟩,
    ⟨PyData.keyHash P "dirname", .str "dirname" 423, .ref 184⟩,
    ⟨PyData.keyHash P "commonpath", .str "commonpath" 429, .ref 189⟩,
    ⟨PyData.keyHash P "_law_files", .str "_law_files" 437, .ref 194⟩,
    ⟨PyData.keyHash P "_law_run", .str "_law_run" 443, .ref 199⟩,
    ⟨PyData.keyHash P "_law_path", .str "_law_path" 450, .ref 206⟩,
    ⟨PyData.keyHash P "_law_told", .str "_law_told" 456, .ref 211⟩,
    ⟨PyData.keyHash P "law", .str "law" 464, .ref 218⟩] 34 }),
  (78, { cls := .type "tuple", data := .seq #[.none] 0 })
  , (27, cO "countOf" 196 5 2 3 22 (some 4)), (28, fnO st2.1 "cpy313.operator" 194 .none 27)
  , (34, cO "iadd" 206 11 2 3 29 (some 2)), (35, fnO st3.1 "cpy313.operator" 194 .none 34)
  , (41, cO "ixor" 214 14 2 3 36 (some 2)), (42, fnO st4.1 "cpy313.operator" 194 .none 41)
  , (48, cO "heappop" 224 18 1 3 43 (some 3)), (49, fnO st6.1 "cpy313.heapq" 222 .none 48)
  , (55, cO "heapreplace" 233 26 2 3 50 (some 3)), (56, fnO st7.1 "cpy313.heapq" 222 .none 55)
  , (62, cO "heapify" 242 31 1 3 57 (some 3)), (63, fnO st8.1 "cpy313.heapq" 222 .none 62)
  , (69, cO "_siftdown" 251 35 3 3 64 (some 6)), (70, fnO st9.1 "cpy313.heapq" 222 .none 69)
  , (76, cO "_siftup" 263 46 2 3 71 (some 7)), (77, fnO st10.1 "cpy313.heapq" 222 .none 76)
  , (82, cO "nlargest" 276 60 3 3 79 none), (83, fnO st11.1 "cpy313.heapq" 222 (.ref 78) 82)
  , (155, cO "fspath" 371 136 1 3 150 (some 4)), (156, fnO st20.1 "os" 369 .none 155)
  , (169, cO "_get_sep" 396 165 1 3 164 (some 1)), (170, fnO st24.1 "cpy313.posixpath" 394 .none 169)
  , (176, cO "join" 403 170 1 7 171 (some 5)), (177, fnO st25.1 "cpy313.posixpath" 394 .none 176)
  , (183, cO "dirname" 414 187 1 3 178 (some 4)), (184, fnO st26.1 "cpy313.posixpath" 394 .none 183)
  , (188, cO "commonpath" 424 195 1 3 185 none), (189, fnO st27.1 "cpy313.posixpath" 394 .none 188)
  , (193, cO "_law_files" 432 225 1 3 190 none), (194, fnO st29.1 "law_ik0067_01" 430 .none 193)
  , (198, cO "_law_run" 438 231 1 3 195 none), (199, fnO st30.1 "law_ik0067_01" 430 .none 198)
  , (205, cO "_law_path" 444 250 1 3 200 (some 1)), (206, fnO st31.1 "law_ik0067_01" 430 .none 205)
  , (210, cO "_law_told" 451 252 1 3 207 none), (211, fnO st32.1 "law_ik0067_01" 430 .none 210)]
noncomputable def KAs : List Addr := [2, 3, 78, 27, 28, 34, 35, 41, 42, 48, 49, 55, 56, 62, 63, 69, 70, 76, 77, 82, 83, 155, 156, 169, 170, 176, 177, 183, 184, 188, 189, 193, 194, 198, 199, 205, 206, 210, 211]
theorem kas (P : Params) : KAs = (KA P).map (·.1) := rfl
abbrev QV : Program := view PR [33]
abbrev LO : List Str := ["_wall", "countOf", "iadd", "ixor", "heappop", "heapreplace", "heapify", "_siftdown", "_siftup", "nlargest", "_plain_name", "ABCMeta", "_ABCLike", "_abc_plain_meta", "fspath", "_check_arg_types", "_get_sep", "join", "dirname", "commonpath", "_law_files", "_law_run", "_law_path", "_law_told"]
abbrev RW0 := PySem.Challenge.rw_ik0067_01.row.toRowW
noncomputable abbrev HK : Hook := kHook KA KAs kas
theorem left : LeftO PR QV LO (fun s => xlAt QV [] s && recOk (RowW.records RW0) s) (Hook.obs HK) (Hook.val HK) 2708 := fun w => by kernel_rfl
theorem said : PySem.Challenge.rw_ik0067_01.wellSaid = true := by kernel_rfl
end
/-! HE -/
section
set_option maxHeartbeats 8000000
theorem hw : RW0.promised := by w_witness2
theorem hd {d : DefRec} {kwd : List (Str × Expr)} (h1 : defOf QV RW0.name = some (d, kwd)) (h2 : RW0.prog.theDef RW0.name = some (d.params, d.body, d.scope)) (h3 : kwWritten? d.params.kwonlyargs d.params.kw_defaults = some kwd)
    (call : WalkO QV LO (XL QV []) HK.says RW0 d kwd fun f vs => PySem.call f vs) : PySem.Challenge.rw_ik0067_01.Holds :=
  holds_law said fun said => holds_open (q := QV) (loose := LO) (Xt := fun s => xlAt QV [] s && recOk (RowW.records RW0) s) (XP := XL QV []) (Yf := Hook.obs HK) (Ya := Hook.val HK) (YP := Hook.says HK) (N := 2708) left (Hook.of HK) (Hook.keeps HK) (fun s e => xl_of s (Bool.and_eq_true_iff.mp e).1) XL.keeps h1 h2 h3 (fun s e => recFacts_of (Bool.and_eq_true_iff.mp e).2) (by rfl) said (by decide +kernel) ⟨rfl, rfl, rfl, rfl, rfl, by decide +kernel⟩ hw call
end
/-! F1 -/
section
/-! data -/
inductive D where
  | none
  | bool (b : Bool)
  | int (i : Int)
  | str (x : Str)
  | tup (ds : List D)
  | lst (ds : List D)
  | val (v : Value)

noncomputable abbrev Le (g h : Heap) : Prop := ∀ b o, g.get? b = some o → h.get? b = some o
theorem Le.refl (g : Heap) : Le g g := fun _ _ e => e
theorem Le.trans {a b c : Heap} (h : Le a b) (k : Le b c) : Le a c := fun x o e => k x o (h x o e)
theorem Le.push (h : Heap) (o : Obj) : Le h (h.push o) := fun _ _ e => Heap.get?_push_of_some _ e

theorem isList_le {g h : Heap} {a : Addr} {x : Array Value} (k : Le g h) (l : g.IsList a x) : h.IsList a x := let ⟨o, e, r⟩ := l; ⟨o, k _ _ e, r⟩
theorem isTup_le {g h : Heap} {a : Addr} {x : Array Value} (k : Le g h) (l : IsTup g a x) : IsTup h a x := let ⟨o, e, r⟩ := l; ⟨o, k _ _ e, r⟩
theorem isCell_le {g h : Heap} {a : Addr} {x : Option Value} (k : Le g h) (l : g.IsCell a x) : h.IsCell a x := let ⟨o, e, r⟩ := l; ⟨o, k _ _ e, r⟩

mutual
inductive Rep (g : Heap) : Value → D → Prop
  | none : Rep g Value.none D.none
  | bool (b : Bool) : Rep g (Value.bool b) (D.bool b)
  | int (i : Int) (t : Tok) : Rep g (Value.int i t) (D.int i)
  | str (x : Str) (t : Tok) : Rep g (Value.str x t) (D.str x)
  | tup {a : Addr} {vs : List Value} {ds : List D} : IsTup g a vs.toArray → RepAll g vs ds → Rep g (Value.ref a) (D.tup ds)
  | lst {a : Addr} {vs : List Value} {ds : List D} : g.IsList a vs.toArray → RepAll g vs ds → Rep g (Value.ref a) (D.lst ds)
  | val (v : Value) : Rep g v (D.val v)
inductive RepAll (g : Heap) : List Value → List D → Prop
  | nil : RepAll g [] []
  | cons {v : Value} {vs : List Value} {d : D} {ds : List D} : Rep g v d → RepAll g vs ds → RepAll g (v :: vs) (d :: ds)
end
mutual
theorem Rep.le {g h : Heap} (k : Le g h) : ∀ {v : Value} {d : D}, Rep g v d → Rep h v d
  | _, _, .none => .none
  | _, _, .bool b => .bool b
  | _, _, .int i t => .int i t
  | _, _, .str x t => .str x t
  | _, _, .tup l r => .tup (isTup_le k l) (RepAll.le k r)
  | _, _, .lst l r => .lst (isList_le k l) (RepAll.le k r)
  | _, _, .val v => .val v
theorem RepAll.le {g h : Heap} (k : Le g h) : ∀ {vs : List Value} {ds : List D}, RepAll g vs ds → RepAll h vs ds
  | _, _, .nil => .nil
  | _, _, .cons h r => .cons (Rep.le k h) (RepAll.le k r)
end

/-- what g holds, without the addresses as -/
theorem hideAll_le (as : List Addr) (h : Heap) : Le (hideAll h as) h := fun _ _ e => of_hideAll as e
theorem le_hideAll {g h : Heap} {as : List Addr} (k : Le g h) (n : ∀ a ∈ as, g.get? a = none) : Le g (hideAll h as) := fun b o e =>
  hideAll_get as (k b o e) fun hm => by rw [n b hm] at e; cases e

noncomputable def NoSeq (g : Heap) (as : List Addr) : Prop := ∀ a ∈ as, ∀ o, g.get? a = some o → ∀ xs n, o.data ≠ .seq xs n
mutual
theorem Rep.hide {g : Heap} {as : List Addr} (n : NoSeq g as) : ∀ {v : Value} {d : D}, Rep g v d → Rep (hideAll g as) v d
  | _, _, .none => .none
  | _, _, .bool b => .bool b
  | _, _, .int i t => .int i t
  | _, _, .str x t => .str x t
  | _, _, .tup ⟨o, e, c, k, d⟩ r => .tup ⟨o, hideAll_get as e (fun hm => n _ hm _ e _ _ d), c, k, d⟩ (RepAll.hide n r)
  | _, _, .lst ⟨o, e, c, k, d⟩ r => .lst ⟨o, hideAll_get as e (fun hm => n _ hm _ e _ _ d), c, k, d⟩ (RepAll.hide n r)
  | _, _, .val v => .val v
theorem RepAll.hide {g : Heap} {as : List Addr} (n : NoSeq g as) : ∀ {vs : List Value} {ds : List D}, RepAll g vs ds → RepAll (hideAll g as) vs ds
  | _, _, .nil => .nil
  | _, _, .cons h r => .cons (Rep.hide n h) (RepAll.hide n r)
end

/-- what stands behind a value of the kind -/
noncomputable def RepI (g : Heap) (v : Value) : D → Prop
  | .none => ∃ _ : Unit, v = .none
  | .bool b => ∃ _ : Unit, v = .bool b
  | .int i => ∃ t : Tok, v = .int i t
  | .str x => ∃ t : Tok, v = .str x t
  | .val u => ∃ _ : Unit, v = u
  | .tup ds => ∃ p : Addr × List Value, v = .ref p.1 ∧ IsTup g p.1 p.2.toArray ∧ RepAll g p.2 ds
  | .lst ds => ∃ p : Addr × List Value, v = .ref p.1 ∧ g.IsList p.1 p.2.toArray ∧ RepAll g p.2 ds
theorem Rep.inv {g : Heap} {v : Value} {d : D} (r : Rep g v d) : RepI g v d := by
  cases r with
  | none => exact ⟨(), rfl⟩
  | bool b => exact ⟨(), rfl⟩
  | int i t => exact ⟨t, rfl⟩
  | str x t => exact ⟨t, rfl⟩
  | tup h r => exact ⟨(_, _), rfl, h, r⟩
  | lst h r => exact ⟨(_, _), rfl, h, r⟩
  | val => exact ⟨(), rfl⟩
theorem RepAll.inv {g : Heap} {vs : List Value} {d : D} {ds : List D} (r : RepAll g vs (d :: ds)) : ∃ v vs', vs = v :: vs' ∧ Rep g v d ∧ RepAll g vs' ds := by
  cases r with
  | cons h r => exact ⟨_, _, rfl, h, r⟩
theorem RepAll.length {g : Heap} : ∀ {vs : List Value} {ds : List D}, RepAll g vs ds → vs.length = ds.length
  | _, _, .nil => rfl
  | _, _, .cons _ r => congrArg (· + 1) r.length
theorem RepAll.append {g : Heap} {ws : List Value} {es : List D} (k : RepAll g ws es) : ∀ {vs : List Value} {ds : List D}, RepAll g vs ds → RepAll g (vs ++ ws) (ds ++ es)
  | _, _, .nil => k
  | _, _, .cons h r => .cons h (RepAll.append k r)
theorem RepAll.get {g : Heap} : ∀ {vs : List Value} {ds : List D} {i : Nat} {d : D}, RepAll g vs ds → ds[i]? = some d → ∃ v, vs[i]? = some v ∧ Rep g v d
  | _, _, _, _, .nil, h => by simp at h
  | _, _, 0, _, .cons h _, e => ⟨_, rfl, by simp at e; exact e ▸ h⟩
  | _, _, i + 1, _, .cons _ r, e => by
    obtain ⟨v, e1, e2⟩ := r.get (i := i) (by simpa using e)
    exact ⟨v, by simpa using e1, e2⟩
theorem RepAll.take {g : Heap} : ∀ {vs : List Value} {ds : List D} (n : Nat), RepAll g vs ds → RepAll g (vs.take n) (ds.take n)
  | _, _, 0, _ => by simpa using RepAll.nil
  | _, _, _ + 1, .nil => .nil
  | _, _, n + 1, .cons h r => .cons h (r.take n)
theorem RepAll.reverse {g : Heap} : ∀ {vs : List Value} {ds : List D}, RepAll g vs ds → RepAll g vs.reverse ds.reverse
  | _, _, .nil => .nil
  | _, _, .cons h r => by rw [List.reverse_cons, List.reverse_cons]; exact RepAll.append (.cons h .nil) r.reverse
theorem RepAll.set {g : Heap} {v : Value} {d : D} (h : Rep g v d) : ∀ {vs : List Value} {ds : List D} (i : Nat), RepAll g vs ds → RepAll g (vs.set i v) (ds.set i d)
  | _, _, _, .nil => .nil
  | _, _, 0, .cons _ r => .cons h r
  | _, _, i + 1, .cons k r => .cons k (r.set h i)

/-! mutable cells -/
inductive C where
  | lst (ds : List D)
  | dict (ks : List (Str × Tok)) (ds : List D)
  | fdict (ks : List (Str × Tok)) (ds : List D)
  | it (o : Obj)
  | iter (ds : List D) (i : Nat)
noncomputable def C.mut : C → Bool
  | .fdict .. => false
  | _ => true


noncomputable def DictK (w : World) (h : Heap) (a : Addr) (ps : List (Str × Value)) (ks : List (Str × Tok)) : Prop :=
  h.DictOf (strKind PR w) a ps ∧ ps.map (·.1) = ks.map (·.1) ∧ ∀ o es ep, h.get? a = some o → o.data = .dict es ep → es.toList.map (·.key) = strValues ks
noncomputable def CellIs (w : World) (g h : Heap) (a : Addr) : C → Prop
  | .lst ds => ∃ (vs : List Value) (n : Nat), h.get? a = some ({ cls := .type "list", data := .seq vs.toArray n } : Obj) ∧ RepAll g vs ds
  | .dict ks ds => ∃ ps : List (Str × Value), DictK w h a ps ks ∧ (a == sysModules) = false ∧ RepAll g (ps.map (·.2)) ds
  | .fdict ks ds => ∃ ps : List (Str × Value), (∃ o, g.get? a = some o ∧ h.get? a = some o) ∧ DictK w g a ps ks ∧ (a == sysModules) = false ∧ RepAll g (ps.map (·.2)) ds
  | .it o => h.get? a = some o
  | .iter ds i => ∃ (ax : Addr) (vs : List Value), h.IsListIter a ax i ∧ g.IsList ax vs.toArray ∧ RepAll g vs ds

theorem dictOf_at {w : World} {h h' : Heap} {a : Addr} {ps : List (Str × Value)} (x : h.DictOf (strKind PR w) a ps) (e : ∀ o, h.get? a = some o → h'.get? a = some o) : h'.DictOf (strKind PR w) a ps :=
  let ⟨o, es, ep, ho, r⟩ := x; ⟨o, es, ep, e o ho, r⟩
theorem dictK_at {w : World} {h h' : Heap} {a : Addr} {ps : List (Str × Value)} {ks : List (Str × Tok)} (x : DictK w h a ps ks) (e : ∀ o, h.get? a = some o → h'.get? a = some o) : DictK w h' a ps ks := by
  obtain ⟨x1, x2, x3⟩ := x
  refine ⟨dictOf_at x1 e, x2, fun o es ep q1 q2 => ?_⟩
  obtain ⟨o', _, _, q, _⟩ := x1
  have := e _ q
  rw [q1] at this; cases this
  exact x3 _ es ep q q2
theorem CellIs.up {w : World} {g g' h h' : Heap} {a : Addr} {c : C} (k : Le g g') (e : ∀ o, h.get? a = some o → h'.get? a = some o) (x : CellIs w g h a c) : CellIs w g' h' a c := by
  cases c with
  | lst ds => obtain ⟨vs, n, q, r⟩ := x; exact ⟨vs, n, e _ q, r.le k⟩
  | dict ks ds => obtain ⟨ps, q, lo, r⟩ := x; exact ⟨ps, dictK_at q e, lo, r.le k⟩
  | fdict ks ds => obtain ⟨ps, ⟨o, q1, q2⟩, q, lo, r⟩ := x; exact ⟨ps, ⟨o, k _ _ q1, e _ q2⟩, dictK_at q fun o e => k _ o e, lo, r.le k⟩
  | it o => exact e _ x
  | iter ds i => obtain ⟨ax, vs, ⟨o, q1, q2⟩, l, r⟩ := x; exact ⟨ax, vs, ⟨o, e _ q1, q2⟩, isList_le k l, r.le k⟩
theorem CellIs.some {w : World} {g h : Heap} {a : Addr} {c : C} (x : CellIs w g h a c) : ∃ o, h.get? a = some o := by
  cases c with
  | lst ds => obtain ⟨vs, n, q, r⟩ := x; exact ⟨_, q⟩
  | dict ks ds => obtain ⟨ps, ⟨⟨o, _, _, q, _⟩, _⟩, r⟩ := x; exact ⟨_, q⟩
  | fdict ks ds => obtain ⟨ps, ⟨o, _, q⟩, r⟩ := x; exact ⟨_, q⟩
  | it o => exact ⟨_, x⟩
  | iter ds i => obtain ⟨ax, vs, ⟨o, q1, q2⟩, l, r⟩ := x; exact ⟨_, q1⟩
theorem CellIs.hide {w : World} {g h : Heap} {a : Addr} {c : C} {as : List Addr} (n : NoSeq g as) (na : a ∉ as) (x : CellIs w g h a c) : CellIs w (hideAll g as) h a c := by
  cases c with
  | lst ds => obtain ⟨vs, n', q, r⟩ := x; exact ⟨vs, n', q, r.hide n⟩
  | dict ks ds => obtain ⟨ps, q, lo, r⟩ := x; exact ⟨ps, q, lo, r.hide n⟩
  | fdict ks ds => obtain ⟨ps, ⟨o, q1, q2⟩, q, lo, r⟩ := x; exact ⟨ps, ⟨o, hideAll_get as q1 na, q2⟩, dictK_at q (fun o e => hideAll_get as e na), lo, r.hide n⟩
  | it o => exact x
  | iter ds i => obtain ⟨ax, vs, it, ⟨o, e, c, k, d⟩, r⟩ := x; exact ⟨ax, vs, it, ⟨o, hideAll_get as e (fun hm => n _ hm _ e _ _ d), c, k, d⟩, r.hide n⟩

noncomputable abbrev Cls := List (Addr × C)
noncomputable abbrev Loc := List (Str × Option D)
noncomputable def muts (cells : Cls) : List Addr := (cells.filter (·.2.mut)).map (·.1)
theorem mem_muts {cells : Cls} {a : Addr} (h : a ∈ muts cells) : ∃ p ∈ cells, p.2.mut = true ∧ p.1 = a := by
  obtain ⟨p, hp, e⟩ := List.mem_map.mp h
  obtain ⟨a, b⟩ := List.mem_filter.mp hp
  exact ⟨p, a, b, e⟩
theorem mem_muts' {cells : Cls} {p : Addr × C} (h : p ∈ cells) (m : p.2.mut = true) : p.1 ∈ muts cells := List.mem_map.mpr ⟨p, List.mem_filter.mpr ⟨h, m⟩, rfl⟩

noncomputable def RepO (g : Heap) : Option Value → Option D → Prop
  | .some v, .some d => Rep g v d
  | .none, .none => True
  | _, _ => False
theorem RepO.le {g h : Heap} (k : Le g h) {v : Option Value} {d : Option D} (x : RepO g v d) : RepO h v d := by
  cases v <;> cases d <;> first | exact x | exact Rep.le k x
theorem RepO.of_some {g : Heap} {v : Option Value} {d : D} (x : RepO g v (some d)) : ∃ u, v = some u ∧ Rep g u d := by
  cases v with
  | none => exact x.elim
  | some u => exact ⟨u, rfl, x⟩

noncomputable def VarIs (env : Env) (g h : Heap) (m : Str → Option Value) (x : Str) (od : Option D) : Prop :=
  match env.kindOf x with
  | some .local => RepO g (m x) od
  | some .cell => ∃ c ov, env.cells.lookup x = some c ∧ h.IsCell c ov ∧ RepO g ov od
  | some .free => ∃ c ov, env.cells.lookup x = some c ∧ g.IsCell c ov ∧ RepO g ov od
  | _ => False

noncomputable def CellAt (env : Env) (x : Str) (c : Addr) : Prop := env.kindOf x = some .cell ∧ env.cells.lookup x = some c

structure CRel (w : World) (g h : Heap) (cells : Cls) : Prop where
  sub : Le g h
  all : ∀ p ∈ cells, CellIs w g h p.1 p.2 ∧ (p.2.mut = true → g.get? p.1 = none)
  nodup : (cells.map (·.1)).Nodup

structure FrameK (env : Env) (loc : Loc) : Prop where
  kind : env.scope.kind = .function
  glob : env.globals = mainGlobals
  bltn : env.builtins = builtinsNs
  names : (env.scope.names.map (·.1)).Nodup
  dbg : ∀ p ∈ loc, (p.1 == ("__debug__" : Str)) = false ∧ (p.1 == ("__classdict__" : Str)) = false

structure Rel (w : World) (env : Env) (g h : Heap) (loc : Loc) (cells : Cls) : Prop where
  c : CRel w g h cells
  fk : FrameK env loc
  newL : g.get? env.locals = none
  notL : env.locals ∉ cells.map (·.1)
  ns : ∃ m, h.Ns env.locals m ∧ ∀ p ∈ loc, VarIs env g h m p.1 p.2
  own : ∀ x c, CellAt env x c → g.get? c = none ∧ c ≠ env.locals ∧ c ∉ cells.map (·.1) ∧ ∃ ov, h.IsCell c ov
  inj : ∀ x y c, CellAt env x c → CellAt env y c → x = y
  names : (loc.map (·.1)).Nodup

/-- the frame's own addresses -/
noncomputable def ownOf (env : Env) : List Addr := env.locals :: (env.scope.names.filter (·.2 == .cell)).filterMap fun p => env.cells.lookup p.1
theorem mem_ownOf {env : Env} {a : Addr} (hm : a ∈ ownOf env) (hn : (env.scope.names.map (·.1)).Nodup) : a = env.locals ∨ ∃ x, CellAt env x a := by
  rcases List.mem_cons.mp hm with e | hm
  · exact .inl e
  · obtain ⟨p, hp, e⟩ := List.mem_filterMap.mp hm
    obtain ⟨h1, h2⟩ := List.mem_filter.mp hp
    refine .inr ⟨p.1, ?_, e⟩
    unfold Env.kindOf
    have : ∀ l : List (Str × NameKind), (l.map (·.1)).Nodup → p ∈ l → l.lookup p.1 = some p.2 := by
      intro l
      induction l with
      | nil => intro _ h; cases h
      | cons q l ih =>
        intro hn hp
        obtain ⟨y, k⟩ := q
        rcases List.mem_cons.mp hp with rfl | hp
        · simp [List.lookup_cons]
        · have hne : p.1 ≠ y := fun e => by
            rw [List.map_cons, List.nodup_cons] at hn
            exact hn.1 (e ▸ List.mem_map.mpr ⟨p, hp, rfl⟩)
          rw [List.lookup_cons]
          have : (p.1 == y) = false := by simpa using hne
          rw [this]
          exact ih (List.nodup_cons.mp hn).2 hp
    rw [this _ hn h1]
    have := h2
    simp at this
    rw [this]
end
/-! F2 -/
section
noncomputable abbrev KF (w : World) : Frag := KA w.params

structure Stat (w : World) (g : Heap) : Prop where
  X : (KF w).In g
  top : ∃ mg mb, g.Ns mainGlobals mg ∧ g.Ns builtinsNs mb ∧ ∀ x : Str, x ≠ "__name__" → mb x = bootBuiltins x
  nolimit : g.NoLimit
  nodigits : ∃ mc, g.Ns cStatics mc ∧ mc "sys.int_max_str_digits" = none
theorem Stat.le {w : World} {g h : Heap} (S : Stat w g) (k : Le g h) : Stat w h :=
  ⟨fun a o e => k _ _ (S.X a o e), let ⟨mg, mb, a, b, c⟩ := S.top; ⟨mg, mb, a.keeps k, b.keeps k, c⟩, S.nolimit.keeps k, let ⟨mc, a, b⟩ := S.nodigits; ⟨mc, a.keeps k, b⟩⟩

noncomputable def No : Value → Shared → Prop := fun _ _ => False

structure Low (k : Nat) (A : Around) : Prop where
  handled : A.handled = none
  depth : A.depth + 10 * k < recursionLimit
  units : A.units + 100 * k < cLine

/-- a tree in a frame -/
noncomputable def Tri {α : Type} (w : World) (env : Env) (A : Around) (g₀ : Heap) (loc : Loc) (cells : Cls) (t : Sem α) (P : Heap → α → Loc → Cls → Prop) : Prop :=
  ∀ g s Q, Le g₀ g → Rel w env g s.heap loc cells →
    (∀ a g' h' tk' loc' cells', Le g g' → Rel w env g' h' loc' cells' → P g' a loc' cells' → Q a { s with heap := h', toks := tk' }) →
    wpAny (model PR w) A t Q No s

section
variable {α β : Type} {w : World} {env : Env} {A : Around} {g₀ : Heap} {loc : Loc} {cells : Cls}

theorem Tri.mono {t : Sem α} {P P' : Heap → α → Loc → Cls → Prop} (h : Tri w env A g₀ loc cells t P) (k : ∀ g a loc' cells', Le g₀ g → P g a loc' cells' → P' g a loc' cells') : Tri w env A g₀ loc cells t P' := by
  intro g s Q hg R hQ
  exact h g s Q hg R fun a g' h' tk' l' c' x y z => hQ a g' h' tk' l' c' x y (k _ _ _ _ (hg.trans x) z)
/-- a step that is a step of wpAny -/
theorem Tri.of {t t' : Sem α} {P : Heap → α → Loc → Cls → Prop} (h : Tri w env A g₀ loc cells t P) (k : ∀ s Q, wpAny (model PR w) A t Q No s → wpAny (model PR w) A t' Q No s) : Tri w env A g₀ loc cells t' P :=
  fun g s Q hg R hQ => k _ _ (h g s Q hg R hQ)
/-- a tree that changes neither the frame nor a cell -/
theorem Tri.use3 {t : Sem α} {P : Heap → α → Prop} {g : Heap} {s : Shared} {Q : α → Shared → Prop} (h : Tri w env A g₀ loc cells t (fun g a l c => P g a ∧ l = loc ∧ c = cells)) (hg : Le g₀ g) (R : Rel w env g s.heap loc cells)
    (hQ : ∀ a g' h' tk', Le g g' → Rel w env g' h' loc cells → P g' a → Q a { s with heap := h', toks := tk' }) : wpAny (model PR w) A t Q No s :=
  h g s Q hg R fun a g' h' tk' l c k R' p => by
    obtain ⟨p1, rfl, rfl⟩ := p
    exact hQ a g' h' tk' k R' p1
end

/-! the frame's names -/
noncomputable def nth {α : Type} : List α → Nat → Option α
  | [], _ => none
  | a :: _, 0 => some a
  | _ :: l, n + 1 => nth l n
theorem memAt {α : Type} {a : α} : ∀ {l : List α} (i : Nat), nth l i = some a → a ∈ l
  | [], _, h => by cases h
  | b :: l, 0, h => by cases h; exact .head _
  | b :: l, n + 1, h => .tail _ (memAt (l := l) n h)
noncomputable def putAt (d : D) : Loc → Nat → Loc
  | [], _ => []
  | p :: r, 0 => (p.1, some d) :: r
  | p :: r, n + 1 => p :: putAt d r n
inductive Put : Str → D → Loc → Loc → Prop
  | head {x : Str} {d : D} {od : Option D} {r : Loc} : Put x d ((x, od) :: r) ((x, some d) :: r)
  | tail {x : Str} {d : D} {p : Str × Option D} {r r' : Loc} : Put x d r r' → Put x d (p :: r) (p :: r')
theorem Put.at {x : Str} {d : D} {od : Option D} : ∀ {l : Loc} (i : Nat), nth l i = some (x, od) → Put x d l (putAt d l i)
  | [], _, h => by cases h
  | p :: l, 0, h => by cases h; exact .head
  | p :: l, n + 1, h => .tail (Put.at (l := l) n h)
theorem Put.split {x : Str} {d : D} : ∀ {l l' : Loc}, Put x d l l' → ∃ pre od post, l = pre ++ (x, od) :: post ∧ l' = pre ++ (x, some d) :: post
  | _, _, .head => ⟨[], _, _, rfl, rfl⟩
  | _, _, .tail (p := p) h => by
    obtain ⟨pre, od, post, e1, e2⟩ := h.split
    exact ⟨p :: pre, od, post, congrArg (p :: ·) e1, congrArg (p :: ·) e2⟩
theorem Put.names {x : Str} {d : D} {l l' : Loc} (h : Put x d l l') : l'.map (·.1) = l.map (·.1) := by
  obtain ⟨pre, od, post, rfl, rfl⟩ := h.split; simp
theorem Put.mem {x : Str} {d : D} {l l' : Loc} (h : Put x d l l') (hn : (l.map (·.1)).Nodup) {p : Str × Option D} (hp : p ∈ l') : p = (x, some d) ∨ (p ∈ l ∧ p.1 ≠ x) := by
  obtain ⟨pre, od, post, rfl, rfl⟩ := h.split
  rw [List.map_append, List.map_cons] at hn
  obtain ⟨_, h2, h3⟩ := List.nodup_append.mp hn
  obtain ⟨h4, _⟩ := List.nodup_cons.mp h2
  rcases List.mem_append.mp hp with hp | hp
  · exact .inr ⟨List.mem_append_left _ hp, fun e => h3 _ (List.mem_map.mpr ⟨p, hp, rfl⟩) _ (.head _) e⟩
  · rcases List.mem_cons.mp hp with e | hp
    · exact .inl e
    · exact .inr ⟨List.mem_append_right _ (.tail _ hp), fun e => h4 (List.mem_map.mpr ⟨p, hp, e⟩)⟩
theorem Put.has {x : Str} {d : D} {l l' : Loc} (h : Put x d l l') : ∃ od, (x, od) ∈ l := by
  obtain ⟨pre, od, post, rfl, rfl⟩ := h.split; exact ⟨od, by simp⟩

section
variable {w : World} {env : Env} {A : Around} {g₀ : Heap} {loc loc' : Loc} {cells : Cls}

theorem FrameK.put {x : Str} {d : D} (F : FrameK env loc) (h : Put x d loc loc') : FrameK env loc' := by
  refine ⟨F.kind, F.glob, F.bltn, F.names, fun p hp => ?_⟩
  have : p.1 ∈ loc.map (·.1) := h.names ▸ List.mem_map.mpr ⟨p, hp, rfl⟩
  obtain ⟨q, hq, e⟩ := List.mem_map.mp this
  rw [← e]; exact F.dbg q hq

theorem VarIs.up {g g' h h' : Heap} {m m' : Str → Option Value} {x : Str} {od : Option D} (k : Le g g') (hm : env.kindOf x = some .local → m' x = m x)
    (hc : ∀ c, CellAt env x c → ∀ ov, h.IsCell c ov → h'.IsCell c ov) (v : VarIs env g h m x od) : VarIs env g' h' m' x od := by
  unfold VarIs at v ⊢
  split at v
  · rename_i e; rw [hm e]; exact v.le k
  · rename_i e; obtain ⟨c, ov, a, b, r⟩ := v; exact ⟨c, ov, a, hc c ⟨e, a⟩ ov b, r.le k⟩
  · obtain ⟨c, ov, a, b, r⟩ := v; exact ⟨c, ov, a, isCell_le k b, r.le k⟩
  · exact v

theorem Tri.load {x : Str} {d : D} (hm : (x, some d) ∈ loc) : Tri w env A g₀ loc cells (loadName env x) (fun g v loc' cells' => Rep g v d ∧ loc' = loc ∧ cells' = cells) := by
  intro g s Q hg R hQ
  have F := R.fk
  obtain ⟨m, hn, hv⟩ := R.ns
  have v := hv _ hm
  have fin : ∀ v, Rep g v d → Q v s := fun v r => hQ v g s.heap s.toks loc cells (Le.refl _) R ⟨r, rfl, rfl⟩
  unfold VarIs at v
  split at v
  · rename_i e
    obtain ⟨u, e1, r⟩ := RepO.of_some v
    exact wpAny_loadName_local F.kind e hn e1 (fin u r)
  · rename_i e
    obtain ⟨c, ov, a, b, r⟩ := v
    obtain ⟨u, e1, r⟩ := RepO.of_some r
    subst e1
    exact wpAny_loadName_cell F.kind e a b (fin u r)
  · rename_i e
    obtain ⟨c, ov, a, b, r⟩ := v
    obtain ⟨u, e1, r⟩ := RepO.of_some r
    subst e1
    exact wpAny_loadName_free F.kind e a (isCell_le R.c.sub b) (fin u r) (F.dbg _ hm).2
  · exact v.elim

theorem Tri.store {x : Str} {d : D} {v : Value} (hp : Put x d loc loc') (hk : env.kindOf x ≠ some .free) (r : Rep g₀ v d) :
    Tri w env A g₀ loc cells (storeName env x v) (fun _ _ l c => l = loc' ∧ c = cells) := by
  intro g s Q hg R hQ
  have F := R.fk
  obtain ⟨m, hn, hv⟩ := R.ns
  obtain ⟨od, hx⟩ := hp.has
  have vx := hv _ hx
  unfold VarIs at vx
  split at vx
  · rename_i e
    refine wpAny_storeName_local e hn (fun h' hn' hs => hQ () g h' _ loc' cells (Le.refl _) ?_ ⟨rfl, rfl⟩) (by rw [F.kind]; rfl)
    refine ⟨⟨fun b o e => (hs.2 b (fun q => by rw [q, R.newL] at e; cases e)).trans (R.c.sub b o e), fun p hp => ⟨(R.c.all p hp).1.up (Le.refl _) fun o e => (hs.2 _ (fun q => R.notL (q ▸ List.mem_map.mpr ⟨p, hp, rfl⟩))).trans e, (R.c.all p hp).2⟩, R.c.nodup⟩, F.put hp,
      R.newL, R.notL, ⟨_, hn', fun p hpp => ?_⟩, fun y c hc => ?_, R.inj, hp.names ▸ R.names⟩
    · rcases hp.mem R.names hpp with rfl | ⟨hpp, hne⟩
      · unfold VarIs; rw [e]; show RepO g (if x = x then some v else m x) (some d); rw [if_pos rfl]; exact r.le hg
      · refine (hv p hpp).up (Le.refl _) (fun _ => if_neg hne) fun c hc ov ⟨o, e1, e2⟩ => ⟨o, (hs.2 c (R.own _ c hc).2.1).trans e1, e2⟩
    · obtain ⟨a, b, c', ov, o, e1, e2⟩ := R.own y c hc
      exact ⟨a, b, c', ov, o, (hs.2 c b).trans e1, e2⟩
  · rename_i e
    obtain ⟨c, ov, a, b, _⟩ := vx
    obtain ⟨o1, o2, o3, _⟩ := R.own x c ⟨e, a⟩
    refine wpAny_storeName_cell F.kind e a b fun h' hc' hs => hQ () g h' s.toks loc' cells (Le.refl _) ?_ ⟨rfl, rfl⟩
    refine ⟨⟨fun b o e => (hs.2 b (fun q => by rw [q, o1] at e; cases e)).trans (R.c.sub b o e), fun p hp => ⟨(R.c.all p hp).1.up (Le.refl _) fun o e => (hs.2 _ (fun q => o3 (q ▸ List.mem_map.mpr ⟨p, hp, rfl⟩))).trans e, (R.c.all p hp).2⟩, R.c.nodup⟩, F.put hp,
      R.newL, R.notL, ⟨m, hn.sameBut hs (Ne.symm o2), fun p hpp => ?_⟩, fun y c' hc => ?_, R.inj, hp.names ▸ R.names⟩
    · rcases hp.mem R.names hpp with rfl | ⟨hpp, hne⟩
      · unfold VarIs; rw [e]; exact ⟨c, some v, a, hc', r.le hg⟩
      · refine (hv p hpp).up (Le.refl _) (fun _ => rfl) fun c2 hc2 ov ⟨o, e1, e2⟩ => ⟨o, (hs.2 c2 (fun q => hne (R.inj _ _ c (q ▸ hc2) ⟨e, a⟩))).trans e1, e2⟩
    · by_cases q : c' = c
      · subst q; exact ⟨o1, o2, o3, some v, hc'⟩
      · obtain ⟨a1, b1, c1, ov, o, e1, e2⟩ := R.own y c' hc
        exact ⟨a1, b1, c1, ov, o, (hs.2 c' q).trans e1, e2⟩
  · rename_i e; exact absurd e hk
  · exact vx.elim

theorem Tri.bindName {x : Str} {d : D} {v : Value} (hp : Put x d loc loc') (hk : env.kindOf x ≠ some .free) (r : Rep g₀ v d) :
    Tri w env A g₀ loc cells (bindName env x v) (fun _ _ l c => l = loc' ∧ c = cells) :=
  (Tri.store hp hk r).of fun _ _ h => wpAny_bindName h
end
end
/-! F3 -/
section
noncomputable abbrev NewIn (h h' g : Heap) : Prop := ∀ b o, h.get? b = none → h'.get? b = some o → g.get? b = some o

/-- a tree that makes new objects alone -/
noncomputable def Pr {α : Type} (w : World) (A : Around) (g : Heap) (t : Sem α) (P : Heap → α → Prop) : Prop :=
  ∀ s Q, Le g s.heap → (∀ a h' tk', Le s.heap h' → (∀ g', Le g g' → NewIn s.heap h' g' → P g' a) → Q a { s with heap := h', toks := tk' }) → wpAny (model PR w) A t Q No s

/-- g and what is new in h' -/
noncomputable def plus (g h h' : Heap) : Heap := hideAll h' ((List.range h.objs.size).filter fun b => (h.get? b).isSome && (g.get? b).isNone)
theorem plus_le (g h h' : Heap) : Le (plus g h h') h' := hideAll_le _ _
theorem le_plus {g h h' : Heap} (k : Le g h) (k' : Le h h') : Le g (plus g h h') := le_hideAll (k.trans k') fun a ha => by
  have := (List.mem_filter.mp ha).2
  simp only [Bool.and_eq_true, Option.isNone_iff_eq_none] at this
  exact this.2
theorem newIn_plus (g h h' : Heap) : NewIn h h' (plus g h h') := fun b o e1 e2 => hideAll_get _ e2 fun hm => by
  have := (List.mem_filter.mp hm).2
  simp [e1] at this
theorem plus_in {g h h' h'' g' : Heap} (kg : Le g g') (k1 : Le g h) (k2 : Le h h') (k3 : Le h' h'') (n : NewIn h h'' g') : Le (plus g h h') g' := by
  intro b o e
  have e1 := plus_le g h h' b o e
  cases hb : h.get? b with
  | none => exact n b o hb (k3 b o e1)
  | some o' =>
    cases gb : g.get? b with
    | some x =>
      have : some x = some o := by rw [← (k1.trans k2) b x gb]; exact e1
      exact (kg b x gb).trans this
    | none =>
      have hm : b ∈ (List.range h.objs.size).filter fun b => (h.get? b).isSome && (g.get? b).isNone :=
        List.mem_filter.mpr ⟨List.mem_range.mpr (Heap.lt_size hb), by simp [hb, gb]⟩
      unfold plus at e
      rw [hideAll_none _ hm] at e
      cases e

section
variable {α β : Type} {w : World} {A : Around} {g : Heap}
theorem Pr.bind {t : Sem α} {f : α → Sem β} {P : Heap → α → Prop} {P' : Heap → β → Prop} (h : Pr w A g t P) (k : ∀ g' a, Le g g' → P g' a → Pr w A g' (f a) P') : Pr w A g (t >>= f) P' := by
  intro s Q hg hQ
  refine wpAny_bind (h s _ hg fun a h' tk' hs p => ?_)
  refine k (plus g s.heap h') a (le_plus hg hs) (p _ (le_plus hg hs) (newIn_plus _ _ _)) _ Q (plus_le _ _ _) fun b h'' tk'' hs' p' => ?_
  refine hQ b h'' tk'' (hs.trans hs') fun g' hg' n => p' g' (plus_in hg' hg hs hs' n) fun b o e1 e2 => ?_
  refine n b o ?_ e2
  cases q : s.heap.get? b with
  | none => rfl
  | some x => have := hs b x q; rw [e1] at this; cases this
theorem Pr.pure {a : α} {P : Heap → α → Prop} (h : ∀ g', Le g g' → P g' a) : Pr w A g (pure a) P := fun s Q _ hQ =>
  wpAny_pure (hQ a s.heap s.toks (Le.refl _) fun g' hg' _ => h g' hg')
/-- a step that hands on a value and changes no object -/
theorem Pr.val {t : Sem α} {a : Nat → α} {P : Heap → α → Prop} (f : Nat → Nat) (h : ∀ s Q, Le g s.heap → Q (a s.toks) { s with toks := f s.toks } → wpAny (model PR w) A t Q No s) (p : ∀ tk g', Le g g' → P g' (a tk)) : Pr w A g t P :=
  fun s Q hg hQ => h s Q hg (hQ (a s.toks) s.heap (f s.toks) (Le.refl _) fun g' hg' _ => p _ g' hg')
end

/-! Rel under growth -/
theorem Rel.grow {w : World} {env : Env} {g g' h h' : Heap} {loc : Loc} {cells : Cls} (R : Rel w env g h loc cells) (k : Le h h') (kg : Le g g') (ks : Le g' h')
    (nL : g'.get? env.locals = none) (nO : ∀ x c, CellAt env x c → g'.get? c = none) (nC : ∀ p ∈ cells, p.2.mut = true → g'.get? p.1 = none) : Rel w env g' h' loc cells := by
  obtain ⟨m, hn, hv⟩ := R.ns
  refine ⟨⟨ks, fun p hp => ⟨(R.c.all p hp).1.up kg fun o e => k _ o e, nC p hp⟩, R.c.nodup⟩, R.fk, nL, R.notL, ⟨m, hn.keeps k, fun p hp => (hv p hp).up kg (fun _ => rfl) fun c _ ov x => isCell_le k x⟩, fun x c hc => ?_, R.inj, R.names⟩
  obtain ⟨a, b, c', ov, d⟩ := R.own x c hc
  exact ⟨nO x c hc, b, c', ov, isCell_le k d⟩

/-- all that the heap holds, but what the frame owns -/
noncomputable def top (env : Env) (cells : Cls) (h : Heap) : Heap := hideAll h (ownOf env ++ muts cells)
theorem CellAt.mem {env : Env} {x : Str} {c : Addr} (h : CellAt env x c) : c ∈ ownOf env := by
  unfold ownOf
  refine .tail _ (List.mem_filterMap.mpr ⟨(x, .cell), List.mem_filter.mpr ⟨?_, by simp⟩, h.2⟩)
  have h1 := h.1
  unfold Env.kindOf at h1
  generalize env.scope.names = l at h1
  induction l with
  | nil => cases h1
  | cons p l ih =>
    rw [List.lookup_cons] at h1
    split at h1
    · rename_i e
      have e1 : x = p.1 := by simpa using e
      have e2 : p.2 = .cell := by simpa using h1
      obtain ⟨p1, p2⟩ := p
      simp only at e1 e2
      subst e1 e2
      exact .head _
    · exact .tail _ (ih h1)
theorem top_le (env : Env) (cells : Cls) (h : Heap) : Le (top env cells h) h := hideAll_le _ _
theorem top_none {env : Env} {cells : Cls} {h : Heap} {a : Addr} (hm : a ∈ ownOf env ++ muts cells) : (top env cells h).get? a = none := hideAll_none _ hm

section
variable {w : World} {env : Env} {g h : Heap} {loc : Loc} {cells : Cls}
theorem Rel.owned (R : Rel w env g h loc cells) {a : Addr} (hm : a ∈ ownOf env ++ muts cells) : g.get? a = none ∧ ∃ o, h.get? a = some o := by
  rcases List.mem_append.mp hm with hm | hm
  · rcases mem_ownOf hm R.fk.names with rfl | ⟨x, hx⟩
    · obtain ⟨m, ⟨o, _, _, e, _⟩, _⟩ := R.ns
      exact ⟨R.newL, o, e⟩
    · obtain ⟨a1, _, _, ov, o, e, _⟩ := R.own x a hx
      exact ⟨a1, o, e⟩
  · obtain ⟨p, hp, hq, rfl⟩ := mem_muts hm
    exact ⟨(R.c.all p hp).2 hq, (R.c.all p hp).1.some⟩
theorem Rel.le_top (R : Rel w env g h loc cells) {h' : Heap} (k : Le h h') : Le g (top env cells h') :=
  le_hideAll (R.c.sub.trans k) fun _ ha => (R.owned ha).1
theorem Rel.top (R : Rel w env g h loc cells) {h' : Heap} (k : Le h h') : Rel w env (top env cells h') h' loc cells :=
  R.grow k (R.le_top k) (top_le _ _ _) (top_none (List.mem_append_left _ (.head _))) (fun x c hc => top_none (List.mem_append_left _ hc.mem)) fun p hp hm => top_none (List.mem_append_right _ (mem_muts' hp hm))
theorem Rel.newIn_top (R : Rel w env g h loc cells) (h' : Heap) : NewIn h h' (Mine.top env cells h') := fun b o e1 e2 => hideAll_get _ e2 fun hm => by
  obtain ⟨_, o', e⟩ := R.owned hm
  rw [e1] at e; cases e
end

section
variable {α : Type} {w : World} {env : Env} {A : Around} {g₀ : Heap} {loc : Loc} {cells : Cls}
theorem Tri.pr {t : Sem α} {P : Heap → α → Prop} (h : Pr w A g₀ t P) : Tri w env A g₀ loc cells t (fun g a l c => P g a ∧ l = loc ∧ c = cells) := by
  intro g s Q hg R hQ
  refine h s Q (hg.trans R.c.sub) fun a h' tk' hs p => ?_
  exact hQ a (top env cells h') h' tk' loc cells (R.le_top hs) (R.top hs) ⟨p _ (hg.trans (R.le_top hs)) (R.newIn_top h'), rfl, rfl⟩
end

/-! expressions that change no cell -/
noncomputable def Ev (w : World) (env : Env) (k : Nat) (loc : Loc) (cells : Cls) (e : Expr) (d : D) : Prop :=
  ∀ A g₀, Low k A → Stat w g₀ → Tri w env A g₀ loc cells (eval e env) (fun g v l c => Rep g v d ∧ l = loc ∧ c = cells)
/-- truth -/
noncomputable def Tr (w : World) (env : Env) (k : Nat) (loc : Loc) (cells : Cls) (e : Expr) (b : Bool) : Prop :=
  ∀ A g₀, Low k A → Stat w g₀ → Tri w env A g₀ loc cells (isTrue e env (eval e env)) (fun _ v l c => v = b ∧ l = loc ∧ c = cells)
noncomputable def PrV (w : World) (A : Around) (g : Heap) (t : Sem Value) (d : D) : Prop := Pr w A g t (fun g v => Rep g v d)

/-- an operation on values -/
noncomputable def Bin (w : World) (k : Nat) (op : Operator) (a b d : D) : Prop := ∀ A g x y, Low k A → Stat w g → Rep g x a → Rep g y b → PrV w A g (binaryOp op x y) d
noncomputable def Cmp (w : World) (k : Nat) (op : CmpOp) (a b : D) (r : Bool) : Prop := ∀ A g x y, Low k A → Stat w g → Rep g x a → Rep g y b → PrV w A g (compareOp op x y) (.bool r)
noncomputable def Uny (w : World) (k : Nat) (op : UnaryOp) (a d : D) : Prop := ∀ A g x, Low k A → Stat w g → Rep g x a → PrV w A g (unaryOp op x) d
noncomputable def Tru (w : World) (k : Nat) (a : D) (b : Bool) : Prop := ∀ A g x, Low k A → Stat w g → Rep g x a → Pr w A g (truthy x) (fun _ c => c = b)

section
variable {w : World} {env : Env} {k : Nat} {loc : Loc} {cells : Cls}

theorem Ev.name {x : Str} {pos : Pos} {d : D} (hm : (x, some d) ∈ loc) : Ev w env k loc cells (.Name x pos) d :=
  fun _ _ _ _ g s Q hg R hQ => wpAny_Name (Tri.load hm g s Q hg R hQ) (R.fk.dbg _ hm).1
theorem Ev.glob {x : Str} {pos : Pos} {v : Value} (hx : env.kindOf x = some .globalImplicit) (hd : (x == ("__debug__" : Str)) = false) (e : nsIn (KF w) mainGlobals x = some (some v)) : Ev w env k loc cells (.Name x pos) (.val v) := by
  intro A g₀ _ S g s Q hg R hQ
  have F := R.fk
  refine Tri.pr (P := fun g' a => Rep g' a (.val v)) (?_ : Pr w A g₀ _ _) g s Q hg R hQ
  intro s Q hg hQ
  obtain ⟨mg, mb, h1, h2, h3⟩ := (S.le hg).top
  exact Name_function_global F.kind hx (loadGlobal_global (mg := mg) (F.glob ▸ h1) (mg_of (S.le hg).X h1 e) (hQ _ _ _ (Le.refl _) fun _ _ _ => .val v)) hd
theorem Ev.bltn {x : Str} {pos : Pos} {v : Value} (hx : env.kindOf x = some .globalImplicit) (hd : (x == ("__debug__" : Str)) = false) (e : nsIn (KF w) mainGlobals x = some none) (hv : bootBuiltins x = some v) (hn : x ≠ "__name__") : Ev w env k loc cells (.Name x pos) (.val v) := by
  intro A g₀ _ S g s Q hg R hQ
  have F := R.fk
  refine Tri.pr (P := fun g' a => Rep g' a (.val v)) (?_ : Pr w A g₀ _ _) g s Q hg R hQ
  intro s Q hg hQ
  obtain ⟨mg, mb, h1, h2, h3⟩ := (S.le hg).top
  exact Name_function_global F.kind hx (loadGlobal_builtin (mg := mg) (mb := mb) (F.glob ▸ h1) (mg_none_of (S.le hg).X h1 e) (F.bltn ▸ h2) ((h3 x hn).trans hv) (hQ _ _ _ (Le.refl _) fun _ _ _ => .val v)) hd
theorem Ev.int {i : Int} {kd : Nat} {pos : Pos} : Ev w env k loc cells (.Constant (.int i) kd pos) (.int i) := by
  intro A g₀ _ _
  exact Tri.pr (Pr.val (a := fun t => Value.int i t) (· + 1) (fun s Q _ h => wpAny_Constant_int h) fun _ _ _ => .int _ _)
theorem Ev.str {i : Str} {kd : Nat} {pos : Pos} : Ev w env k loc cells (.Constant (.str i) kd pos) (.str i) := by
  intro A g₀ _ _
  exact Tri.pr (Pr.val (a := fun t => Value.str i t) (· + 1) (fun s Q _ h => Calls.Constant_str h) fun _ _ _ => .str _ _)
theorem Ev.noneC {kd : Nat} {pos : Pos} : Ev w env k loc cells (.Constant .none kd pos) .none := by
  intro A g₀ _ _
  exact Tri.pr (Pr.val (a := fun _ => Value.none) id (fun s Q _ h => wpAny_Constant_none h) fun _ _ _ => .none)
/-- two values one behind the other, then an operation -/
theorem Tri.two {A : Around} {g₀ : Heap} {t u v : Sem Value} {op : Value → Value → Sem Value} {a b d : D} (S : Stat w g₀)
    (ht : Tri w env A g₀ loc cells t (fun g v l c => Rep g v a ∧ l = loc ∧ c = cells)) (hu : ∀ g, Stat w g → Tri w env A g loc cells u (fun g v l c => Rep g v b ∧ l = loc ∧ c = cells))
    (ho : ∀ g x y, Stat w g → Rep g x a → Rep g y b → PrV w A g (op x y) d)
    (hv : ∀ s Q, wpAny (model PR w) A t (fun x s₁ => wpAny (model PR w) A u (fun y s₂ => wpAny (model PR w) A (op x y) Q No s₂) No s₁) No s → wpAny (model PR w) A v Q No s) :
    Tri w env A g₀ loc cells v (fun g v l c => Rep g v d ∧ l = loc ∧ c = cells) := by
  intro g s Q hg R hQ
  refine hv s Q (Tri.use3 ht hg R ?_)
  rintro x g1 h1 tk1 hg1 R1 r1
  refine Tri.use3 (hu g1 (S.le (hg.trans hg1))) (Le.refl _) R1 ?_
  rintro y g2 h2 tk2 hg2 R2 r2
  refine Tri.use3 (Tri.pr (ho g2 x y (S.le ((hg.trans hg1).trans hg2)) (r1.le hg2) r2)) (Le.refl _) R2 ?_
  rintro z g3 h3 tk3 hg3 R3 r3
  exact hQ z g3 h3 tk3 _ _ ((hg1.trans hg2).trans hg3) R3 ⟨r3, rfl, rfl⟩

theorem Ev.bin {l r : Expr} {op : Operator} {pos : Pos} {a b d : D} (hl : Ev w env k loc cells l a) (hr : Ev w env k loc cells r b) (ho : Bin w k op a b d) : Ev w env k loc cells (.BinOp l op r pos) d :=
  fun A g₀ hA S => Tri.two S (hl A g₀ hA S) (fun g S => hr A g hA S) (fun g x y S rx ry => ho A g x y hA S rx ry) fun _ _ h => wpAny_BinOp h
theorem Ev.cmp {l r : Expr} {op : CmpOp} {pos : Pos} {a b : D} {c : Bool} (hl : Ev w env k loc cells l a) (hr : Ev w env k loc cells r b) (ho : Cmp w k op a b c)
    (hs : behindInMarks op r = false := by rfl) : Ev w env k loc cells (.Compare l [op] [r] pos) (.bool c) :=
  fun A g₀ hA S => Tri.two S (hl A g₀ hA S) (fun g S => hr A g hA S) (fun g x y S rx ry => ho A g x y hA S rx ry) fun _ _ h => wpAny_Compare1 (hm := hs) h
theorem Ev.uny {x : Expr} {op : UnaryOp} {pos : Pos} {a d : D} (hx : Ev w env k loc cells x a) (ho : Uny w k op a d) : Ev w env k loc cells (.UnaryOp op x pos) d := by
  intro A g₀ hA S g s Q hg R hQ
  refine wpAny_UnaryOp (Tri.use3 (hx A g₀ hA S) hg R ?_)
  rintro y g2 h2 tk2 hg2 R2 r2
  refine Tri.use3 (Tri.pr (ho A g2 y hA (S.le (hg.trans hg2)) r2)) (Le.refl _) R2 ?_
  rintro z g3 h3 tk3 hg3 R3 r3
  exact hQ z g3 h3 tk3 _ _ (hg2.trans hg3) R3 ⟨r3, rfl, rfl⟩
end
end
/-! F4 -/
section
section
variable {w : World} {env : Env} {k : Nat} {loc loc' : Loc} {cells : Cls}

/-! truth -/
theorem Tr.cmp {l r : Expr} {op : CmpOp} {pos : Pos} {a b : D} {c : Bool} (hl : Ev w env k loc cells l a) (hr : Ev w env k loc cells r b) (ho : Cmp w k op a b c)
    (hs : behindInMarks op r = false := by rfl) : Tr w env k loc cells (.Compare l [op] [r] pos) c := by
  intro A g₀ hA S g s Q hg R hQ
  refine wpAny_isTrue_Compare1 (hm := hs) (Tri.use3 (hl A g₀ hA S) hg R ?_)
  rintro x g1 h1 tk1 hg1 R1 r1
  refine Tri.use3 (hr A g1 hA (S.le (hg.trans hg1))) (Le.refl _) R1 ?_
  rintro y g2 h2 tk2 hg2 R2 r2
  refine Tri.use3 (Tri.pr (ho A g2 x y hA (S.le ((hg.trans hg1).trans hg2)) (r1.le hg2) r2)) (Le.refl _) R2 ?_
  rintro z g3 h3 tk3 hg3 R3 r3
  (first | obtain ⟨_, rfl⟩ := Rep.inv r3 | cases r3)
  exact wpAny_truthy_bool (hQ _ g3 h3 tk3 _ _ ((hg1.trans hg2).trans hg3) R3 ⟨rfl, rfl, rfl⟩)
theorem Tr.not {x : Expr} {pos : Pos} {b : Bool} (h : Tr w env k loc cells x b) : Tr w env k loc cells (.UnaryOp .Not x pos) (!b) := by
  intro A g₀ hA S g s Q hg R hQ
  refine wpAny_isTrue_Not (Tri.use3 (h A g₀ hA S) hg R ?_)
  rintro x g1 h1 tk1 hg1 R1 rfl
  exact hQ _ g1 h1 tk1 _ _ hg1 R1 ⟨rfl, rfl, rfl⟩
theorem Tr.val {e : Expr} {d : D} {b : Bool} (h : Ev w env k loc cells e d) (ht : Tru w k d b)
    (he : ∀ whole, isTrue e env whole = (do let v ← whole; standAt e.pos; holding [v] (truthy v)) := by intro _; rfl) : Tr w env k loc cells e b := by
  intro A g₀ hA S g s Q hg R hQ
  refine wpAny_isTrue_value (Tri.use3 (h A g₀ hA S) hg R ?_) (he _)
  rintro x g1 h1 tk1 hg1 R1 r1
  refine Tri.use3 (Tri.pr (ht A g1 x hA (S.le (hg.trans hg1)) r1)) (Le.refl _) R1 ?_
  rintro z g3 h3 tk3 hg3 R3 r3
  exact hQ _ g3 h3 tk3 _ _ (hg1.trans hg3) R3 ⟨r3, rfl, rfl⟩
theorem Tr.and2 {x y : Expr} {pos : Pos} {a b : Bool} (hx : Tr w env k loc cells x a) (hy : a = true → Tr w env k loc cells y b) : Tr w env k loc cells (.BoolOp .And [x, y] pos) (a && b) := by
  intro A g₀ hA S g s Q hg R hQ
  refine wpAny_isTrue_BoolOp (wpAny_allTrue_And_cons (Tri.use3 (hx A g₀ hA S) hg R ?_))
  rintro t g1 h1 tk1 hg1 R1 rfl
  cases t with
  | false => exact hQ _ g1 h1 tk1 _ _ hg1 R1 ⟨rfl, rfl, rfl⟩
  | true =>
    refine wpAny_allTrue_And_cons (Tri.use3 (hy rfl A g1 hA (S.le (hg.trans hg1))) (Le.refl _) R1 ?_)
    rintro u g2 h2 tk2 hg2 R2 rfl
    cases u with
    | false => exact hQ _ g2 h2 tk2 _ _ (hg1.trans hg2) R2 ⟨rfl, rfl, rfl⟩
    | true => exact wpAny_allTrue_And_nil (hQ _ g2 h2 tk2 _ _ (hg1.trans hg2) R2 ⟨rfl, rfl, rfl⟩)
theorem Tr.or2 {x y : Expr} {pos : Pos} {a b : Bool} (hx : Tr w env k loc cells x a) (hy : a = false → Tr w env k loc cells y b) : Tr w env k loc cells (.BoolOp .Or [x, y] pos) (a || b) := by
  intro A g₀ hA S g s Q hg R hQ
  refine wpAny_isTrue_BoolOp (wpAny_allTrue_Or_cons (Tri.use3 (hx A g₀ hA S) hg R ?_))
  rintro t g1 h1 tk1 hg1 R1 rfl
  cases t with
  | true => exact hQ _ g1 h1 tk1 _ _ hg1 R1 ⟨rfl, rfl, rfl⟩
  | false =>
    refine wpAny_allTrue_Or_cons (Tri.use3 (hy rfl A g1 hA (S.le (hg.trans hg1))) (Le.refl _) R1 ?_)
    rintro u g2 h2 tk2 hg2 R2 rfl
    cases u with
    | true => exact hQ _ g2 h2 tk2 _ _ (hg1.trans hg2) R2 ⟨rfl, rfl, rfl⟩
    | false => exact wpAny_allTrue_Or_nil (hQ _ g2 h2 tk2 _ _ (hg1.trans hg2) R2 ⟨rfl, rfl, rfl⟩)

theorem Tru.bool {b : Bool} : Tru w k (.bool b) b := by
  intro A g x _ _ r
  (first | obtain ⟨_, rfl⟩ := Rep.inv r | cases r)
  exact Pr.val (a := fun _ => b) id (fun s Q _ h => wpAny_truthy_bool h) fun _ _ _ => rfl
theorem Cmp.is_none {a : D} {b : Bool} (h : ∀ g v, Rep g v a → (v == .none) = b) : Cmp w k .Is a .none b := by
  intro A g x y _ _ rx ry
  (first | obtain ⟨_, rfl⟩ := Rep.inv ry | cases ry)
  exact Pr.val (a := fun _ => Value.bool (x == .none)) id (fun s Q _ h => PySem.is_none h) fun _ g' hg => by rw [h g x rx]; exact .bool _

/-! expressions that may change cells -/
noncomputable def EvC (w : World) (env : Env) (k : Nat) (loc : Loc) (cells : Cls) (e : Expr) (R : D → Cls → Prop) : Prop :=
  ∀ A g₀, Low k A → Stat w g₀ → Tri w env A g₀ loc cells (eval e env) (fun g v l c => ∃ d, Rep g v d ∧ l = loc ∧ R d c)
theorem EvC.of {e : Expr} {d : D} {R : D → Cls → Prop} (h : Ev w env k loc cells e d) (hR : R d cells) : EvC w env k loc cells e R := fun A g₀ hA S =>
  (h A g₀ hA S).mono fun _ _ _ _ _ ⟨r, e1, e2⟩ => ⟨d, r, e1, e2 ▸ hR⟩

/-! statements -/
inductive Fl where
  | next | brk | cont | ret (d : D)
noncomputable def FlIs (g : Heap) : Flow → Fl → Prop
  | .next, .next => True
  | .brk, .brk => True
  | .cont, .cont => True
  | .ret v, .ret d => Rep g v d
  | _, _ => False
noncomputable abbrev Post := Fl → Loc → Cls → Prop
noncomputable def Exs (w : World) (env : Env) (k : Nat) (loc : Loc) (cells : Cls) (ss : List Stmt) (R : Post) : Prop :=
  ∀ A g₀, Low k A → Stat w g₀ → Tri w env A g₀ loc cells (execs ss env) (fun g f l c => ∃ fl, FlIs g f fl ∧ R fl l c)
noncomputable def Ex (w : World) (env : Env) (k : Nat) (loc : Loc) (cells : Cls) (s : Stmt) (R : Post) : Prop :=
  ∀ A g₀, Low k A → Stat w g₀ → Tri w env A g₀ loc cells (exec s env) (fun g f l c => ∃ fl, FlIs g f fl ∧ R fl l c)
/-- what stands behind a statement -/
noncomputable def Behind (w : World) (env : Env) (k : Nat) (ss : List Stmt) (R : Post) : Post
  | .next, l, c => Exs w env k l c ss R
  | f, l, c => R f l c

variable {R : Post}
theorem Exs.nil (h : R .next loc cells) : Exs w env k loc cells [] R := fun A g₀ _ _ g s Q hg Rl hQ =>
  wpAny_execs_nil (hQ .next g s.heap s.toks loc cells (Le.refl _) Rl ⟨.next, trivial, h⟩)
theorem Exs.cons {st : Stmt} {ss : List Stmt} (h : Ex w env k loc cells st (Behind w env k ss R)) : Exs w env k loc cells (st :: ss) R := by
  intro A g₀ hA S g s Q hg Rl hQ
  refine wpAny_execs_cons (h A g₀ hA S g s _ hg Rl ?_)
  rintro f g1 h1 tk1 l1 c1 hg1 R1 ⟨fl, hf, hB⟩
  cases f with
  | next =>
    cases fl with
    | next => exact hB A g1 hA (S.le (hg.trans hg1)) g1 _ Q (Le.refl _) R1 fun a g' h' tk' l' c' x y z => hQ a g' h' tk' l' c' (hg1.trans x) y z
    | _ => exact hf.elim
  | brk => cases fl with
    | brk => exact hQ _ g1 h1 tk1 _ _ hg1 R1 ⟨_, hf, hB⟩
    | _ => exact hf.elim
  | cont => cases fl with
    | cont => exact hQ _ g1 h1 tk1 _ _ hg1 R1 ⟨_, hf, hB⟩
    | _ => exact hf.elim
  | ret v => cases fl with
    | ret d => exact hQ _ g1 h1 tk1 _ _ hg1 R1 ⟨_, hf, hB⟩
    | _ => exact hf.elim
theorem Ex.mono {R' : Post} {st : Stmt} (h : Ex w env k loc cells st R) (hR : ∀ f l c, R f l c → R' f l c) : Ex w env k loc cells st R' := fun A g₀ hA S =>
  (h A g₀ hA S).mono fun _ _ _ _ _ ⟨fl, x, y⟩ => ⟨fl, x, hR _ _ _ y⟩
theorem Ex.assignC {x : Str} {p pos : Pos} {e : Expr} (h : EvC w env k loc cells e (fun d c => ∃ l', Put x d loc l' ∧ R .next l' c)) (hk : env.kindOf x ≠ some .free)
    (hs : swapsWith e (some (.Name x p)) pos.line env = pure false := by rfl) : Ex w env k loc cells (.Assign [.Name x p] e pos) R := by
  intro A g₀ hA S g s Q hg Rl hQ
  refine wpAny_Assign_Name (h A g₀ hA S g s _ hg Rl ?_) hs
  rintro v g1 h1 tk1 l1 c1 hg1 R1 ⟨d, rv, rfl, l', hp, hr⟩
  refine Tri.store hp hk rv g1 _ _ (Le.refl _) R1 ?_
  rintro _ g2 h2 tk2 l2 c2 hg2 R2 ⟨rfl, rfl⟩
  exact hQ _ g2 h2 tk2 _ _ (hg1.trans hg2) R2 ⟨.next, trivial, hr⟩
theorem Ex.assign {x : Str} {p pos : Pos} {e : Expr} {d : D} (h : Ev w env k loc cells e d) (hp : Put x d loc loc') (hk : env.kindOf x ≠ some .free) (hR : R .next loc' cells)
    (hs : swapsWith e (some (.Name x p)) pos.line env = pure false := by rfl) : Ex w env k loc cells (.Assign [.Name x p] e pos) R :=
  Ex.assignC (EvC.of h ⟨_, hp, hR⟩) hk hs
theorem Ex.retC {e : Expr} {pos : Pos} (h : EvC w env k loc cells e (fun d c => R (.ret d) loc c)) : Ex w env k loc cells (.Return (some e) pos) R := by
  intro A g₀ hA S g s Q hg Rl hQ
  refine wpAny_Return_some (h A g₀ hA S g s _ hg Rl ?_)
  rintro v g1 h1 tk1 l1 c1 hg1 R1 ⟨d, rv, rfl, hr⟩
  exact hQ _ g1 h1 tk1 _ _ hg1 R1 ⟨.ret d, rv, hr⟩
theorem Ex.ret {e : Expr} {pos : Pos} {d : D} (h : Ev w env k loc cells e d) (hR : R (.ret d) loc cells) : Ex w env k loc cells (.Return (some e) pos) R := Ex.retC (EvC.of h hR)
theorem Ex.brk {pos : Pos} (hR : R .brk loc cells) : Ex w env k loc cells (.Break pos) R := fun A g₀ _ _ g s Q hg Rl hQ =>
  wpAny_Break (hQ .brk g s.heap s.toks loc cells (Le.refl _) Rl ⟨.brk, trivial, hR⟩)
theorem Ex.cont {pos : Pos} (hR : R .cont loc cells) : Ex w env k loc cells (.Continue pos) R := fun A g₀ _ _ g s Q hg Rl hQ =>
  wpAny_Continue (hQ .cont g s.heap s.toks loc cells (Le.refl _) Rl ⟨.cont, trivial, hR⟩)
theorem Ex.ite {test : Expr} {body orelse : List Stmt} {pos : Pos} {b : Bool} (ht : Tr w env k loc cells test b) (h1 : b = true → Exs w env k loc cells body R) (h2 : b = false → Exs w env k loc cells orelse R) :
    Ex w env k loc cells (.If test body orelse pos) R := by
  intro A g₀ hA S g s Q hg Rl hQ
  refine wpAny_If (Tri.use3 (ht A g₀ hA S) hg Rl ?_)
  rintro c g1 h1' tk1 hg1 R1 rfl
  cases c with
  | true => exact h1 rfl A g1 hA (S.le (hg.trans hg1)) g1 _ Q (Le.refl _) R1 fun a g' h' tk' l' c' x y z => hQ a g' h' tk' l' c' (hg1.trans x) y z
  | false => exact h2 rfl A g1 hA (S.le (hg.trans hg1)) g1 _ Q (Le.refl _) R1 fun a g' h' tk' l' c' x y z => hQ a g' h' tk' l' c' (hg1.trans x) y z
/-- an expression as a statement whose value is no object -/
theorem Ex.exprC {e : Expr} {pos : Pos} (h : EvC w env k loc cells e (fun d c => d = .none ∧ R .next loc c)) (hi : interactive env = false) (hs : swapsWith e none pos.line env = pure false := by rfl) : Ex w env k loc cells (.Expr e pos) R := by
  intro A g₀ hA S g s Q hg Rl hQ
  refine wpAny_Expr (h A g₀ hA S g s _ hg Rl ?_) hi hs
  rintro v g1 h1 tk1 l1 c1 hg1 R1 ⟨d, rv, rfl, rfl, hr⟩
  (first | obtain ⟨_, rfl⟩ := Rep.inv rv | cases rv)
  exact hQ _ g1 h1 tk1 _ _ hg1 R1 ⟨.next, trivial, hr⟩

/-! targets -/
noncomputable def As (w : World) (env : Env) (k : Nat) (loc : Loc) (cells : Cls) (t : Expr) (d : D) (loc' : Loc) : Prop :=
  ∀ A g₀ v, Low k A → Stat w g₀ → Rep g₀ v d → Tri w env A g₀ loc cells (assign t env v) (fun _ _ l c => l = loc' ∧ c = cells)
noncomputable def AsL (w : World) (env : Env) (k : Nat) (loc : Loc) (cells : Cls) (ts : List Expr) (ds : List D) (loc' : Loc) : Prop :=
  (assignEach ts env).length = ds.length ∧ (assignEach ts env).findIdx? (·.1) = none ∧
  ∀ A g₀ vs, Low k A → Stat w g₀ → RepAll g₀ vs ds → Tri w env A g₀ loc cells (assignInOrder ((assignEach ts env).map (·.2)) vs) (fun _ _ l c => l = loc' ∧ c = cells)
theorem As.name {x : Str} {p : Pos} {d : D} (hp : Put x d loc loc') (hk : env.kindOf x ≠ some .free) : As w env k loc cells (.Name x p) d loc' := fun _ _ _ _ _ r =>
  (Tri.bindName hp hk r).of fun _ _ h => by
    show wpAny _ _ (do standAt p; bindName env x _) _ _ _
    exact wpAny_bind (wpAny_standAt h)
theorem AsL.nil : AsL w env k loc cells [] [] loc := ⟨rfl, rfl, fun A g₀ vs _ _ r g s Q hg Rl hQ => by
  (first | obtain ⟨_, rfl⟩ := Rep.inv r | cases r)
  exact wpAny_pure (hQ () g s.heap s.toks loc cells (Le.refl _) Rl ⟨rfl, rfl⟩)⟩
theorem AsL.cons {t : Expr} {ts : List Expr} {d : D} {ds : List D} {l1 l2 : Loc} (h : As w env k loc cells t d l1) (r : AsL w env k l1 cells ts ds l2)
    (he : assignEach (t :: ts) env = (false, assign t env) :: assignEach ts env := by rfl) : AsL w env k loc cells (t :: ts) (d :: ds) l2 := by
  refine ⟨by rw [he, List.length_cons, List.length_cons, r.1], by rw [he, List.findIdx?_cons, r.2.1]; rfl, fun A g₀ vs hA S rv => ?_⟩
  obtain ⟨_, _, rfl, rv, rs⟩ := RepAll.inv rv
  · rw [he]
    intro g s Q hg Rl hQ
    show wpAny _ _ (do holding _ (assign t env _); assignInOrder ((assignEach ts env).map (·.2)) _) _ _ _
    refine wpAny_bind (wpAny_holding (h A g₀ _ hA S rv g s _ hg Rl ?_))
    rintro _ g2 h2 tk2 l2 c2 hg2 R2 ⟨rfl, rfl⟩
    refine r.2.2 A g2 _ hA (S.le (hg.trans hg2)) (rs.le (hg.trans hg2)) g2 _ Q (Le.refl _) R2 ?_
    rintro _ g3 h3 tk3 l3 c3 hg3 R3 ⟨rfl, rfl⟩
    exact hQ _ g3 h3 tk3 _ _ (hg2.trans hg3) R3 ⟨rfl, rfl⟩
theorem As.tup {ts : List Expr} {kk : Nat} {p : Pos} {ds : List D} (h : AsL w env k loc cells ts ds loc') : As w env k loc cells (.Tuple ts kk p) (.tup ds) loc' := by
  intro A g₀ v hA S r g s Q hg Rl hQ
  obtain ⟨⟨_, _⟩, rfl, ht, rs⟩ := Rep.inv r
  · rename_i a vs
    have ht' : s.heap.IsTuple a vs.toArray := isTup_le (hg.trans Rl.c.sub) ht
    refine wpAny_assign_Tuple hA.handled ht' (by rw [h.1]; simp [rs.length]) h.2.1 fun h' hx => ?_
    have hh : Le s.heap h' := fun b o e => hx b o (Nat.ne_of_lt (Heap.lt_size e)) e
    refine h.2.2 A g₀ _ hA S (by simpa using rs) (Mine.top env cells h') { s with heap := h' } Q (hg.trans (Rl.le_top hh)) (Rl.top hh) ?_
    rintro _ g3 h3 tk3 l3 c3 hg3 R3 ⟨rfl, rfl⟩
    exact hQ _ g3 h3 tk3 _ _ ((Rl.le_top hh).trans hg3) R3 ⟨rfl, rfl⟩
theorem Ex.assignTC {ts : List Expr} {kk : Nat} {p pos : Pos} {e : Expr} (h : EvC w env k loc cells e (fun d c => ∃ l', As w env k loc c (.Tuple ts kk p) d l' ∧ R .next l' c))
    (hs : swapsWithSole [.Tuple ts kk p] e pos.line env = pure false := by rfl) (hw : swappedStores [.Tuple ts kk p] e env = pure none := by rfl) : Ex w env k loc cells (.Assign [.Tuple ts kk p] e pos) R := by
  intro A g₀ hA S g s Q hg Rl hQ
  refine Assign_Tuple (h A g₀ hA S g s _ hg Rl ?_) hs hw
  rintro v g1 h1 tk1 l1 c1 hg1 R1 ⟨d, rv, rfl, l', hp, hr⟩
  refine hp A g1 v hA (S.le (hg.trans hg1)) rv g1 _ _ (Le.refl _) R1 ?_
  rintro _ g2 h2 tk2 l2 c2 hg2 R2 ⟨rfl, rfl⟩
  exact hQ _ g2 h2 tk2 _ _ (hg1.trans hg2) R2 ⟨.next, trivial, hr⟩

/-! lists of expressions -/
noncomputable def EvL (w : World) (env : Env) (k : Nat) (loc : Loc) (cells : Cls) (es : List Expr) (ds : List D) : Prop :=
  ∀ A g₀ pos, Low k A → Stat w g₀ → Tri w env A g₀ loc cells (spliced (backTo pos (starEach es env))) (fun g vs l c => RepAll g vs ds ∧ l = loc ∧ c = cells)
theorem EvL.nil : EvL w env k loc cells [] [] := fun A g₀ pos _ _ g s Q hg Rl hQ => wpAny_items_nil (hQ _ g s.heap s.toks loc cells (Le.refl _) Rl ⟨.nil, rfl, rfl⟩)
theorem EvL.cons {e : Expr} {es : List Expr} {d : D} {ds : List D} (h : Ev w env k loc cells e d) (r : EvL w env k loc cells es ds)
    (he : starEach (e :: es) env = (false, eval e env) :: starEach es env := by rfl) : EvL w env k loc cells (e :: es) (d :: ds) := by
  intro A g₀ pos hA S g s Q hg Rl hQ
  refine wpAny_items_cons (Tri.use3 (h A g₀ hA S) hg Rl ?_) he
  rintro v g1 h1 tk1 hg1 R1 rv
  refine Tri.use3 (r A g1 pos hA (S.le (hg.trans hg1))) (Le.refl _) R1 ?_
  rintro vs g2 h2 tk2 hg2 R2 rs
  exact hQ _ g2 h2 tk2 _ _ (hg1.trans hg2) R2 ⟨.cons (rv.le hg2) rs, rfl, rfl⟩
theorem pr_newTuple {A : Around} {g : Heap} {vs : List Value} {ds : List D} (r : RepAll g vs ds) (hn : ds.length ≤ sizeLine) : PrV w A g (newTuple vs) (.tup ds) := by
  intro s Q hg hQ
  refine wpAny_newTuple (hQ _ _ s.toks (Le.push _ _) fun g' hg' n => .tup (vs := vs) ⟨_, n _ _ ?_ (Heap.get?_push_size _ rfl), rfl, 0, rfl⟩ (r.le hg')) (by rw [r.length]; exact hn)
  cases e : s.heap.get? s.heap.objs.size with
  | none => rfl
  | some o => exact absurd (Heap.lt_size e) (Nat.lt_irrefl _)
theorem pr_newList {A : Around} {g : Heap} {vs : List Value} {ds : List D} (r : RepAll g vs ds) (hn : ds.length ≤ sizeLine) : PrV w A g (newList vs) (.lst ds) := by
  intro s Q hg hQ
  refine wpAny_newList (hQ _ _ s.toks (Le.push _ _) fun g' hg' n => .lst (vs := vs) ⟨_, n _ _ ?_ (Heap.get?_push_size _ rfl), rfl, 0, rfl⟩ (r.le hg')) (by rw [r.length]; exact hn)
  cases e : s.heap.get? s.heap.objs.size with
  | none => rfl
  | some o => exact absurd (Heap.lt_size e) (Nat.lt_irrefl _)
theorem Ev.tup {es : List Expr} {kk : Nat} {pos : Pos} {ds : List D} (h : EvL w env k loc cells es ds) (hn : ds.length ≤ sizeLine) : Ev w env k loc cells (.Tuple es kk pos) (.tup ds) := by
  intro A g₀ hA S g s Q hg Rl hQ
  refine Tuple_ (Tri.use3 (h A g₀ pos hA S) hg Rl ?_)
  rintro vs g1 h1 tk1 hg1 R1 rv
  refine Tri.use3 (Tri.pr (pr_newTuple rv hn)) (Le.refl _) R1 ?_
  rintro v g2 h2 tk2 hg2 R2 rs
  exact hQ _ g2 h2 tk2 _ _ (hg1.trans hg2) R2 ⟨rs, rfl, rfl⟩
theorem Ev.lst {es : List Expr} {pos : Pos} {ds : List D} (h : EvL w env k loc cells es ds) (hn : ds.length ≤ sizeLine) : Ev w env k loc cells (.List es pos) (.lst ds) := by
  intro A g₀ hA S g s Q hg Rl hQ
  refine List_ (Tri.use3 (h A g₀ pos hA S) hg Rl ?_)
  rintro vs g1 h1 tk1 hg1 R1 rv
  refine Tri.use3 (Tri.pr (pr_newList rv hn)) (Le.refl _) R1 ?_
  rintro v g2 h2 tk2 hg2 R2 rs
  exact hQ _ g2 h2 tk2 _ _ (hg1.trans hg2) R2 ⟨rs, rfl, rfl⟩
end
end
/-! F5 -/
section
set_option maxHeartbeats 1000000

/-! out of a callee, back into the frame -/
theorem noSeq_own {w : World} {env : Env} {g h g' : Heap} {loc : Loc} {cells : Cls} (R : Rel w env g h loc cells) (k : Le (hideAll h (muts cells)) g') : NoSeq g' (ownOf env) := by
  intro a ha o e xs n hd
  have ex : ∃ o', h.get? a = some o' ∧ (∀ xs n, o'.data ≠ .seq xs n) ∧ a ∉ cells.map (·.1) := by
    rcases mem_ownOf ha R.fk.names with rfl | ⟨x, hx⟩
    · obtain ⟨m, ⟨o', es, ep, e1, e2, _⟩, _⟩ := R.ns
      exact ⟨o', e1, (fun xs n q => by rw [e2] at q; cases q), R.notL⟩
    · obtain ⟨_, _, c3, ov, o', e1, e2⟩ := R.own x a hx
      exact ⟨o', e1, (fun xs n q => by rw [e2] at q; cases q), c3⟩
  obtain ⟨o', e1, e2, e3⟩ := ex
  have := k a o' (hideAll_get _ e1 fun hm => e3 (by obtain ⟨p, hp, _, q⟩ := mem_muts hm; exact q ▸ List.mem_map.mpr ⟨p, hp, rfl⟩))
  rw [e] at this
  cases this
  exact e2 xs n hd

theorem CRel.of {w : World} {env : Env} {g h : Heap} {loc : Loc} {cells : Cls} (R : Rel w env g h loc cells) : CRel w (hideAll h (muts cells)) h cells ∧ Le g (hideAll h (muts cells)) := by
  have kg : Le g (hideAll h (muts cells)) := le_hideAll R.c.sub fun a ha => by
    obtain ⟨p, hp, m, rfl⟩ := mem_muts ha
    exact (R.c.all p hp).2 m
  exact ⟨⟨hideAll_le _ _, fun p hp => ⟨(R.c.all p hp).1.up kg fun _ e => e, fun m => hideAll_none _ (mem_muts' hp m)⟩, R.c.nodup⟩, kg⟩

theorem Rel.back {w : World} {env : Env} {g h g' h' : Heap} {loc : Loc} {cells c' : Cls} (R : Rel w env g h loc cells) (k : Le (hideAll h (muts cells)) g') (C : CRel w g' h' c')
    (hc : c'.map (·.1) = cells.map (·.1)) : Rel w env (hideAll g' (ownOf env)) h' loc c' ∧ Le g (hideAll g' (ownOf env)) ∧ ∀ v d, Rep g' v d → Rep (hideAll g' (ownOf env)) v d := by
  have ns := noSeq_own R k
  have kg : Le g g' := (CRel.of R).2.trans k
  have kg' : Le g (hideAll g' (ownOf env)) := le_hideAll kg fun a ha => (R.owned (List.mem_append_left _ ha)).1
  have up : ∀ a ∈ ownOf env, ∀ o, h.get? a = some o → h'.get? a = some o := fun a ha o e => by
    refine C.sub _ _ (k _ _ (hideAll_get _ e fun hm => ?_))
    obtain ⟨p, hp, m, q⟩ := mem_muts hm
    have : a ∉ cells.map (·.1) := by
      rcases mem_ownOf ha R.fk.names with rfl | ⟨x, hx⟩
      · exact R.notL
      · exact (R.own x a hx).2.2.1
    exact this (q ▸ List.mem_map.mpr ⟨p, hp, rfl⟩)
  have off : ∀ p ∈ c', p.1 ∉ ownOf env := fun p hp hm => by
    have h1 : p.1 ∈ cells.map (·.1) := hc ▸ List.mem_map.mpr ⟨p, hp, rfl⟩
    rcases mem_ownOf hm R.fk.names with e | ⟨x, hx⟩
    · exact R.notL (e ▸ h1)
    · exact (R.own x _ hx).2.2.1 h1
  refine ⟨⟨⟨(hideAll_le _ _).trans C.sub, fun p hp => ⟨(C.all p hp).1.hide ns (off p hp), fun m => ?_⟩, C.nodup⟩, R.fk, hideAll_none _ (.head _), hc ▸ R.notL, ?_, ?_, R.inj, R.names⟩, kg', fun v d r => r.hide ns⟩
  · cases e : (hideAll g' (ownOf env)).get? p.1 with
    | none => rfl
    | some o => have := hideAll_le _ _ _ _ e; rw [(C.all p hp).2 m] at this; cases this
  · obtain ⟨m, hn, hv⟩ := R.ns
    obtain ⟨o, es, ep, e, r⟩ := hn
    refine ⟨m, ⟨o, es, ep, up _ (.head _) _ e, r⟩, fun p hp => (hv p hp).up kg' (fun _ => rfl) fun c hc ov ⟨o, e, q⟩ => ⟨o, up c hc.mem o e, q⟩⟩
  · intro x c hx
    obtain ⟨_, a2, a3, ov, o, e, q⟩ := R.own x c hx
    exact ⟨hideAll_none _ hx.mem, a2, hc ▸ a3, ov, o, up c hx.mem o e, q⟩

/-! the contract of a callee -/
noncomputable def Fn (w : World) (k : Nat) (f : Value) (args : List D) (cells : Cls) (R : D → Cls → Prop) : Prop :=
  ∀ A g s vs Q, Low k A → Stat w g → CRel w g s.heap cells → RepAll g vs args →
    (∀ v g' h' tk' d c', Le g g' → CRel w g' h' c' → c'.map (·.1) = cells.map (·.1) → Rep g' v d → R d c' → Q v { s with heap := h', toks := tk' }) →
    wpAny (model PR w) A (call f vs) Q No s
/-- a built-in that makes new objects alone -/
noncomputable def BFn (w : World) (k : Nat) (f : Value) (args : List D) (d : D) : Prop := ∀ A g vs, Low k A → Stat w g → RepAll g vs args → PrV w A g (call f vs) d

section
variable {w : World} {env : Env} {k : Nat} {loc loc' : Loc} {cells : Cls}

theorem BFn.fn {f : Value} {args : List D} {d : D} {R : D → Cls → Prop} (h : BFn w k f args d) (hR : R d cells) : Fn w k f args cells R := by
  intro A g s vs Q hA S C r hQ
  refine h A g vs hA S r s Q C.sub fun v h' tk' hs p => ?_
  have kg : Le g (hideAll h' (muts cells)) := le_hideAll (C.sub.trans hs) fun a ha => by
    obtain ⟨p, hp, m, rfl⟩ := mem_muts ha
    exact (C.all p hp).2 m
  refine hQ v (hideAll h' (muts cells)) h' tk' d cells kg ⟨hideAll_le _ _, fun p hp => ⟨(C.all p hp).1.up kg fun o e => hs _ o e, fun m => hideAll_none _ (mem_muts' hp m)⟩, C.nodup⟩ rfl (p _ kg fun b o e1 e2 => hideAll_get _ e2 fun hm => ?_) hR
  obtain ⟨p, hp, m, rfl⟩ := mem_muts hm
  obtain ⟨o', e⟩ := (C.all p hp).1.some
  rw [e1] at e; cases e

theorem Tri.call {A : Around} {g₀ : Heap} {f : Value} {args : List D} {vs : List Value} {R : D → Cls → Prop} (h : Fn w k f args cells R) (hA : Low k A) (S : Stat w g₀) (r : RepAll g₀ vs args) :
    Tri w env A g₀ loc cells (call f vs) (fun g v l c => ∃ d, Rep g v d ∧ l = loc ∧ R d c) := by
  intro g s Q hg Rl hQ
  obtain ⟨C, kg⟩ := CRel.of Rl
  refine h A _ s vs Q hA (S.le (hg.trans kg)) C (r.le (hg.trans kg)) fun v g' h' tk' d c' kg' C' hc rv hR => ?_
  obtain ⟨R', k', up⟩ := Rl.back kg' C' hc
  exact hQ v _ h' tk' loc c' k' R' ⟨d, up v d rv, rfl, hR⟩

/-- a call of a def of the text -/
theorem EvC.call {f : Str} {fp pos : Pos} {e : Expr} {rest : List Expr} {a : Addr} {ds : List D} {R : D → Cls → Prop} (hf : Ev w env k loc cells (.Name f fp) (.val (.ref a))) (hk : keepIn (KF w) (.ref a) = true)
    (ha : EvL w env k loc cells (e :: rest) ds) (hF : Fn w k (.ref a) ds cells R)
    (he : starEach (e :: rest) env = (false, eval e env) :: starEach rest env := by rfl) (hplain : ∀ pos, (backTo pos (starEach rest env)).any (·.1) = false := by intro _; rfl) :
    EvC w env k loc cells (.Call (.Name f fp) (e :: rest) [] pos) R := by
  intro A g₀ hA S g s Q hg Rl hQ
  refine wpAny_Call_NameR (Tri.use3 (hf A g₀ hA S) hg Rl ?_)
  rintro v g1 h1 tk1 hg1 R1 rv
  (first | obtain ⟨_, rfl⟩ := Rep.inv rv | cases rv)
  refine callWith_K (S.le (hg.trans hg1)).X hk (Tri.use3 (ha A g1 pos hA (S.le (hg.trans hg1))) (Le.refl _) R1 ?_) he (hplain pos)
  rintro vs g2 h2 tk2 hg2 R2 rs
  refine ⟨((S.le (hg.trans hg1)).le (hg2.trans R2.c.sub)).X, ?_⟩
  refine Tri.call hF hA (S.le ((hg.trans hg1).trans hg2)) rs g2 _ Q (Le.refl _) R2 ?_
  rintro v g3 h3 tk3 l3 c3 hg3 R3 ⟨d, rd, rfl, hR⟩
  exact hQ v g3 h3 tk3 _ c3 ((hg1.trans hg2).trans hg3) R3 ⟨d, rd, rfl, hR⟩
/-- exactly one value, the cells as they were -/
theorem Ev.ofC {e : Expr} {d : D} (h : EvC w env k loc cells e (fun d' c => d' = d ∧ c = cells)) : Ev w env k loc cells e d := fun A g₀ hA S =>
  (h A g₀ hA S).mono fun _ _ _ _ _ ⟨_, r, e1, e2, e3⟩ => ⟨e2 ▸ r, e1, e3⟩

noncomputable def isC : Value → Prop
  | .builtin _ => True
  | .type _ => True
  | _ => False
theorem callWith_isC {A : Around} {s : Shared} {b : Value} {pos : Pos} {args : List (Bool × Sem Value)} {Q E : Value → Shared → Prop} (hb : isC b) (hp : args.any (·.1) = false)
    (h : wpAny (model PR w) A (evalArgs b true args []) (fun a s₁ => wpAny (model PR w) A (PySem.call b ([] ++ a.pos) a.kw) Q E s₁) E s) : wpAny (model PR w) A (callWith pos b [] args []) Q E s := by
  unfold isC at hb
  split at hb
  · exact callWith_builtin hp h
  · exact PyProof.Rows.callWith_type hp h
  · exact hb.elim
/-- a call of a built-in -/
theorem EvC.callB {f : Str} {fp pos : Pos} {e : Expr} {rest : List Expr} {b : Value} {ds : List D} {R : D → Cls → Prop} (hb : isC b) (hf : Ev w env k loc cells (.Name f fp) (.val b)) (ha : EvL w env k loc cells (e :: rest) ds) (hF : Fn w k b ds cells R)
    (he : starEach (e :: rest) env = (false, eval e env) :: starEach rest env := by rfl) (hplain : ∀ pos, (backTo pos (starEach rest env)).any (·.1) = false := by intro _; rfl) :
    EvC w env k loc cells (.Call (.Name f fp) (e :: rest) [] pos) R := by
  intro A g₀ hA S g s Q hg Rl hQ
  refine wpAny_Call_NameR (Tri.use3 (hf A g₀ hA S) hg Rl ?_)
  rintro v g1 h1 tk1 hg1 R1 rv
  (first | obtain ⟨_, rfl⟩ := Rep.inv rv | cases rv)
  have hb' : backTo pos (starEach (e :: rest) env) = (false, eval e env) :: backTo pos (starEach rest env) := by rw [he]; rfl
  have hp : (backTo pos (starEach (e :: rest) env)).any (·.1) = false := by rw [hb', List.any_cons, hplain]; rfl
  refine callWith_isC hb hp ?_
  rw [hb']
  refine evalArgs_plain ?_
  rw [← hb']
  refine Tri.use3 (ha A g1 pos hA (S.le (hg.trans hg1))) (Le.refl _) R1 ?_
  rintro vs g2 h2 tk2 hg2 R2 rs
  refine Tri.call hF hA (S.le ((hg.trans hg1).trans hg2)) rs g2 _ Q (Le.refl _) R2 ?_
  rintro v g3 h3 tk3 l3 c3 hg3 R3 ⟨d, rd, rfl, hR⟩
  exact hQ v g3 h3 tk3 _ c3 ((hg1.trans hg2).trans hg3) R3 ⟨d, rd, rfl, hR⟩
end
end
/-! F6 -/
section
theorem bindL_at (kindOf : Str → Option NameKind) (x : Str) : ∀ (b : List (Str × Value)) (m : Str → Option Value), (b.map (·.1)).Nodup →
    bindL kindOf b m x = match b.lookup x with | some v => if kindOf x = some .local then some v else m x | none => m x
  | [], m, _ => rfl
  | (n, v) :: r, m, hn => by
    rw [List.map_cons, List.nodup_cons] at hn
    rw [bindL, bindL_at kindOf x r _ hn.2, List.lookup_cons]
    by_cases e : x = n
    · subst e
      have hl : r.lookup x = none := by
        cases q : r.lookup x with
        | none => rfl
        | some u => exact absurd (List.mem_map.mpr ⟨(x, u), lookup_mem q, rfl⟩) hn.1
      rw [hl]
      simp only [beq_self_eq_true]
      split <;> simp_all
    · have : (x == n) = false := by simpa using e
      rw [this]
      cases r.lookup x with
      | some u => simp only; split <;> (try rfl); split <;> simp_all
      | none => simp only; split <;> simp_all
where
  lookup_mem {x : Str} : ∀ {r : List (Str × Value)} {u : Value}, r.lookup x = some u → (x, u) ∈ r
    | (n, v) :: r, u, h => by
      rw [List.lookup_cons] at h
      split at h
      · rename_i e
        have e' : x = n := by simpa using e
        cases h; subst e'; exact .head _
      · exact .tail _ (lookup_mem h)
theorem bindC_at (kindOf : Str → Option NameKind) (x : Str) : ∀ (b : List (Str × Value)) (m : Str → Option Value), (b.map (·.1)).Nodup →
    bindC kindOf b m x = match b.lookup x with | some v => if kindOf x = some .local then m x else some v | none => m x
  | [], m, _ => rfl
  | (n, v) :: r, m, hn => by
    rw [List.map_cons, List.nodup_cons] at hn
    rw [bindC, bindC_at kindOf x r _ hn.2, List.lookup_cons]
    by_cases e : x = n
    · subst e
      have hl : r.lookup x = none := by
        cases q : r.lookup x with
        | none => rfl
        | some u => exact absurd (List.mem_map.mpr ⟨(x, u), bindL_at.lookup_mem q, rfl⟩) hn.1
      rw [hl]
      simp only [beq_self_eq_true]
      split <;> simp_all
    · have : (x == n) = false := by simpa using e
      rw [this]
      cases r.lookup x with
      | some u => simp only; split <;> (try rfl); split <;> simp_all
      | none => simp only; split <;> simp_all

theorem repO_lookup {g : Heap} (x : Str) : ∀ {b : List (Str × Value)} {ps : List Str} {ds : List D}, b.map (·.1) = ps → RepAll g (b.map (·.2)) ds → RepO g (b.lookup x) ((ps.zip ds).lookup x)
  | [], _, _, rfl, .nil => trivial
  | (n, v) :: b, _, _, rfl, .cons (d := d) (ds := ds) h r => by
    rw [List.lookup_cons]
    show RepO g _ (((n, d) :: ((b.map (·.1)).zip ds)).lookup x)
    rw [List.lookup_cons]
    cases x == n with
    | true => exact h
    | false => exact repO_lookup x rfl r

theorem lookup_inj {x y : Str} {c : Addr} : ∀ {cs : List (Str × Addr)}, cs.Pairwise (fun p q => p.2 ≠ q.2) → cs.lookup x = some c → cs.lookup y = some c → x = y
  | (n, a) :: cs, hp, h1, h2 => by
    have mem : ∀ {z : Str}, cs.lookup z = some c → ∃ p ∈ cs, p.2 = c := by
      intro z
      clear hp h1 h2
      induction cs with
      | nil => intro h; cases h
      | cons p cs ih =>
        intro h
        rw [List.lookup_cons] at h
        split at h
        · cases h; exact ⟨p, .head _, rfl⟩
        · obtain ⟨q, hq, e⟩ := ih h; exact ⟨q, .tail _ hq, e⟩
    obtain ⟨hh, ht⟩ := List.pairwise_cons.mp hp
    rw [List.lookup_cons] at h1 h2
    split at h1
    · rename_i e1
      split at h2
      · rename_i e2
        have a1 : x = n := by simpa using e1
        have a2 : y = n := by simpa using e2
        rw [a1, a2]
      · cases h1
        obtain ⟨p, hp, e⟩ := mem h2
        exact absurd e.symm (hh p hp)
    · split at h2
      · cases h2
        obtain ⟨p, hp, e⟩ := mem h1
        exact absurd e.symm (hh p hp)
      · exact lookup_inj ht h1 h2

theorem Low.deeper {k : Nat} {A : Around} (h : Low (k + 1) A) (env : Env) : Low k (A.deeper env) :=
  ⟨h.handled, by have := h.depth; show A.depth + 1 + 10 * k < _; (first | lia | omega), by have := h.units; show A.units + 3 + 100 * k < _; (first | lia | omega)⟩
theorem Low.in1 {k : Nat} {A : Around} (h : Low (k + 1) A) : Low k A.in1 :=
  ⟨h.handled, by have := h.depth; show A.depth + 10 * k < _; (first | lia | omega), by have := h.units; show A.units + 1 + 100 * k < _; (first | lia | omega)⟩
theorem Low.le {k j : Nat} {A : Around} (h : Low k A) (hj : j ≤ k) : Low j A :=
  ⟨h.handled, by have := h.depth; (first | lia | omega), by have := h.units; (first | lia | omega)⟩
theorem Low.room {k : Nat} {A : Around} (h : Low k A) : A.depth < recursionLimit := by have := h.depth; (first | lia | omega)
theorem Low.c {k : Nat} {A : Around} (h : Low k A) : A.units < cLine := by have := h.units; (first | lia | omega)

/-- the state of a def's frame at its start -/
noncomputable def start (names ps : List Str) (ds : List D) : Loc := names.map fun x => (x, (ps.zip ds).lookup x)

/-- what stands at a def's end -/
noncomputable def Ends (cells : Cls) (R : D → Cls → Prop) : Post
  | .ret d, _, c => ∃ ex c0, c = ex ++ c0 ∧ c0.map (·.1) = cells.map (·.1) ∧ R d c0
  | .next, _, c => ∃ ex c0, c = ex ++ c0 ∧ c0.map (·.1) = cells.map (·.1) ∧ R .none c0
  | _, _, _ => False

theorem CRel.drop {w : World} {g h : Heap} {ex c0 : Cls} (C : CRel w g h (ex ++ c0)) : CRel w g h c0 :=
  ⟨C.sub, fun p hp => C.all p (List.mem_append_right _ hp), by have := C.nodup; rw [List.map_append] at this; exact (List.nodup_append.mp this).2.1⟩
end
/-! FT -/
section
theorem runs_toks {M : Model} {Γ : Ctx} {p : Pos} {t : Sem PySem.Fin} {fs : List Frame} {s s' : Shared} {e : End} (h : Runs M Γ p t fs s e s') : s.toks ≤ s'.toks := by
  induction h with
  | done | raise | yield => exact Nat.le_refl _
  | again _ _ ih | rule _ ih | «at» _ ih | load _ _ ih | loadIfAlive _ ih | point _ ih | ask _ ih | handled _ ih | genState _ _ ih | stack _ ih | thread _ ih => exact ih
  | update _ _ ih | alloc _ ih | choose _ _ ih | os _ ih | newGen _ ih => exact ih
  | fresh _ ih => exact Nat.le_trans (Nat.le_succ _) ih
  | call _ _ i1 i2 => exact Nat.le_trans i1 i2
  | callSusp _ ih => exact ih
  | resumeFresh _ _ _ _ i1 i2 => exact Nat.le_trans i1 i2
  | resumeSuspended _ _ _ _ i1 i2 => exact Nat.le_trans i1 i2
  | resumeJustStarted _ _ _ ih => exact ih
  | resumeThrowFresh _ _ ih => exact ih
  | resumeRunning _ _ ih => exact ih
  | resumeFinished _ _ ih => exact ih
  | segRet _ _ i1 i2 => exact Nat.le_trans i1 i2
  | segGen _ _ i1 i2 => exact Nat.le_trans i1 i2
  | segSuspOut _ _ ih => exact ih
  | segSuspGen _ _ _ _ i1 i2 => exact Nat.le_trans i1 i2

theorem wakes_toks {M : Model} {Γ : Ctx} {p : Pos} {g : Nat} {r : Resume} {s s' : Shared} {res : GenResult} (h : Wakes M Γ p g r s res s') : s.toks ≤ s'.toks := by
  unfold Wakes at h
  split at h
  · exact h.elim
  · split at h
    · obtain ⟨e₁, s₁, h1, _, _, rfl⟩ := h; have := runs_toks h1; exact this
    · rw [h.2]; exact Nat.le_refl _
    · rw [h.2]; exact Nat.le_refl _
  · obtain ⟨e₁, s₁, h1, _, _, rfl⟩ := h; have := runs_toks h1; exact this
  · rw [h.2]; exact Nat.le_refl _
  · rw [h.2]; exact Nat.le_refl _

theorem wp_toks {α : Type} {M : Model} {Γ : Ctx} {Q : α → Pos → Shared → Prop} {E : Value → Pos → Shared → Prop} {n : Nat} : ∀ (t : Sem α) (p : Pos) (s : Shared), n ≤ s.toks → Sem.wp M Γ t Q E p s → Sem.wp M Γ t (fun a p' s' => n ≤ s'.toks ∧ Q a p' s') E p s := by
  intro t
  induction t with
  | pure a => intro p s hn h; rw [Sem.wp] at h ⊢; exact ⟨hn, h⟩
  | raise e => intro p s hn h; rw [Sem.wp] at h ⊢; exact h
  | load a part k ih => intro p s hn h; rw [Sem.wp] at h ⊢; obtain ⟨o, e, h⟩ := h; exact ⟨o, e, ih o p s hn h⟩
  | update a part f k ih => intro p s hn h; rw [Sem.wp] at h ⊢; exact ⟨h.1, ih () p _ hn h.2⟩
  | fresh k ih => intro p s hn h; rw [Sem.wp] at h ⊢; exact ih _ p _ (Nat.le_trans hn (Nat.le_succ _)) h
  | choose src m k ih => intro p s hn h; rw [Sem.wp] at h ⊢; exact ⟨h.1, ih _ p _ hn h.2⟩
  | call c h' g l k ih =>
    intro p s hn h
    rw [Sem.wp] at h ⊢
    obtain ⟨r, s', hr, h⟩ := h
    exact ⟨r, s', hr, ih r p s' (Nat.le_trans hn (runs_toks hr)) h⟩
  | genState g k ih => intro p s hn h; rw [Sem.wp] at h ⊢; obtain ⟨st, e, h⟩ := h; exact ⟨st, e, ih _ p s hn h⟩
  | resume g r l k ih =>
    intro p s hn h
    rw [Sem.wp] at h ⊢
    obtain ⟨res, s', hr, h⟩ := h
    exact ⟨res, s', hr, ih res p s' (Nat.le_trans hn (wakes_toks hr)) h⟩
  | _ => intro p s hn h; rw [Sem.wp] at h ⊢; first | exact h | (rename_i ih; exact ih _ _ _ hn h)

theorem wpAny_toks {α : Type} {M : Model} {A : Around} {t : Sem α} {Q : α → Shared → Prop} {E : Value → Shared → Prop} {s : Shared} (h : wpAny M A t Q E s) : wpAny M A t (fun a s' => s.toks ≤ s'.toks ∧ Q a s') E s :=
  fun Γ p hΓ => wp_toks t p s (Nat.le_refl _) (h Γ p hΓ)
end
/-! F7 -/
section
section
variable {w : World} {env : Env} {k : Nat} {loc loc' : Loc} {cells : Cls} {R : Post}

theorem Low.mark {k : Nat} {A : Around} (h : Low k A) : Low k (A.mark none) := ⟨by show (none : Option Value).or A.handled = none; rw [h.handled]; rfl, h.depth, h.units⟩

/-! iterators -/
noncomputable abbrev Kept (own : List Addr) (h h' : Heap) : Prop := ∀ b o, b ∉ own → h.get? b = some o → h'.get? b = some o
structure ItS (w : World) (A : Around) (target : Expr) (it : Value) (own fin : List Addr) (items : List D) (St : Nat → Heap → Prop) (g₀ : Heap) : Prop where
  data : ∀ i h, St i h → ∀ a ∈ own, ∃ o, h.get? a = some o
  stay : ∀ i h h', St i h → (∀ a ∈ own, ∀ o, h.get? a = some o → h'.get? a = some o) → Le g₀ h' → St i h'
  next : ∀ i d s (Q : Value → Shared → Prop), items[i]? = some d → St i s.heap → Le g₀ s.heap →
    (∀ v h' tk', Kept own s.heap h' → (∀ g', Le g₀ g' → NewIn s.heap h' g' → Rep g' v d) → St (i + 1) h' → Q v { s with heap := h', toks := tk' }) →
    wpAny (model PR w) A (pyNext it) (fun r s₁ => match r with | none => False | some v => wpAny (model PR w) A (letOwnedTupleGo target it v) (fun _ s₂ => Q v s₂) No s₁) No s
  done : ∀ s (Q : Shared → Prop), St items.length s.heap → Le g₀ s.heap → (∀ h' tk', Kept own s.heap h' → (∀ a ∈ fin, ∀ o, s.heap.get? a = some o → h'.get? a = some o) → Q { s with heap := h', toks := tk' }) →
    wpAny (model PR w) A (pyNext it) (fun r s₁ => match r with | none => Q s₁ | some _ => False) No s
  self : ∀ i s (Q : Value → Shared → Prop), St i s.heap → Le g₀ s.heap → Q it s → wpAny (model PR w) A (pyIter it) Q No s
noncomputable def ItD (own : List Addr) (St : Nat → Heap → Prop) : Prop := ∀ i h, St i h → ∀ a ∈ own, ∃ o vs, h.get? a = some o ∧ o.data = .fields vs
theorem ItS.le {A : Around} {target : Expr} {it : Value} {own fin : List Addr} {items : List D} {St : Nat → Heap → Prop} {g g' : Heap} (I : ItS w A target it own fin items St g) (kg : Le g g') : ItS w A target it own fin items St g' :=
  ⟨I.data, fun i h h' a b c => I.stay i h h' a b (kg.trans c), fun i d s Q a b c q => I.next i d s Q a b (kg.trans c) fun v h' tk' x y z => q v h' tk' x (fun g'' hg n => y g'' (kg.trans hg) n) z,
    fun s Q a b q => I.done s Q a (kg.trans b) q, fun i s Q a b q => I.self i s Q a (kg.trans b) q⟩

/-- the addresses are no one's of the frame -/
noncomputable def Apart (env : Env) (cells : Cls) (own : List Addr) : Prop := ∀ a ∈ own, a ∉ ownOf env ∧ a ∉ cells.map (·.1)
theorem Apart.muts {own : List Addr} (h : Apart env cells own) : ∀ a ∈ own, a ∉ ownOf env ++ Mine.muts cells := fun a ha hm => by
  rcases List.mem_append.mp hm with hm | hm
  · exact (h a ha).1 hm
  · obtain ⟨p, hp, _, rfl⟩ := mem_muts hm; exact (h p.1 ha).2 (List.mem_map.mpr ⟨p, hp, rfl⟩)

/-- what an iterator leaves behind -/
noncomputable abbrev Fins := List (Addr × C)
noncomputable def FinOk (w : World) (g₀ : Heap) (own : List Addr) (items : List D) (St : Nat → Heap → Prop) (fin : Fins) : Prop := ∀ p ∈ fin, p.1 ∈ own ∧ ∀ g' h, Le g₀ g' → St items.length h → CellIs w g' h p.1 p.2
/-- iteration over what an expression gives -/
noncomputable def ItZ (w : World) (env : Env) (k : Nat) (loc : Loc) (cells0 cells : Cls) (fin : Fins) (target e : Expr) (items : List D) : Prop :=
  ∀ A g₀, Low k A → Stat w g₀ → ∀ g s (Q : Value → Shared → Prop), Le g₀ g → Rel w env g s.heap loc cells0 →
    (∀ it own St g' h' tk', Le g g' → Rel w env g' h' loc cells → (∀ a ∈ own, g'.get? a = none) → Apart env cells own → FinOk w g' own items St fin → (∀ A', Low k A' → ItS w A' target it own (fin.map (·.1)) items St g') → St 0 h' → Q it { s with heap := h', toks := tk' }) →
    wpAny (model PR w) A (eval e env) (fun x s₁ => wpAny (model PR w) A (pyIter x) Q No s₁) No s

/-- iteration over what an expression gives -/
noncomputable def ItE (w : World) (env : Env) (k : Nat) (loc : Loc) (cells0 cells : Cls) (fin : Fins) (target e : Expr) (items : List D) : Prop :=
  ∀ A g₀, Low k A → Stat w g₀ → ∀ g s (Q : Value → Shared → Prop), Le g₀ g → Rel w env g s.heap loc cells0 →
    (∀ it own St g' h' tk', Le g g' → Rel w env g' h' loc cells → (∀ a ∈ own, g'.get? a = none) → Apart env cells own → ItD own St → FinOk w g' own items St fin → (∀ A', Low k A' → ItS w A' target it own (fin.map (·.1)) items St g') → St 0 h' → Q it { s with heap := h', toks := tk' }) →
    wpAny (model PR w) A (eval e env) (fun x s₁ => wpAny (model PR w) A (pyIter x) Q No s₁) No s

theorem ItE.z {cells0 : Cls} {fin : Fins} {target e : Expr} {items : List D} (h : ItE w env k loc cells0 cells fin target e items) : ItZ w env k loc cells0 cells fin target e items :=
  fun A g₀ hA S g s Q hg Rl hQ => h A g₀ hA S g s Q hg Rl fun it own St g' h' tk' a1 a2 a3 a4 _ a6 a7 a8 => hQ it own St g' h' tk' a1 a2 a3 a4 a6 a7 a8
theorem Rel.hideIt {g h : Heap} {own : List Addr} (Rl : Rel w env g h loc cells) (hd : ∀ a ∈ own, ∃ o vs, h.get? a = some o ∧ o.data = .fields vs) (ap : Apart env cells own) :
    Rel w env (hideAll g own) h loc cells ∧ ∀ v d, Rep g v d → Rep (hideAll g own) v d := by
  have ns : NoSeq g own := fun a ha o e xs n q => by
    obtain ⟨o', vs, e1, e2⟩ := hd a ha
    rw [Rl.c.sub _ _ e] at e1; cases e1; rw [q] at e2; cases e2
  have nc : ∀ c ov, g.IsCell c ov → (hideAll g own).IsCell c ov := fun c ov ⟨o, e, q⟩ => ⟨o, hideAll_get _ e (fun hm => by
    obtain ⟨o', vs, e1, e2⟩ := hd c hm
    rw [Rl.c.sub _ _ e] at e1; cases e1; rw [q] at e2; cases e2), q⟩
  have none : ∀ a, g.get? a = none → (hideAll g own).get? a = none := fun a e => by
    cases q : (hideAll g own).get? a with
    | none => rfl
    | some o => have := hideAll_le _ _ _ _ q; rw [e] at this; cases this
  obtain ⟨m, hn, hv⟩ := Rl.ns
  refine ⟨⟨⟨(hideAll_le _ _).trans Rl.c.sub, fun p hp => ⟨(Rl.c.all p hp).1.hide ns fun hm => (ap _ hm).2 (List.mem_map.mpr ⟨p, hp, rfl⟩), fun m => none _ ((Rl.c.all p hp).2 m)⟩, Rl.c.nodup⟩, Rl.fk, none _ Rl.newL, Rl.notL, ⟨m, hn, fun p hp => ?_⟩, fun x c hc => ?_, Rl.inj, Rl.names⟩, fun v d r => r.hide ns⟩
  · have v := hv p hp
    have up : ∀ {ov od}, RepO g ov od → RepO (hideAll g own) ov od := fun {ov od} r => by
      cases ov <;> cases od <;> first | exact r | exact Rep.hide ns r
    unfold VarIs at v ⊢
    split at v
    · exact up v
    · obtain ⟨c, ov, a, b, r⟩ := v; exact ⟨c, ov, a, b, up r⟩
    · obtain ⟨c, ov, a, b, r⟩ := v; exact ⟨c, ov, a, nc c ov b, up r⟩
    · exact v
  · obtain ⟨a, b, c', d⟩ := Rl.own x c hc
    exact ⟨none _ a, b, c', d⟩

end
end
/-! F24 -/
section
/-! many at once: one constructor in place of many -/
inductive E5 {α β γ δ ε : Type} (p : α → β → γ → δ → ε → Prop) : Prop
  | mk (x0 : α) (x1 : β) (x2 : γ) (x3 : δ) (x4 : ε) (h : p x0 x1 x2 x3 x4) : E5 p
inductive E7 {α β γ δ ε ζ η : Type} (p : α → β → γ → δ → ε → ζ → η → Prop) : Prop
  | mk (x0 : α) (x1 : β) (x2 : γ) (x3 : δ) (x4 : ε) (x5 : ζ) (x6 : η) (h : p x0 x1 x2 x3 x4 x5 x6) : E7 p
inductive A8 (p0 p1 p2 p3 p4 p5 p6 p7 : Prop) : Prop
  | mk (h0 : p0) (h1 : p1) (h2 : p2) (h3 : p3) (h4 : p4) (h5 : p5) (h6 : p6) (h7 : p7) : A8 p0 p1 p2 p3 p4 p5 p6 p7
inductive A10 (p0 p1 p2 p3 p4 p5 p6 p7 p8 p9 : Prop) : Prop
  | mk (h0 : p0) (h1 : p1) (h2 : p2) (h3 : p3) (h4 : p4) (h5 : p5) (h6 : p6) (h7 : p7) (h8 : p8) (h9 : p9) : A10 p0 p1 p2 p3 p4 p5 p6 p7 p8 p9
/-! judgements that know a lower bound of the tokens to come -/
noncomputable abbrev PostT := Fl → Nat → Loc → Cls → Prop
noncomputable def ExT (w : World) (env : Env) (k N : Nat) (loc : Loc) (cells : Cls) (st : Stmt) (R : PostT) : Prop :=
  ∀ A g₀, Low k A → Stat w g₀ → ∀ g s (Q : Flow → Shared → Prop), Le g₀ g → N ≤ s.toks → Rel w env g s.heap loc cells →
    (∀ f g' h' tk' l' c' fl, Le g g' → Rel w env g' h' l' c' → FlIs g' f fl → R fl tk' l' c' → Q f { s with heap := h', toks := tk' }) → wpAny (model PR w) A (exec st env) Q No s
noncomputable def ExsT (w : World) (env : Env) (k N : Nat) (loc : Loc) (cells : Cls) (ss : List Stmt) (R : PostT) : Prop :=
  ∀ A g₀, Low k A → Stat w g₀ → ∀ g s (Q : Flow → Shared → Prop), Le g₀ g → N ≤ s.toks → Rel w env g s.heap loc cells →
    (∀ f g' h' tk' l' c' fl, Le g g' → Rel w env g' h' l' c' → FlIs g' f fl → R fl tk' l' c' → Q f { s with heap := h', toks := tk' }) → wpAny (model PR w) A (execs ss env) Q No s
noncomputable def EvT (w : World) (env : Env) (k N : Nat) (loc : Loc) (cells : Cls) (e : Expr) (R : D → Nat → Cls → Prop) : Prop :=
  ∀ A g₀, Low k A → Stat w g₀ → ∀ g s (Q : Value → Shared → Prop), Le g₀ g → N ≤ s.toks → Rel w env g s.heap loc cells →
    (∀ v g' h' tk' c' d, Le g g' → Rel w env g' h' loc c' → Rep g' v d → R d tk' c' → Q v { s with heap := h', toks := tk' }) → wpAny (model PR w) A (eval e env) Q No s
noncomputable def FnT (w : World) (k N : Nat) (f : Value) (args : List D) (cells : Cls) (R : D → Nat → Cls → Prop) : Prop :=
  ∀ A g s vs Q, Low k A → Stat w g → CRel w g s.heap cells → RepAll g vs args → N ≤ s.toks →
    (∀ v g' h' tk' d c', Le g g' → CRel w g' h' c' → c'.map (·.1) = cells.map (·.1) → Rep g' v d → R d tk' c' → Q v { s with heap := h', toks := tk' }) →
    wpAny (model PR w) A (call f vs) Q No s
noncomputable def EndsT (cells : Cls) (R : D → Nat → Cls → Prop) : PostT
  | .ret d, tk, _, c => ∃ ex c0, c = ex ++ c0 ∧ c0.map (·.1) = cells.map (·.1) ∧ R d tk c0
  | .next, tk, _, c => ∃ ex c0, c = ex ++ c0 ∧ c0.map (·.1) = cells.map (·.1) ∧ R .none tk c0
  | _, _, _, _ => False

section
variable {w : World} {env : Env} {k N : Nat} {loc : Loc} {cells : Cls}
theorem ExT.lift {st : Stmt} {R : PostT} {R0 : Post} (h : Ex w env k loc cells st R0) (hR : ∀ fl l c tk, N ≤ tk → R0 fl l c → R fl tk l c) : ExT w env k N loc cells st R := by
  intro A g₀ hA S g s Q hg hN Rl hQ
  refine wpAny_mono (wpAny_toks (h A g₀ hA S g s (fun f s' => ∃ g' h' tk' l' c' fl, s' = { s with heap := h', toks := tk' } ∧ Le g g' ∧ Rel w env g' h' l' c' ∧ FlIs g' f fl ∧ R0 fl l' c') hg Rl
    fun f g' h' tk' l' c' x y ⟨fl, z, u⟩ => ⟨g', h', tk', l', c', fl, rfl, x, y, z, u⟩)) ?_ fun _ _ q => q
  rintro f s' ⟨ht, g', h', tk', l', c', fl, rfl, x, y, z, u⟩
  exact hQ f g' h' tk' l' c' fl x y z (hR _ _ _ _ (Nat.le_trans hN ht) u)
theorem ExsT.lift {ss : List Stmt} {R : PostT} {R0 : Post} (h : Exs w env k loc cells ss R0) (hR : ∀ fl l c tk, N ≤ tk → R0 fl l c → R fl tk l c) : ExsT w env k N loc cells ss R := by
  intro A g₀ hA S g s Q hg hN Rl hQ
  refine wpAny_mono (wpAny_toks (h A g₀ hA S g s (fun f s' => ∃ g' h' tk' l' c' fl, s' = { s with heap := h', toks := tk' } ∧ Le g g' ∧ Rel w env g' h' l' c' ∧ FlIs g' f fl ∧ R0 fl l' c') hg Rl
    fun f g' h' tk' l' c' x y ⟨fl, z, u⟩ => ⟨g', h', tk', l', c', fl, rfl, x, y, z, u⟩)) ?_ fun _ _ q => q
  rintro f s' ⟨ht, g', h', tk', l', c', fl, rfl, x, y, z, u⟩
  exact hQ f g' h' tk' l' c' fl x y z (hR _ _ _ _ (Nat.le_trans hN ht) u)
theorem ExsT.nil {R : PostT} (h : ∀ tk, N ≤ tk → R .next tk loc cells) : ExsT w env k N loc cells [] R := fun _ _ _ _ g s Q _ hN Rl hQ =>
  wpAny_execs_nil (hQ .next g s.heap s.toks loc cells .next (Le.refl _) Rl trivial (h _ hN))
noncomputable def BehindT (w : World) (env : Env) (k : Nat) (ss : List Stmt) (R : PostT) : PostT
  | .next, tk, l, c => ExsT w env k tk l c ss R
  | f, tk, l, c => R f tk l c
theorem ExsT.cons {st : Stmt} {ss : List Stmt} {R : PostT} (h : ExT w env k N loc cells st (BehindT w env k ss R)) : ExsT w env k N loc cells (st :: ss) R := by
  intro A g₀ hA S g s Q hg hN Rl hQ
  refine wpAny_execs_cons (h A g₀ hA S g s _ hg hN Rl ?_)
  rintro f g1 h1 tk1 l1 c1 fl hg1 R1 hf hB
  cases f with
  | next =>
    cases fl with
    | next => exact hB A g1 hA (S.le (hg.trans hg1)) g1 _ Q (Le.refl _) (Nat.le_refl _) R1 fun a g' h' tk' l' c' fl x y z u => hQ a g' h' tk' l' c' fl (hg1.trans x) y z u
    | _ => exact hf.elim
  | brk => cases fl with
    | brk => exact hQ _ g1 h1 tk1 _ _ _ hg1 R1 hf hB
    | _ => exact hf.elim
  | cont => cases fl with
    | cont => exact hQ _ g1 h1 tk1 _ _ _ hg1 R1 hf hB
    | _ => exact hf.elim
  | ret v => cases fl with
    | ret d => exact hQ _ g1 h1 tk1 _ _ _ hg1 R1 hf hB
    | _ => exact hf.elim
theorem ExT.assign {x : Str} {p pos : Pos} {e : Expr} {R : PostT} (h : EvT w env k N loc cells e (fun d tk c => ∃ l', Put x d loc l' ∧ ∀ tk', tk ≤ tk' → R .next tk' l' c)) (hk : env.kindOf x ≠ some .free)
    (hs : swapsWith e (some (.Name x p)) pos.line env = pure false := by rfl) : ExT w env k N loc cells (.Assign [.Name x p] e pos) R := by
  intro A g₀ hA S g s Q hg hN Rl hQ
  refine wpAny_Assign_Name (h A g₀ hA S g s _ hg hN Rl ?_) hs
  rintro v g1 h1 tk1 c1 d hg1 R1 rv ⟨l', hp, hr⟩
  refine wpAny_mono (wpAny_toks (Tri.store hp hk rv g1 _ (fun _ s' => ∃ g' h' tk', s' = { s with heap := h', toks := tk' } ∧ Le g1 g' ∧ Rel w env g' h' l' c1) (Le.refl _) R1 fun _ g' h' tk' l c x y ⟨e1, e2⟩ => ⟨g', h', tk', rfl, x, e1 ▸ e2 ▸ y⟩)) ?_ fun _ _ q => q
  rintro _ s' ⟨ht, g2, h2, tk2, rfl, hg2, R2⟩
  exact hQ _ g2 h2 tk2 _ _ .next (hg1.trans hg2) R2 trivial (hr _ ht)
theorem ExT.ite {test : Expr} {body orelse : List Stmt} {pos : Pos} {b : Bool} {R : PostT} (ht : Tr w env k loc cells test b) (h1 : b = true → ExsT w env k N loc cells body R) (h2 : b = false → ExsT w env k N loc cells orelse R) :
    ExT w env k N loc cells (.If test body orelse pos) R := by
  intro A g₀ hA S g s Q hg hN Rl hQ
  refine wpAny_If (wpAny_mono (wpAny_toks (ht A g₀ hA S g s (fun c s' => ∃ g' h' tk', c = b ∧ s' = { s with heap := h', toks := tk' } ∧ Le g g' ∧ Rel w env g' h' loc cells) hg Rl fun c g' h' tk' l c' x y ⟨e0, e1, e2⟩ => ⟨g', h', tk', e0, rfl, x, e1 ▸ e2 ▸ y⟩)) ?_ fun _ _ q => q)
  rintro c s' ⟨hm, g1, h1', tk1, rfl, rfl, hg1, R1⟩
  cases c with
  | true => exact h1 rfl A g1 hA (S.le (hg.trans hg1)) g1 _ Q (Le.refl _) (Nat.le_trans hN hm) R1 fun a g' h' tk' l' c' fl x y z u => hQ a g' h' tk' l' c' fl (hg1.trans x) y z u
  | false => exact h2 rfl A g1 hA (S.le (hg.trans hg1)) g1 _ Q (Le.refl _) (Nat.le_trans hN hm) R1 fun a g' h' tk' l' c' fl x y z u => hQ a g' h' tk' l' c' fl (hg1.trans x) y z u
end

set_option maxHeartbeats 1000000 in
theorem FnT.def {w : World} {k : Nat} {f : Addr} {oc : Value} {od : Option Addr} {name qual : Str} {params : Arguments} {body : List Stmt} {scope : Scope} {dV kV doc pm cdv ct : Value} {an : Option Addr} {osl : Array (Option Value)}
    {args ds : List D} {cells : Cls} {R : D → Nat → Cls → Prop} {N : Nat} (names ps : List Str)
    (ho : (KF w).lookup f = some ⟨oc, od, .func (fnOf name qual params body scope dV kV doc pm an cdv ct), osl⟩) (hcd : codeIn (KF w) cdv qual = true)
    (hb : ∀ A g vs, Stat w g → RepAll g vs args → Pr w A g (bindArgs (fnOf name qual params body scope dV kV doc pm an cdv ct) ⟨vs, []⟩) (fun g' b => b.map (·.1) = ps ∧ RepAll g' (b.map (·.2)) ds))
    (hps : ps.Nodup ∧ ∀ x ∈ ps, scope.names.lookup x = some .local ∨ scope.names.lookup x = some .cell)
    (hnm : names.Nodup ∧ (∀ x ∈ names, (scope.names.lookup x = some .local ∨ scope.names.lookup x = some .cell)) ∧ (scope.names.map (·.1)).Nodup ∧ ∀ x ∈ names, (x == ("__debug__" : Str)) = false ∧ (x == ("__classdict__" : Str)) = false)
    (hsc : scope.isCoroutine = false ∧ scope.isGenerator = false ∧ scope.kind = .function)
    (h : ∀ env, env.scope = scope → env.globals = mainGlobals → env.builtins = builtinsNs → ExsT w env k N (start names ps ds) cells body (EndsT cells R)) : FnT w (k + 1) N (.ref f) args cells R := by
  intro A g s vs Q hA S C rv hN hQ
  have hX := (S.le C.sub).X
  refine wpAny_call (codeAny_call_function hA.room (hX _ _ ho) rfl hsc.1 hsc.2.1 rfl (codeRec_of hX hcd) ?_)
  refine wpAny_mono (wpAny_toks (hb A.in1 g vs S rv s (fun (binds : List (Str × Value)) (s₁ : Shared) => ∃ h1 tk1, s₁ = { s with heap := h1, toks := tk1 } ∧ Le s.heap h1 ∧ ∀ g', Le g g' → NewIn s.heap h1 g' → binds.map (·.1) = ps ∧ RepAll g' (binds.map (·.2)) ds) C.sub
    fun binds h1 tk1 k1 p1 => ⟨h1, tk1, rfl, k1, p1⟩)) ?_ (fun _ _ q => q.elim)
  rintro binds s₁ ⟨ht1, h1, tk1, rfl, k1, p1⟩
  -- what the callee knows
  have kg : Le g (hideAll h1 (muts cells)) := le_hideAll (C.sub.trans k1) fun a ha => by
    obtain ⟨p, hp, m, rfl⟩ := mem_muts ha
    exact (C.all p hp).2 m
  have nw : NewIn s.heap h1 (hideAll h1 (muts cells)) := fun b o e1 e2 => hideAll_get _ e2 fun hm => by
    obtain ⟨p, hp, m, rfl⟩ := mem_muts hm
    obtain ⟨o', e⟩ := (C.all p hp).1.some
    rw [e1] at e; cases e
  obtain ⟨hfst, hrep⟩ := p1 _ kg nw
  have C1 : CRel w (hideAll h1 (muts cells)) h1 cells := ⟨hideAll_le _ _, fun p hp => ⟨(C.all p hp).1.up kg fun o e => k1 _ o e, fun m => hideAll_none _ (mem_muts' hp m)⟩, C.nodup⟩
  generalize hg1 : hideAll h1 (muts cells) = g1 at kg nw hrep C1
  have S1 : Stat w g1 := S.le kg
  have hkind : ∀ n, ∀ x ∈ binds, scope.names.lookup x.1 = some .local ∨ (scope.names.lookup x.1 = some .cell ∧ ((cellsFrom n scope.names []).lookup x.1).isSome = true) := fun n x hx => by
    have hm : x.1 ∈ ps := hfst ▸ List.mem_map.mpr ⟨x, hx, rfl⟩
    rcases hps.2 _ hm with e | e
    · exact .inl e
    · exact .inr ⟨e, cellsFrom_some _ _ _ (.inl e)⟩
  refine wpAny_mono (wpAny_toks (wpAny_newFunctionEnv_cells hsc.2.2 (hkind _) fun env' he s' x => And.intro he x)) ?_ (fun _ _ q => q)
  rintro env' s' ⟨ht2, he, x⟩
  obtain ⟨h2, tk2, rfl, k2⟩ := x.done
  have hL : env'.locals = h1.objs.size := by rw [he]; rfl
  have hcl : env'.cells = cellsFrom (h1.objs.size + 1) scope.names [] := by rw [he]; rfl
  have hs : env'.scope = scope := by rw [he]; rfl
  have fresh : ∀ c, h1.objs.size ≤ c → g1.get? c = none ∧ c ∉ cells.map (·.1) := fun c hc => by
    refine ⟨?_, fun hm => ?_⟩
    · cases e : g1.get? c with
      | none => rfl
      | some o => exact absurd (Heap.lt_size (C1.sub _ _ e)) (Nat.not_lt.mpr hc)
    · obtain ⟨p, hp, rfl⟩ := List.mem_map.mp hm
      obtain ⟨o, e⟩ := (C1.all p hp).1.some
      exact absurd (Heap.lt_size e) (Nat.not_lt.mpr hc)
  have hlt : ∀ y c, CellAt env' y c → h1.objs.size < c := fun y c hc => by
    have : (y, c) ∈ env'.cells := by
      have := hc.2
      generalize env'.cells = l at this
      induction l with
      | nil => cases this
      | cons q l ih =>
        rw [List.lookup_cons] at this
        split at this
        · rename_i e
          have e' : y = q.1 := by simpa using e
          cases this; subst e'; exact .head _
        · exact .tail _ (ih this)
    have := x.above y c this
    rw [hL] at this
    exact this
  have nb : (binds.map (·.1)).Nodup := hfst ▸ hps.1
  have Rl : Rel w env' g1 h2 (start names ps ds) cells := by
    refine ⟨⟨C1.sub.trans k2, fun p hp => ⟨(C1.all p hp).1.up (Le.refl _) fun o e => k2 _ o e, (C1.all p hp).2⟩, C1.nodup⟩, ?_, ?_, ?_, ⟨_, x.toInCall.ns, ?_⟩, ?_, ?_, ?_⟩
    · refine ⟨hs ▸ hsc.2.2, by rw [he]; rfl, by rw [he]; rfl, hs ▸ hnm.2.2.1, fun p hp => ?_⟩
      obtain ⟨y, hy, rfl⟩ := List.mem_map.mp hp
      exact hnm.2.2.2 y hy
    · rw [hL]; exact (fresh _ (Nat.le_refl _)).1
    · rw [hL]; exact (fresh _ (Nat.le_refl _)).2
    · intro p hp
      obtain ⟨y, hy, rfl⟩ := List.mem_map.mp hp
      have rep := repO_lookup (g := g1) y hfst hrep
      have hky : env'.kindOf y = scope.names.lookup y := by unfold Env.kindOf; rw [hs]
      unfold VarIs
      rcases hnm.2.1 y hy with e | e
      · rw [hky, e]
        show RepO g1 (bindL env'.kindOf binds (fun _ => none) y) _
        rw [bindL_at _ _ _ _ nb, hky, e]
        cases q : binds.lookup y with
        | none => rw [q] at rep; exact rep
        | some u => rw [q] at rep; simpa using rep
      · rw [hky, e]
        have : (env'.cells.lookup y).isSome = true := by rw [hcl]; exact cellsFrom_some _ _ _ (.inl e)
        obtain ⟨c, hc⟩ := Option.isSome_iff_exists.mp this
        refine ⟨c, _, hc, x.cell y c hc, ?_⟩
        rw [bindC_at _ _ _ _ nb, hky, e]
        cases q : binds.lookup y with
        | none => rw [q] at rep; exact rep
        | some u => rw [q] at rep; simpa using rep
    · intro y c hc
      have l1 := hlt y c hc
      have f1 := fresh c (Nat.le_of_lt l1)
      exact ⟨f1.1, fun e => by rw [hL] at e; exact absurd e (Nat.ne_of_gt l1), f1.2, _, x.cell y c hc.2⟩
    · intro y z c h1 h2
      exact lookup_inj x.apart h1.2 h2.2
    · show ((names.map fun x => (x, (ps.zip ds).lookup x)).map (·.1)).Nodup
      rw [List.map_map]
      have : (((fun p : Str × Option D => p.1) ∘ fun x => (x, (ps.zip ds).lookup x)) : Str → Str) = id := rfl
      rw [this, List.map_id]
      exact hnm.1
  refine ⟨(S1.le (C1.sub.trans k2)).nolimit, codeAny_func (wpAny_mono (h env' hs (by rw [he]; rfl) (by rw [he]; rfl) _ g1 (hA.deeper env') S1 g1 _ (fun (fl : Flow) (s' : Shared) => Q (match fl with | .ret v => v | _ => .none) s') (Le.refl _) (Nat.le_trans hN (Nat.le_trans ht1 ht2)) Rl ?_) (fun _ _ q => q) (fun _ _ q => q.elim))⟩
  rintro fl g' h' tk' l' c' fd kg' R' hfl hE
  have fin : ∀ (v : Value) (d : D), Rep g' v d → (∃ ex c0, c' = ex ++ c0 ∧ c0.map (·.1) = cells.map (·.1) ∧ R d tk' c0) → Q v { s with heap := h', toks := tk' } := by
    rintro v d rvd ⟨ex, c0, rfl, e, hR⟩
    exact hQ v g' h' tk' d c0 (kg.trans kg') R'.c.drop e rvd hR
  cases fl with
  | ret v => cases fd with
    | ret d => exact fin v d hfl hE
    | _ => exact hfl.elim
  | next => cases fd with
    | next => exact fin .none .none .none hE
    | _ => exact hfl.elim
  | brk => cases fd <;> first | exact hfl.elim | exact hE.elim
  | cont => cases fd <;> first | exact hfl.elim | exact hE.elim
end
/-! F27 -/
section
section
variable {w : World} {env : Env} {k N : Nat} {loc loc' : Loc} {cells : Cls} {R : PostT}

set_option maxHeartbeats 1000000 in
theorem ExT.while {test : Expr} {body : List Stmt} {pos : Pos} (Inv : Nat → Nat → Loc → Cls → Prop) (n : Nat) (h0 : Inv n N loc cells)
    (turn : ∀ n tk l c, Inv n tk l c → ∃ b, Tr w env k l c test b ∧ (b = true → ExsT w env k tk l c body (fun f tk' l' c' => match f with
      | .next => ∃ m, m < n ∧ Inv m tk' l' c'
      | .cont => ∃ m, m < n ∧ Inv m tk' l' c'
      | .brk => R .next tk' l' c'
      | .ret d => R (.ret d) tk' l' c')) ∧ (b = false → ∀ tk', tk ≤ tk' → R .next tk' l c)) : ExT w env k N loc cells (.While test body [] pos) R := by
  intro A g₀ hA S g s Q hg hN Rl hQ
  refine wpAny_While (codeAny_whileLoop (fun n s' => ∃ g' h' tk' l c tb, s' = { s with heap := h', toks := tk' } ∧ tb ≤ tk' ∧ Le g g' ∧ Rel w env g' h' l c ∧ Inv n tb l c) ?_ n ⟨g, s.heap, s.toks, loc, cells, N, rfl, hN, Le.refl _, Rl, h0⟩)
  rintro n s' ⟨g1, h1, tk1, l1, c1, tb, rfl, hb1, hg1, R1, hI⟩
  obtain ⟨b, ht, hb, hd⟩ := turn n tb l1 c1 hI
  refine wpAny_mono (wpAny_toks (ht (A.mark none) g₀ hA.mark S g1 { s with heap := h1, toks := tk1 } (fun c s' => ∃ g' h' tk', c = b ∧ s' = { s with heap := h', toks := tk' } ∧ Le g1 g' ∧ Rel w env g' h' l1 c1) (hg.trans hg1) R1 fun c g' h' tk' l' c' x y ⟨e0, e1, e2⟩ => ⟨g', h', tk', e0, rfl, x, e1 ▸ e2 ▸ y⟩)) ?_ (fun _ _ q => q.elim)
  rintro b' s' ⟨hm, g2, h2, tk2, rfl, rfl, hg2, R2⟩
  have hb2 : tb ≤ tk2 := Nat.le_trans hb1 hm
  cases b' with
  | false =>
    simp only [Bool.false_eq_true, if_false]
    exact wpAny_execs_nil (hQ .next g2 h2 tk2 _ _ .next (hg1.trans hg2) R2 trivial (hd rfl _ hb2))
  | true =>
    simp only [if_true]
    refine wpAny_mono (hb rfl (A.mark none) g₀ hA.mark S g2 { s with heap := h2, toks := tk2 } _ (hg.trans (hg1.trans hg2)) hb2 R2 ?_) (fun _ _ q => q) (fun _ _ q => q.elim)
    rintro f g3 h3 tk3 l3 c3 fl hg3 R3 hf hR
    have kk := hg1.trans (hg2.trans hg3)
    cases f with
    | next => cases fl with
      | next => obtain ⟨m, hm, hi⟩ := hR; exact ⟨m, hm, g3, h3, tk3, l3, c3, tk3, rfl, Nat.le_refl _, kk, R3, hi⟩
      | _ => exact hf.elim
    | cont => cases fl with
      | cont => obtain ⟨m, hm, hi⟩ := hR; exact ⟨m, hm, g3, h3, tk3, l3, c3, tk3, rfl, Nat.le_refl _, kk, R3, hi⟩
      | _ => exact hf.elim
    | brk => cases fl with
      | brk => exact hQ .next g3 h3 tk3 _ _ .next kk R3 trivial hR
      | _ => exact hf.elim
    | ret v => cases fl with
      | ret d => exact hQ (.ret v) g3 h3 tk3 _ _ (.ret d) kk R3 hf hR
      | _ => exact hf.elim
theorem wpAny_toks2 {α β : Type} {M : Model} {A : Around} {t : Sem α} {f : α → Sem β} {Q : β → Shared → Prop} {E : Value → Shared → Prop} {s : Shared} (h : wpAny M A t (fun x s₁ => wpAny M A (f x) Q E s₁) E s) :
    wpAny M A t (fun x s₁ => wpAny M A (f x) (fun a s' => s.toks ≤ s'.toks ∧ Q a s') E s₁) E s :=
  wpAny_mono (wpAny_toks h) (fun _ _ ⟨h1, q⟩ => wpAny_mono (wpAny_toks q) (fun _ _ ⟨h2, q⟩ => ⟨Nat.le_trans h1 h2, q⟩) fun _ _ e => e) fun _ _ e => e
set_option maxHeartbeats 1000000 in
theorem ExT.for {target iter : Expr} {body : List Stmt} {pos : Pos} {items : List D} {cells0 : Cls} {fin : Fins} (Inv : Nat → Nat → Loc → Cls → Prop) (hi : ItE w env k loc cells0 cells fin target iter items) (h0 : Inv 0 N loc cells)
    (turn : ∀ i d tk l c, items[i]? = some d → Inv i tk l c → c.map (·.1) = cells.map (·.1) → ∃ l1, As w env k l c target d l1 ∧ ExsT w env k tk l1 c body (fun f tk' l' c' => match f with
      | .next => c'.map (·.1) = cells.map (·.1) ∧ Inv (i + 1) tk' l' c'
      | .cont => c'.map (·.1) = cells.map (·.1) ∧ Inv (i + 1) tk' l' c'
      | .brk => R .next tk' l' c'
      | .ret d => R (.ret d) tk' l' c'))
    (done : ∀ l c tk tk', c.map (·.1) = cells.map (·.1) → Inv items.length tk l c → tk ≤ tk' → R .next tk' l c)
    (hs : ∀ x, foldedSetIterable iter env x = pure x := by intro _; rfl) : ExT w env k N loc cells0 (.For target iter body [] pos) R := by
  intro A g₀ hA S g s Q hg hN Rl hQ
  refine wpAny_For (wpAny_mono (wpAny_toks2 (hi A g₀ hA S g s (fun it s' => ∃ own St g1 h1 tk1, s' = { s with heap := h1, toks := tk1 } ∧ Le g g1 ∧ Rel w env g1 h1 loc cells ∧ (∀ a ∈ own, g1.get? a = none) ∧ Apart env cells own ∧ ItD own St ∧ (∀ A', Low k A' → ItS w A' target it own (fin.map (·.1)) items St g1) ∧ St 0 h1) hg Rl
    fun it own St g1 h1 tk1 a1 a2 a3 a4 a5 _ a7 a8 => ⟨own, St, g1, h1, tk1, rfl, a1, a2, a3, a4, a5, a7, a8⟩)) (fun x s₁ hx => wpAny_mono hx (fun it s₂ hp => ?main) fun _ _ q => q) fun _ _ q => q) hs
  obtain ⟨ht0, own, St, g1, h1, tk1, rfl, hg1, R1, hown, hap, hD, HI, hst⟩ := hp
  have I := HI (A.mark none) hA.mark
  refine codeAny_forLoop_any (fun n s' => E7 fun i g' h' tk' l c tb => A10 (s' = { s with heap := h', toks := tk' }) (tb ≤ tk') (Le g1 g') ((∀ a ∈ own, g'.get? a = none)) (Rel w env g' h' l c) (c.map (·.1) = cells.map (·.1)) (Inv i tb l c) (St i h') (i ≤ items.length) (n = items.length - i)) ?_ items.length
    ⟨0, g1, h1, tk1, loc, cells, N, rfl, Nat.le_trans hN ht0, Le.refl _, hown, R1, rfl, h0, hst, Nat.zero_le _, rfl⟩
  rintro n s' ⟨i, g2, h2, tk2, l2, c2, tb, rfl, htb, hg2, hown2, R2, hc2, hI2, hst2, hile, rfl⟩
  have ap2 : Apart env c2 own := fun a ha => ⟨(hap a ha).1, hc2 ▸ (hap a ha).2⟩
  have hk : ∀ {h' : Heap}, Kept own h2 h' → Le (Mine.top env c2 h2) (Mine.top env c2 h2) := fun _ => Le.refl _
  -- what goes on behind a draw
  have grow : ∀ {h' : Heap}, Kept own h2 h' → (∀ a ∈ own, ∃ o vs, h'.get? a = some o ∧ o.data = .fields vs) → Rel w env (Mine.top env c2 h') h' l2 c2 ∧ Le g2 (Mine.top env c2 h') ∧ NewIn h2 h' (Mine.top env c2 h') := by
    intro h' hk hdat
    have sub : Le g2 h' := fun b o e => hk b o (fun hm => by rw [hown2 b hm] at e; cases e) (R2.c.sub b o e)
    have kg : Le g2 (Mine.top env c2 h') := le_hideAll sub fun a ha => (R2.owned ha).1
    have offO : ∀ a ∈ ownOf env, a ∉ own := fun a ha hm => (hap a hm).1 ha
    have offC : ∀ p ∈ c2, p.1 ∉ own := fun p hp hm => (ap2 p.1 hm).2 (List.mem_map.mpr ⟨p, hp, rfl⟩)
    obtain ⟨m, ⟨o, es, ep, e, r⟩, hv⟩ := R2.ns
    refine ⟨⟨⟨top_le _ _ _, fun p hp => ⟨(R2.c.all p hp).1.up kg fun o e => hk _ _ (offC p hp) e, fun m => top_none (List.mem_append_right _ (mem_muts' hp m))⟩, R2.c.nodup⟩, R2.fk, top_none (List.mem_append_left _ (.head _)), R2.notL,
      ⟨m, ⟨o, es, ep, hk _ _ (offO _ (.head _)) e, r⟩, fun p hp => (hv p hp).up kg (fun _ => rfl) fun c hc ov ⟨o, e, q⟩ => ⟨o, hk _ _ (offO _ hc.mem) e, q⟩⟩, fun x c hc => ?_, R2.inj, R2.names⟩, kg, fun b o e1 e2 => hideAll_get _ e2 fun hm => ?_⟩
    · obtain ⟨_, a2, a3, ov, o, e, q⟩ := R2.own x c hc
      exact ⟨top_none (List.mem_append_left _ hc.mem), a2, a3, ov, o, hk _ _ (offO _ hc.mem) e, q⟩
    · obtain ⟨_, o', e⟩ := R2.owned hm
      rw [e1] at e; cases e
  cases hd : items[i]? with
  | none =>
    have hl : i = items.length := Nat.le_antisymm hile (by simpa using hd)
    subst hl
    refine wpAny_mono (wpAny_toks (I.done { s with heap := h2, toks := tk2 } (fun s₁ => ∃ h' tk', s₁ = { s with heap := h', toks := tk' } ∧ Kept own h2 h') hst2 (hg2.trans R2.c.sub) fun h' tk' hk _ => ⟨h', tk', rfl, hk⟩)) ?_ (fun _ _ q => q.elim)
    rintro r s₁ ⟨hm, hr⟩
    cases r with
    | some v => exact hr.elim
    | none =>
      obtain ⟨h', tk', rfl, hk⟩ := hr
      -- the frame's objects are as they were
      have sub : Le g2 h' := fun b o e => hk b o (fun hm => by rw [hown2 b hm] at e; cases e) (R2.c.sub b o e)
      have offO : ∀ a ∈ ownOf env, a ∉ own := fun a ha hm => (hap a hm).1 ha
      have offC : ∀ p ∈ c2, p.1 ∉ own := fun p hp hm => (ap2 p.1 hm).2 (List.mem_map.mpr ⟨p, hp, rfl⟩)
      obtain ⟨m, ⟨o, es, ep, e, r⟩, hv⟩ := R2.ns
      have R3 : Rel w env g2 h' l2 c2 := ⟨⟨sub, fun p hp => ⟨(R2.c.all p hp).1.up (Le.refl _) fun o e => hk _ _ (offC p hp) e, (R2.c.all p hp).2⟩, R2.c.nodup⟩, R2.fk, R2.newL, R2.notL,
        ⟨m, ⟨o, es, ep, hk _ _ (offO _ (.head _)) e, r⟩, fun p hp => (hv p hp).up (Le.refl _) (fun _ => rfl) fun c hc ov ⟨o, e, q⟩ => ⟨o, hk _ _ (offO _ hc.mem) e, q⟩⟩, fun x c hc => by
          obtain ⟨a1, a2, a3, ov, o, e, q⟩ := R2.own x c hc
          exact ⟨a1, a2, a3, ov, o, hk _ _ (offO _ hc.mem) e, q⟩, R2.inj, R2.names⟩
      exact wpAny_execs_nil (hQ .next g2 h' tk' _ _ .next (hg1.trans hg2) R3 trivial (done l2 c2 tb tk' hc2 hI2 (Nat.le_trans htb hm)))
  | some d =>
    obtain ⟨l3, hAs, hB⟩ := turn i d tb l2 c2 hd hI2 hc2
    have hlt : i < items.length := (List.getElem?_eq_some_iff.mp hd).1
    refine wpAny_mono (wpAny_toks (I.next i d { s with heap := h2, toks := tk2 } (fun v s₂ => ∃ h' tk', s₂ = { s with heap := h', toks := tk' } ∧ Kept own h2 h' ∧ (∀ g', Le g1 g' → NewIn h2 h' g' → Rep g' v d) ∧ St (i + 1) h') hd hst2 (hg2.trans R2.c.sub)
      fun v h' tk' x y z => ⟨h', tk', rfl, x, y, z⟩)) ?_ (fun _ _ q => q.elim)
    rintro r s₁ ⟨hm1, hr⟩
    cases r with
    | none => exact hr.elim
    | some v =>
      refine wpAny_mono (wpAny_toks hr) ?_ (fun _ _ q => q.elim)
      rintro _ s₂ ⟨hm2, h3, tk3, rfl, hk3, hrep, hst3⟩
      obtain ⟨R3, kg3, nw3⟩ := grow hk3 (hD _ _ hst3)
      refine wpAny_mono (wpAny_toks (hAs (A.mark none) (Mine.top env c2 h3) v hA.mark (S.le ((hg.trans hg1).trans (hg2.trans kg3))) (hrep _ (hg2.trans kg3) nw3) (Mine.top env c2 h3) { s with heap := h3, toks := tk3 } (fun _ s' => ∃ g' h' tk', s' = { s with heap := h', toks := tk' } ∧ Le (Mine.top env c2 h3) g' ∧ Rel w env g' h' l3 c2) (Le.refl _) R3
        fun _ g' h' tk' l' c' x y ⟨e1, e2⟩ => ⟨g', h', tk', rfl, x, e1 ▸ e2 ▸ y⟩)) ?_ (fun _ _ q => q.elim)
      rintro _ s₄ ⟨hm3, g4, h4, tk4, rfl, hg4, R4⟩
      refine wpAny_mono (hB (A.mark none) g4 hA.mark (S.le (((hg.trans hg1).trans (hg2.trans kg3)).trans hg4)) g4 { s with heap := h4, toks := tk4 } _ (Le.refl _) (Nat.le_trans htb (Nat.le_trans hm1 (Nat.le_trans hm2 hm3))) R4 ?_) (fun _ _ q => q) (fun _ _ q => q.elim)
      rintro f g5 h5 tk5 l5 c5 fl hg5 R5 hf hR
      have kk : Le g g5 := (hg1.trans (hg2.trans kg3)).trans (hg4.trans hg5)
      -- the iterator is as it was
      have back : c5.map (·.1) = cells.map (·.1) → Inv (i + 1) tk5 l5 c5 → ∃ m, m < items.length - i ∧ E7 fun i' g' h' tk' l c tb => A10 (({ s with heap := h5, toks := tk5 } : Shared) = { s with heap := h', toks := tk' }) (tb ≤ tk') (Le g1 g') ((∀ a ∈ own, g'.get? a = none)) (Rel w env g' h' l c) (c.map (·.1) = cells.map (·.1)) (Inv i' tb l c) (St i' h') (i' ≤ items.length) (m = items.length - i') := by
        intro hc5 hI5
        have same : ∀ a ∈ own, ∀ o, h3.get? a = some o → h5.get? a = some o := fun a ha o e =>
          (hg5.trans R5.c.sub) _ _ (hg4 _ _ (hideAll_get _ e (ap2.muts a ha)))
        have ap5 : Apart env c5 own := fun a ha => ⟨(hap a ha).1, hc5 ▸ (hap a ha).2⟩
        have dat : ∀ a ∈ own, ∃ o vs, h5.get? a = some o ∧ o.data = .fields vs := fun a ha => by
          obtain ⟨o, vs, e, q⟩ := hD _ _ hst3 a ha
          exact ⟨o, vs, same a ha o e, q⟩
        obtain ⟨R6, _⟩ := R5.hideIt dat ap5
        have kg6 : Le g1 (hideAll g5 own) := le_hideAll (hg2.trans (kg3.trans (hg4.trans hg5))) hown
        exact ⟨items.length - (i + 1), by (first | lia | omega), i + 1, hideAll g5 own, h5, tk5, l5, c5, tk5, rfl, Nat.le_refl _, kg6, fun a ha => hideAll_none _ ha, R6, hc5, hI5, I.stay _ _ _ hst3 same (kg6.trans R6.c.sub), hlt, rfl⟩
      cases f with
      | next => cases fl with
        | next => exact back hR.1 hR.2
        | _ => exact hf.elim
      | cont => cases fl with
        | cont => exact back hR.1 hR.2
        | _ => exact hf.elim
      | brk => cases fl with
        | brk => exact hQ .next g5 h5 tk5 _ _ .next kk R5 trivial hR
        | _ => exact hf.elim
      | ret v => cases fl with
        | ret d => exact hQ (.ret v) g5 h5 tk5 _ _ (.ret d) kk R5 hf hR
        | _ => exact hf.elim
end
end
/-! FX -/
section
section
variable {w : World} {env : Env} {k : Nat} {loc loc' : Loc} {cells : Cls} {R : Post}
theorem Ex.ofT {st : Stmt} (h : ExT w env k 0 loc cells st (fun fl _ l c => R fl l c)) : Ex w env k loc cells st R := fun A g₀ hA S g s Q hg Rl hQ =>
  h A g₀ hA S g s Q hg (Nat.zero_le _) Rl fun f g' h' tk' l' c' fl x y z u => hQ f g' h' tk' l' c' x y ⟨fl, z, u⟩
theorem Fn.ofT {f : Value} {args : List D} {R : D → Cls → Prop} (h : FnT w k 0 f args cells (fun d _ c => R d c)) : Fn w k f args cells R :=
  fun A g s vs Q hA S C r hQ => h A g s vs Q hA S C r (Nat.zero_le _) fun v g' h' tk' d c' a b e x y => hQ v g' h' tk' d c' a b e x y
theorem Ex.while {test : Expr} {body : List Stmt} {pos : Pos} (Inv : Nat → Loc → Cls → Prop) (n : Nat) (h0 : Inv n loc cells)
    (turn : ∀ n l c, Inv n l c → ∃ b, Tr w env k l c test b ∧ (b = true → Exs w env k l c body (fun f l' c' => match f with
      | .next => ∃ m, m < n ∧ Inv m l' c'
      | .cont => ∃ m, m < n ∧ Inv m l' c'
      | .brk => R .next l' c'
      | .ret d => R (.ret d) l' c')) ∧ (b = false → R .next l c)) : Ex w env k loc cells (.While test body [] pos) R := 
  Ex.ofT (ExT.while (fun n _ l c => Inv n l c) n h0 fun n tk l c hI =>
    let ⟨b, ht, hb, hd⟩ := turn n l c hI
    ⟨b, ht, fun e => ExsT.lift (hb e) fun fl l' c' tk' _ hr => by cases fl <;> exact hr, fun e _ _ => hd e⟩)
theorem Ex.for {target iter : Expr} {body : List Stmt} {pos : Pos} {items : List D} {cells0 : Cls} {fin : Fins} (Inv : Nat → Loc → Cls → Prop) (hi : ItE w env k loc cells0 cells fin target iter items) (h0 : Inv 0 loc cells)
    (turn : ∀ i d l c, items[i]? = some d → Inv i l c → c.map (·.1) = cells.map (·.1) → ∃ l1, As w env k l c target d l1 ∧ Exs w env k l1 c body (fun f l' c' => match f with
      | .next => c'.map (·.1) = cells.map (·.1) ∧ Inv (i + 1) l' c'
      | .cont => c'.map (·.1) = cells.map (·.1) ∧ Inv (i + 1) l' c'
      | .brk => R .next l' c'
      | .ret d => R (.ret d) l' c'))
    (done : ∀ l c, c.map (·.1) = cells.map (·.1) → Inv items.length l c → R .next l c)
    (hs : ∀ x, foldedSetIterable iter env x = pure x := by intro _; rfl) : Ex w env k loc cells0 (.For target iter body [] pos) R := 
  Ex.ofT (ExT.for (fun i _ l c => Inv i l c) hi h0 (fun i d tk l c hd hI hc =>
    let ⟨l1, ha, hb⟩ := turn i d l c hd hI hc
    ⟨l1, ha, ExsT.lift hb fun fl l' c' tk' _ hr => by cases fl <;> exact hr⟩) (fun l c _ _ hc hI _ => done l c hc hI) hs)
end
theorem Fn.def {w : World} {k : Nat} {f : Addr} {oc : Value} {od : Option Addr} {name qual : Str} {params : Arguments} {body : List Stmt} {scope : Scope} {dV kV doc pm cdv ct : Value} {an : Option Addr} {osl : Array (Option Value)}
    {args ds : List D} {cells : Cls} {R : D → Cls → Prop} (names ps : List Str)
    (ho : (KF w).lookup f = some ⟨oc, od, .func (fnOf name qual params body scope dV kV doc pm an cdv ct), osl⟩) (hcd : codeIn (KF w) cdv qual = true)
    (hb : ∀ A g vs, Stat w g → RepAll g vs args → Pr w A g (bindArgs (fnOf name qual params body scope dV kV doc pm an cdv ct) ⟨vs, []⟩) (fun g' b => b.map (·.1) = ps ∧ RepAll g' (b.map (·.2)) ds))
    (hps : ps.Nodup ∧ ∀ x ∈ ps, scope.names.lookup x = some .local ∨ scope.names.lookup x = some .cell)
    (hnm : names.Nodup ∧ (∀ x ∈ names, (scope.names.lookup x = some .local ∨ scope.names.lookup x = some .cell)) ∧ (scope.names.map (·.1)).Nodup ∧ ∀ x ∈ names, (x == ("__debug__" : Str)) = false ∧ (x == ("__classdict__" : Str)) = false)
    (hsc : scope.isCoroutine = false ∧ scope.isGenerator = false ∧ scope.kind = .function)
    (h : ∀ env, env.scope = scope → env.globals = mainGlobals → env.builtins = builtinsNs → Exs w env k (start names ps ds) cells body (Ends cells R)) : Fn w (k + 1) (.ref f) args cells R := 
  Fn.ofT (FnT.def names ps ho hcd hb hps hnm hsc fun env e1 e2 e3 => ExsT.lift (h env e1 e2 e3) fun fl l c tk _ hr => by cases fl <;> exact hr)
end
/-! F8 -/
section
/-! the scope of a comprehension -/
noncomputable def clos (cs : List (Str × Addr)) : List (Str × NameKind) → List (Str × Addr) → List (Str × Addr)
  | [], acc => acc
  | (n, k) :: r, acc => clos cs r (if k == .free then (n, (cs.lookup n).getD 0) :: acc else acc)
theorem closureFor_pure {scope : Scope} {env : Env} (h : ∀ p ∈ scope.names, p.2 = .free → (env.cells.lookup p.1).isSome = true) : closureFor scope env = pure (clos env.cells scope.names []) := by
  unfold closureFor
  have : ∀ (l : List (Str × NameKind)) (acc : List (Str × Addr)), (∀ p ∈ l, p.2 = .free → (env.cells.lookup p.1).isSome = true) →
      (forIn l acc (fun (x : Str × NameKind) (r : List (Str × Addr)) => (match x with | (name, kind) => do
        if (kind == NameKind.free) = true then do
          let a ← cellOf env name
          pure (ForInStep.yield ((name, a) :: r))
        else pure (ForInStep.yield r) : Sem (ForInStep (List (Str × Addr)))))) = (pure (clos env.cells l acc) : Sem (List (Str × Addr))) := by
    intro l
    induction l with
    | nil => intro acc _; rfl
    | cons p l ih =>
      intro acc hl
      obtain ⟨n, k⟩ := p
      rw [List.forIn_cons]
      by_cases e : (k == NameKind.free) = true
      · have hk : k = .free := by simpa using e
        obtain ⟨a, ha⟩ := Option.isSome_iff_exists.mp (hl _ (.head _) hk)
        simp only [e, if_true]
        have hc : cellOf env n = pure a := by unfold cellOf; rw [ha]
        rw [hc, clos, if_pos e, ha]
        exact ih _ fun p hp => hl p (.tail _ hp)
      · simp only [e]
        rw [clos, if_neg e]
        exact ih _ fun p hp => hl p (.tail _ hp)
  have := this scope.names [] h
  simp only [] at this
  exact (congrArg (fun m => m >>= pure) this)

noncomputable def cellNames (l : List (Str × NameKind)) : List Str := (l.filter (·.2 == .cell)).map (·.1)
theorem newEnvComp {M : Model} {A : Around} {E : Value → Shared → Prop} {s : Shared} {scope : Scope} {globals : Addr} {cl : List (Str × Addr)} {qual : Str} {outer : Env} {Q : Env → Shared → Prop}
    (h : ∀ own h', own.map (·.1) = (cellNames scope.names).reverse → (own.map (·.2)).Nodup → (∀ p ∈ own, s.heap.objs.size < p.2 ∧ h'.IsCell p.2 none) → h'.Ns s.heap.objs.size (fun _ => none) → Le s.heap h' →
      Q { scope, locals := s.heap.objs.size, globals, cells := own ++ cl, qual, func := none, code := outer.code, frame := outer.frame, builtins := outer.builtins } { s with heap := h' }) :
    wpAny M A (newFunctionEnv scope globals cl [] qual none .none (some outer)) Q E s := by
  simp only [newFunctionEnv, Option.isSome_some, if_true]
  refine wpAny_bind (wpAny_alloc ?_)
  refine wpAny_bind ?_
  refine wpAny_forIn_list _
    (fun rest cells s' => ∃ done own h', scope.names = done ++ rest ∧ cells = own ++ cl ∧ s' = { s with heap := h' } ∧ own.map (·.1) = (cellNames done).reverse ∧ (own.map (·.2)).Nodup ∧ (∀ p ∈ own, s.heap.objs.size < p.2 ∧ h'.IsCell p.2 none) ∧
      h'.Ns s.heap.objs.size (fun _ => none) ∧ Le s.heap h') _ ?_ ?_ scope.names cl ⟨[], [], _, rfl, rfl, rfl, rfl, List.nodup_nil, (fun _ hp => absurd hp (List.not_mem_nil)), Heap.Ns.new .., Le.push _ _⟩
  · rintro ⟨name, kind⟩ rest cells s' ⟨done, own, h', e1, rfl, rfl, e2, nd, ho, hn, hk⟩
    dsimp only
    by_cases hc : (kind == NameKind.cell) = true
    · rw [if_pos hc]
      refine wpAny_bind (wpAny_alloc (wpAny_pure ?_))
      have hlt : ∀ p ∈ own, p.2 < h'.objs.size := fun p hp => let ⟨_, e, _⟩ := (ho p hp).2; Heap.lt_size e
      refine ⟨done ++ [(name, kind)], (name, h'.objs.size) :: own, h'.push { cls := .type "cell", data := .cell none }, by simp [e1], rfl, rfl, ?_, ?_, ?_, hn.keeps (Le.push _ _), hk.trans (Le.push _ _)⟩
      · simp only [cellNames, List.filter_append, List.filter_cons, hc, if_true, List.filter_nil, List.map_append, List.map_cons, List.map_nil, List.reverse_append, List.reverse_cons, List.reverse_nil, List.nil_append, List.cons_append] at e2 ⊢
        rw [e2]
      · rw [List.map_cons, List.nodup_cons]
        refine ⟨fun hm => ?_, nd⟩
        obtain ⟨p, hp, e⟩ := List.mem_map.mp hm
        exact absurd (hlt p hp) (e ▸ Nat.lt_irrefl _)
      · intro p hp
        rcases List.mem_cons.mp hp with rfl | hp
        · exact ⟨hn.lt, _, Heap.get?_push_size _ rfl, rfl⟩
        · exact ⟨(ho p hp).1, isCell_le (Le.push _ _) (ho p hp).2⟩
    · rw [if_neg hc]
      refine wpAny_pure ⟨done ++ [(name, kind)], own, h', by simp [e1], rfl, rfl, ?_, nd, ho, hn, hk⟩
      have : (kind == NameKind.cell) = false := by simpa using hc
      simp only [cellNames, List.filter_append, List.filter_cons, this, List.filter_nil, List.append_nil, Bool.false_eq_true, if_false] at e2 ⊢
      exact e2
  · rintro cells s' ⟨done, own, h', e1, rfl, rfl, e2, nd, ho, hn, hk⟩
    rw [List.append_nil] at e1
    refine wpAny_bind (wpAny_pure (wpAny_pure ?_))
    exact h own h' (by rw [e1]; exact e2) nd ho hn hk

section
variable {w : World} {A : Around} {R : Result → Shared → Prop} {s : Shared}
noncomputable abbrev tests (ifs : List Expr) (env : Env) : Sem Bool := forIn ifs true fun c r => if r = true then do let ok ← isTrue c env (eval c env); pure (ForInStep.yield ok) else pure (ForInStep.yield r)
theorem compLoopL {elt target iter : Expr} {ifs : List Expr} {scope : Scope} {pos : Pos} {it acc : Value} {env : Env} (I : Nat → Shared → Prop)
    (turn : ∀ n s, I n s → wpAny (model PR w) A (pyNext it) (fun r s₁ => match r with
      | none => R (.ok .next) s₁
      | some v => wpAny (model PR w) A (letOwnedTupleGo target it v) (fun _ s₁' => wpAny (model PR w) A (assign target env v) (fun _ s₂ => wpAny (model PR w) A (tests ifs env) (fun ok s₃ =>
            if ok = true then wpAny (model PR w) A (eval elt env) (fun x s₄ => wpAny (model PR w) A (PySem.call (.builtin "list.append") [acc, x]) (fun _ s₅ => ∃ m, m < n ∧ I m s₅) No s₄) No s₃
            else ∃ m, m < n ∧ I m s₃) No s₂) No s₁') No s₁) No s) (n : Nat) (h : I n s) :
    codeAny (model PR w) A (.compLoop (.ListComp elt [⟨target, iter, ifs, 0⟩] scope pos) 0 it acc env) R s := by
  refine codeAny_loop rfl I (fun n s hI => ?_) n h
  show wpAny _ A ((compTurn (.ListComp elt [⟨target, iter, ifs, 0⟩] scope pos) 0 it acc env).onRaise (fun x => do noteFrame x env; theTreesLotGoes x)) _ _ s
  refine wpAny_noted (wpAny_mono (E := No) ?_ (fun _ _ q => q) (fun _ _ q => q.elim))
  rw [compTurn_list]
  refine wpAny_bind (wpAny_standAt (wpAny_bind (wpAny_mono (turn n s hI) (fun r s₁ h₁ => ?_) fun _ _ h' => h')))
  cases r with
  | none => exact wpAny_pure h₁
  | some v =>
    refine wpAny_bind (wpAny_mono h₁ (fun _ s₁' h₁' => ?_) fun _ _ h' => h')
    refine wpAny_bind (wpAny_mono h₁' (fun _ s₂ h₂ => wpAny_bind (wpAny_mono h₂ (fun ok s₃ h₃ => ?_) fun _ _ h' => h')) fun _ _ h' => h')
    cases ok with
    | false => exact wpAny_pure ⟨rfl, h₃⟩
    | true =>
      exact wpAny_bind (wpAny_bind (wpAny_mono h₃ (fun x s₄ h₄ => wpAny_bind (wpAny_mono h₄ (fun _ s₅ h₅ => wpAny_pure (wpAny_pure ⟨rfl, h₅⟩)) fun _ _ h' => h')) fun _ _ h' => h'))

end

section
variable {w : World} {env : Env} {k : Nat} {loc : Loc} {cells : Cls} {g h : Heap}

/-- a cell that is turned -/
theorem Rel.setCell {h' : Heap} {pre post : Cls} {a : Addr} {c c' : C} (R : Rel w env g h loc (pre ++ (a, c) :: post)) (hc : CellIs w g h' a c') (hm : c.mut = true) (hs : Heap.SameBut a h h') :
    Rel w env g h' loc (pre ++ (a, c') :: post) := by
  have mem : (a, c) ∈ pre ++ (a, c) :: post := List.mem_append_right _ (.head _)
  have ga := (R.c.all _ mem).2 hm
  have nd := R.c.nodup
  rw [List.map_append, List.map_cons] at nd
  obtain ⟨_, n2, n3⟩ := List.nodup_append.mp nd
  obtain ⟨n4, _⟩ := List.nodup_cons.mp n2
  have ne : ∀ p, p ∈ pre ++ post → p.1 ≠ a := fun p hp e => by
    rcases List.mem_append.mp hp with hp | hp
    · exact n3 _ (List.mem_map.mpr ⟨p, hp, rfl⟩) _ (.head _) e
    · exact n4 (List.mem_map.mpr ⟨p, hp, e⟩)
  have addr : (pre ++ (a, c') :: post).map (·.1) = (pre ++ (a, c) :: post).map (·.1) := by simp
  have am : a ∈ (pre ++ (a, c) :: post).map (·.1) := List.mem_map.mpr ⟨_, mem, rfl⟩
  have aL : env.locals ≠ a := fun e => R.notL (by rw [e]; exact am)
  have aO : ∀ x b, CellAt env x b → b ≠ a := fun x b hb e => (R.own x b hb).2.2.1 (by rw [e]; exact am)
  obtain ⟨m, hn, hv⟩ := R.ns
  refine ⟨⟨fun b o e => (hs.2 b fun q => by rw [q, ga] at e; cases e).trans (R.c.sub b o e), fun p hp => ?_, addr ▸ R.c.nodup⟩, R.fk, R.newL, addr ▸ R.notL,
    ⟨m, hn.sameBut hs aL, fun p hp => (hv p hp).up (Le.refl _) (fun _ => rfl) fun b hb ov ⟨o, e, q⟩ => ⟨o, (hs.2 b (aO _ b hb)).trans e, q⟩⟩, fun x b hb => ?_, R.inj, R.names⟩
  · rcases List.mem_append.mp hp with hp | hp
    · have := R.c.all p (List.mem_append_left _ hp)
      exact ⟨this.1.up (Le.refl _) fun o e => (hs.2 _ (ne p (List.mem_append_left _ hp))).trans e, this.2⟩
    · rcases List.mem_cons.mp hp with rfl | hp
      · exact ⟨hc, fun _ => ga⟩
      · have := R.c.all p (List.mem_append_right _ (.tail _ hp))
        exact ⟨this.1.up (Le.refl _) fun o e => (hs.2 _ (ne p (List.mem_append_right _ hp))).trans e, this.2⟩
  · obtain ⟨a1, a2, a3, ov, o, e, q⟩ := R.own x b hb
    exact ⟨a1, a2, addr ▸ a3, ov, o, (hs.2 b (aO x b hb)).trans e, q⟩

/-- an iterator's draw -/
theorem Rel.drawn {h' : Heap} {own : List Addr} (R : Rel w env g h loc cells) (ho : ∀ a ∈ own, g.get? a = none) (ap : Apart env cells own) (hk : Kept own h h') :
    Rel w env g h' loc cells ∧ Rel w env (Mine.top env cells h') h' loc cells ∧ Le g (Mine.top env cells h') ∧ NewIn h h' (Mine.top env cells h') := by
  have sub : Le g h' := fun b o e => hk b o (fun hm => by rw [ho b hm] at e; cases e) (R.c.sub b o e)
  have kg : Le g (Mine.top env cells h') := le_hideAll sub fun a ha => (R.owned ha).1
  have offO : ∀ a ∈ ownOf env, a ∉ own := fun a ha hm => (ap a hm).1 ha
  have offC : ∀ p ∈ cells, p.1 ∉ own := fun p hp hm => (ap p.1 hm).2 (List.mem_map.mpr ⟨p, hp, rfl⟩)
  obtain ⟨m, ⟨o, es, ep, e, r⟩, hv⟩ := R.ns
  have R1 : Rel w env g h' loc cells := ⟨⟨sub, fun p hp => ⟨(R.c.all p hp).1.up (Le.refl _) fun o e => hk _ _ (offC p hp) e, (R.c.all p hp).2⟩, R.c.nodup⟩, R.fk, R.newL, R.notL,
    ⟨m, ⟨o, es, ep, hk _ _ (offO _ (.head _)) e, r⟩, fun p hp => (hv p hp).up (Le.refl _) (fun _ => rfl) fun c hc ov ⟨o, e, q⟩ => ⟨o, hk _ _ (offO _ hc.mem) e, q⟩⟩, fun x c hc => by
      obtain ⟨a1, a2, a3, ov, o, e, q⟩ := R.own x c hc
      exact ⟨a1, a2, a3, ov, o, hk _ _ (offO _ hc.mem) e, q⟩, R.inj, R.names⟩
  exact ⟨R1, R1.top (Le.refl _), kg, fun b o e1 e2 => hideAll_get _ e2 fun hm => by
    obtain ⟨_, o', e⟩ := R.owned hm
    rw [e1] at e; cases e⟩

theorem clos_lookup {cs : List (Str × Addr)} {x : Str} : ∀ {l : List (Str × NameKind)} {acc : List (Str × Addr)}, (l.map (·.1)).Nodup → (x, NameKind.free) ∈ l → (cs.lookup x).isSome = true → (clos cs l acc).lookup x = cs.lookup x := by
  have keep : ∀ {l : List (Str × NameKind)} {acc : List (Str × Addr)}, x ∉ l.map (·.1) → (clos cs l acc).lookup x = acc.lookup x := by
    intro l
    induction l with
    | nil => intro acc _; rfl
    | cons p l ih =>
      intro acc hn
      obtain ⟨n, k⟩ := p
      rw [List.map_cons, List.mem_cons, not_or] at hn
      rw [clos, ih hn.2]
      split
      · rw [List.lookup_cons]
        have : (x == n) = false := by simpa using hn.1
        rw [this]
      · rfl
  intro l
  induction l with
  | nil => intro acc _ h; cases h
  | cons p l ih =>
    intro acc hn hm hx
    obtain ⟨n, k⟩ := p
    rw [List.map_cons, List.nodup_cons] at hn
    rcases List.mem_cons.mp hm with e | hm
    · cases e
      rw [clos, keep hn.1]
      obtain ⟨c, hc⟩ := Option.isSome_iff_exists.mp hx
      simp [hc]
    · rw [clos]; exact ih hn.2 hm hx
end
end
/-! F9 -/
section
section
variable {w : World} {env cenv : Env} {k : Nat} {loc l : Loc} {cells c' : Cls} {g1 h1 g' h' : Heap}

theorem Rel.backComp (R : Rel w env g1 h1 loc cells) (R' : Rel w cenv g' h' l c') (k1 : Le g1 g')
    (kO : ∀ a ∈ ownOf env, (∃ o, h1.get? a = some o ∧ g'.get? a = some o) ∨ (∃ x od, CellAt env x a ∧ (x, od) ∈ loc ∧ (x, od) ∈ l ∧ CellAt cenv x a))
    (kA : ∀ x a, CellAt env x a → (∃ o, h1.get? a = some o ∧ g'.get? a = some o) ∨ ∃ od, (x, od) ∈ loc ∧ (x, od) ∈ l ∧ CellAt cenv x a)
    (kL : ∃ o, h1.get? env.locals = some o ∧ g'.get? env.locals = some o)
    (off : ∀ p ∈ c', p.1 ∉ ownOf env) :
    Rel w env (hideAll g' (ownOf env)) h' loc c' ∧ Le g1 (hideAll g' (ownOf env)) ∧ ∀ v d, Rep g' v d → Rep (hideAll g' (ownOf env)) v d := by
  have ns : NoSeq g' (ownOf env) := by
    intro a ha o e xs n hd
    rcases kO a ha with ⟨o', e1, e2⟩ | ⟨x, od, _, _, _, h4⟩
    · rw [e] at e2; cases e2
      rcases mem_ownOf ha R.fk.names with rfl | ⟨x, hx⟩
      · obtain ⟨m, ⟨o', es, ep, q1, q2, _⟩, _⟩ := R.ns
        rw [q1] at e1; cases e1; rw [q2] at hd; cases hd
      · obtain ⟨_, _, _, ov, o', q1, q2⟩ := R.own x a hx
        rw [q1] at e1; cases e1; rw [q2] at hd; cases hd
    · rw [(R'.own x a h4).1] at e; cases e
  have kg' : Le g1 (hideAll g' (ownOf env)) := le_hideAll k1 fun a ha => (R.owned (List.mem_append_left _ ha)).1
  have none : ∀ a, g'.get? a = none → (hideAll g' (ownOf env)).get? a = none := fun a e => by
    cases q : (hideAll g' (ownOf env)).get? a with
    | none => rfl
    | some o => have := hideAll_le _ _ _ _ q; rw [e] at this; cases this
  have up : ∀ {ov od}, RepO g' ov od → RepO (hideAll g' (ownOf env)) ov od := fun {ov od} r => by
    cases ov <;> cases od <;> first | exact r | exact Rep.hide ns r
  have cell : ∀ x a, CellAt env x a → (∀ od, (x, od) ∈ loc → ∃ ov, h'.IsCell a ov ∧ RepO (hideAll g' (ownOf env)) ov od) ∧ ∃ ov, h'.IsCell a ov := by
    intro x a hx
    rcases kA x a hx with ⟨o, e1, e2⟩ | ⟨od, h1', h2', h3'⟩
    · obtain ⟨_, _, _, ov, o', q1, q2⟩ := R.own x a hx
      rw [q1] at e1; cases e1
      have ic : h'.IsCell a ov := ⟨_, R'.c.sub _ _ e2, q2⟩
      refine ⟨fun od hm => ?_, ov, ic⟩
      obtain ⟨m, _, hv⟩ := R.ns
      have v := hv _ hm
      unfold VarIs at v
      rw [hx.1] at v
      obtain ⟨c, ov', b1, b2, b3⟩ := v
      rw [hx.2] at b1; cases b1
      obtain ⟨o2, z1, z2⟩ := b2
      rw [q1] at z1; cases z1
      rw [q2] at z2; cases z2
      exact ⟨ov, ic, b3.le kg'⟩
    · obtain ⟨m, _, hv⟩ := R'.ns
      have v := hv _ h2'
      unfold VarIs at v
      rw [h3'.1] at v
      obtain ⟨c, ov', b1, b2, b3⟩ := v
      rw [h3'.2] at b1; cases b1
      refine ⟨fun od' hm => ?_, ov', b2⟩
      have : od' = od := by
        have nd := R.names
        have : ∀ {l : Loc}, (l.map (·.1)).Nodup → (x, od') ∈ l → (x, od) ∈ l → od' = od := by
          intro l
          induction l with
          | nil => intro _ h; cases h
          | cons p l ih =>
            intro nd m1 m2
            rw [List.map_cons, List.nodup_cons] at nd
            rcases List.mem_cons.mp m1 with e1 | m1
            · rcases List.mem_cons.mp m2 with e2 | m2
              · rw [← e2] at e1; cases e1; rfl
              · exact absurd (List.mem_map.mpr ⟨_, m2, by rw [← e1]⟩) nd.1
            · rcases List.mem_cons.mp m2 with e2 | m2
              · exact absurd (List.mem_map.mpr ⟨_, m1, by rw [← e2]⟩) nd.1
              · exact ih nd.2 m1 m2
        exact this nd hm h1'
      subst this
      exact ⟨ov', b2, up b3⟩
  refine ⟨⟨⟨(hideAll_le _ _).trans R'.c.sub, fun p hp => ⟨(R'.c.all p hp).1.hide ns (off p hp), fun m => none _ ((R'.c.all p hp).2 m)⟩, R'.c.nodup⟩, R.fk, hideAll_none _ (.head _), fun hm => ?_, ?_, ?_, R.inj, R.names⟩, kg', fun v d r => r.hide ns⟩
  · obtain ⟨p, hp, e⟩ := List.mem_map.mp hm
    exact off p hp (e ▸ .head _)
  · obtain ⟨m, hn, hv⟩ := R.ns
    obtain ⟨o, es, ep, e, r⟩ := hn
    obtain ⟨o', q1, q2⟩ := kL
    rw [e] at q1; cases q1
    refine ⟨m, ⟨o, es, ep, R'.c.sub _ _ q2, r⟩, fun p hp => ?_⟩
    have v := hv p hp
    unfold VarIs at v ⊢
    split at v
    · exact v.le kg'
    · rename_i ek
      obtain ⟨c, ov, b1, b2, b3⟩ := v
      obtain ⟨ov', z1, z2⟩ := (cell p.1 c ⟨ek, b1⟩).1 p.2 hp
      exact ⟨c, ov', b1, z1, z2⟩
    · obtain ⟨c, ov, a, b, r⟩ := v
      exact ⟨c, ov, a, isCell_le kg' b, r.le kg'⟩
    · exact v
  · intro x c hx
    obtain ⟨_, a2, a3, _⟩ := R.own x c hx
    refine ⟨hideAll_none _ hx.mem, a2, fun hm => ?_, (cell x c hx).2⟩
    obtain ⟨p, hp, e⟩ := List.mem_map.mp hm
    exact off p hp (e ▸ hx.mem)

/-- the frame's heap turns at an address that is not of the frame -/
theorem Rel.sameBut {g h h' : Heap} {a : Addr} (R : Rel w env g h loc cells) (hs : Heap.SameBut a h h') (ha : g.get? a = none) (aL : a ∉ ownOf env) (aC : a ∉ cells.map (·.1)) : Rel w env g h' loc cells :=
  (R.drawn (own := [a]) (fun b hb => by rw [List.mem_singleton.mp hb]; exact ha) (fun b hb => by rw [List.mem_singleton.mp hb]; exact ⟨aL, aC⟩) fun b o hb e => (hs.2 b fun q => hb (by rw [q]; exact .head _)).trans e).1

noncomputable def nmOf (l : List (Str × NameKind)) : List (Str × NameKind) := l.map fun p => if p.2 == .free then (p.1, .cell) else p
theorem relabel_names {scope : Scope} {env : Env} (hk : env.scope.kind = .function) (h : ∀ p ∈ scope.names, p.2 = .free → env.kindOf p.1 = some .cell) : (relabel scope env).names = nmOf scope.names := by
  unfold relabel nmOf
  dsimp only
  apply List.map_congr_left
  rintro ⟨n, kd⟩ hp
  dsimp only
  rw [hk]
  by_cases e : (kd == NameKind.free) = true
  · have e' : kd = .free := by simpa using e
    rw [h _ hp e']
    simp [e']
  · simp [e]
theorem nmOf_lookup {l : List (Str × NameKind)} {x : Str} : (nmOf l).lookup x = (l.lookup x).map fun kd => if kd == .free then .cell else kd := by
  unfold nmOf
  induction l with
  | nil => rfl
  | cons p l ih =>
    obtain ⟨n, kd⟩ := p
    rw [List.map_cons, List.lookup_cons]
    by_cases e : (kd == NameKind.free) = true
    · rw [if_pos e]
      simp only [List.lookup_cons]
      cases x == n with
      | false => exact ih
      | true => simp only [Option.map_some, if_pos e]
    · rw [if_neg e]
      simp only [List.lookup_cons]
      cases x == n with
      | false => exact ih
      | true => simp only [Option.map_some, if_neg e]
theorem lookup_of_mem {l : List (Str × NameKind)} {p : Str × NameKind} (hn : (l.map (·.1)).Nodup) (hp : p ∈ l) : l.lookup p.1 = some p.2 := by
  induction l with
  | nil => cases hp
  | cons q l ih =>
    obtain ⟨y, kd⟩ := q
    rw [List.map_cons, List.nodup_cons] at hn
    rw [List.lookup_cons]
    rcases List.mem_cons.mp hp with rfl | hp
    · simp
    · have : (p.1 == y) = false := by
        have : p.1 ≠ y := fun e => hn.1 (e ▸ List.mem_map.mpr ⟨p, hp, rfl⟩)
        simpa using this
      rw [this]; exact ih hn.2 hp
theorem mem_of_lookup {α : Type} {l : List (Str × α)} {x : Str} {a : α} (h : l.lookup x = some a) : (x, a) ∈ l := by
  induction l with
  | nil => cases h
  | cons q l ih =>
    obtain ⟨y, b⟩ := q
    rw [List.lookup_cons] at h
    split at h
    · rename_i e
      have e' : x = y := by simpa using e
      cases h; subst e'; exact .head _
    · exact .tail _ (ih h)
theorem lookup_append {α : Type} {l m : List (Str × α)} {x : Str} : (l ++ m).lookup x = (l.lookup x).or (m.lookup x) := by
  induction l with
  | nil => simp
  | cons q l ih =>
    obtain ⟨y, b⟩ := q
    rw [List.cons_append, List.lookup_cons, List.lookup_cons, ih]
    cases x == y <;> rfl
end

theorem isSome_lookup {α : Type} {x : Str} : ∀ {l : List (Str × α)}, x ∈ l.map (·.1) → (l.lookup x).isSome = true
  | (y, a) :: l, hm => by
    rw [List.lookup_cons]
    by_cases q : x = y
    · subst q; simp
    · have : (x == y) = false := by simpa using q
      rw [this]
      rcases List.mem_cons.mp hm with e | hm
      · exact absurd e q
      · exact isSome_lookup hm

/-- a comprehension's tests: none or one -/
noncomputable def Tests (w : World) (env : Env) (k : Nat) (loc : Loc) (cells : Cls) : List Expr → Bool → Prop
  | [], b => b = true
  | [c], b => Tr w env k loc cells c b
  | _, _ => False
theorem Tests.tri {w : World} {env : Env} {k : Nat} {loc : Loc} {cells : Cls} {ifs : List Expr} {b : Bool} (h : Tests w env k loc cells ifs b) {A : Around} {g₀ : Heap} (hA : Low k A) (S : Stat w g₀) :
    Tri w env A g₀ loc cells (tests ifs env) (fun _ v l c => v = b ∧ l = loc ∧ c = cells) := by
  match ifs, h with
  | [], h => exact fun g s Q hg R hQ => wpAny_tests_nil (hQ true g s.heap s.toks loc cells (Le.refl _) R ⟨h.symm, rfl, rfl⟩)
  | [c], h => exact fun g s Q hg R hQ => wpAny_tests_one (h A g₀ hA S g s Q hg R hQ)
end
/-! F10 -/
section
structure InnerOk (env : Env) (scope : Scope) (loc locIn : Loc) : Prop where
  kind : scope.kind = .function
  nd : (scope.names.map (·.1)).Nodup
  free : ∀ p ∈ scope.names, p.2 = .free → env.kindOf p.1 = some .cell ∧ ∃ od, (p.1, od) ∈ loc ∧ (p.1, od) ∈ locIn
  ent : ∀ p ∈ locIn, (scope.names.lookup p.1 = some .local ∧ p.2 = none) ∨ (scope.names.lookup p.1 = some .cell ∧ p.2 = none) ∨ (scope.names.lookup p.1 = some .free ∧ p ∈ loc)
  names : (locIn.map (·.1)).Nodup
  dbg : ∀ p ∈ locIn, (p.1 == ("__debug__" : Str)) = false ∧ (p.1 == ("__classdict__" : Str)) = false

theorem Rel.addCell {w : World} {env : Env} {g h : Heap} {loc : Loc} {cells : Cls} {a : Addr} {c : C} (R : Rel w env g h loc cells) (e : CellIs w g h a c) (hn : g.get? a = none) (hO : a ∉ ownOf env) (hC : a ∉ cells.map (·.1)) : Rel w env g h loc ((a, c) :: cells) := by
  refine ⟨⟨R.c.sub, fun p hp => ?_, ?_⟩, R.fk, R.newL, ?_, R.ns, fun x c hx => ?_, R.inj, R.names⟩
  · rcases List.mem_cons.mp hp with rfl | hp
    · exact ⟨e, fun _ => hn⟩
    · exact R.c.all p hp
  · rw [List.map_cons, List.nodup_cons]; exact ⟨hC, R.c.nodup⟩
  · rw [List.map_cons, List.mem_cons, not_or]
    exact ⟨fun q => hO (by have q' : env.locals = a := q; rw [← q']; exact .head _), R.notL⟩
  · obtain ⟨a1, b1, c1, d1⟩ := R.own x c hx
    refine ⟨a1, b1, ?_, d1⟩
    rw [List.map_cons, List.mem_cons, not_or]
    exact ⟨fun q => hO (by have q' : c = a := q; rw [← q']; exact hx.mem), c1⟩
theorem Rel.dropCells {w : World} {env : Env} {g h : Heap} {loc : Loc} {ex c0 : Cls} (R : Rel w env g h loc (ex ++ c0)) : Rel w env g h loc c0 :=
  ⟨R.c.drop, R.fk, R.newL, fun hm => R.notL (by rw [List.map_append]; exact List.mem_append_right _ hm), R.ns, fun x c hx => let ⟨a, b, c', d⟩ := R.own x c hx; ⟨a, b, fun hm => c' (by rw [List.map_append]; exact List.mem_append_right _ hm), d⟩, R.inj, R.names⟩
theorem Rel.addOwn {w : World} {env : Env} {g h : Heap} {loc : Loc} {cells : Cls} : ∀ {own : List Addr}, (∀ a ∈ own, ∃ o, h.get? a = some o) → (∀ a ∈ own, g.get? a = none ∧ a ∉ ownOf env ∧ a ∉ cells.map (·.1)) → Rel w env g h loc cells →
    ∃ oc : Cls, (∀ p ∈ oc, p.1 ∈ own ∧ ∃ o, p.2 = .it o) ∧ (∀ a ∈ own, a ∈ oc.map (·.1)) ∧ Rel w env g h loc (oc ++ cells)
  | [], _, _, R => ⟨[], (fun _ h => by cases h), (fun _ h => by cases h), R⟩
  | a :: own, h1, h2, R => by
    obtain ⟨oc, i1, i2, R'⟩ := Rel.addOwn (fun b hb => h1 b (.tail _ hb)) (fun b hb => h2 b (.tail _ hb)) R
    by_cases q : a ∈ oc.map (·.1)
    · exact ⟨oc, fun p hp => ⟨.tail _ (i1 p hp).1, (i1 p hp).2⟩, fun b hb => by (rcases List.mem_cons.mp hb with rfl | hb; exact q; exact i2 b hb), R'⟩
    · obtain ⟨o, e⟩ := h1 a (.head _)
      obtain ⟨e1, e2, e3⟩ := h2 a (.head _)
      refine ⟨(a, .it o) :: oc, fun p hp => ?_, fun b hb => ?_, R'.addCell e e1 e2 ?_⟩
      · rcases List.mem_cons.mp hp with rfl | hp
        · exact ⟨.head _, o, rfl⟩
        · exact ⟨.tail _ (i1 p hp).1, (i1 p hp).2⟩
      · rcases List.mem_cons.mp hb with rfl | hb
        · exact .head _
        · exact .tail _ (i2 b hb)
      · rw [List.map_append, List.mem_append, not_or]; exact ⟨q, e3⟩
theorem Rel.addFins {w : World} {env : Env} {g h : Heap} {loc : Loc} {cells : Cls} : ∀ {fin : Fins}, (fin.map (·.1)).Nodup → (∀ p ∈ fin, CellIs w g h p.1 p.2) → (∀ p ∈ fin, g.get? p.1 = none ∧ p.1 ∉ ownOf env ∧ p.1 ∉ cells.map (·.1)) → Rel w env g h loc cells → Rel w env g h loc (fin ++ cells)
  | [], _, _, _, R => R
  | (a, c) :: fs, nd, h1, h2, R => by
    rw [List.map_cons, List.nodup_cons] at nd
    have R' := Rel.addFins nd.2 (fun p hp => h1 p (.tail _ hp)) (fun p hp => h2 p (.tail _ hp)) R
    obtain ⟨e1, e2, e3⟩ := h2 (a, c) (.head _)
    refine R'.addCell (h1 (a, c) (.head _)) e1 e2 ?_
    rw [List.map_append, List.mem_append, not_or]
    exact ⟨nd.1, e3⟩

set_option maxHeartbeats 4000000 in
theorem EvC.compF {w : World} {env : Env} {k : Nat} {loc : Loc} {cells0 cells : Cls} {fin : Fins} {elt target iter : Expr} {ifs : List Expr} {scope : Scope} {pos : Pos} {items : List D} {R : D → Cls → Prop} (locIn : Loc) (InvL : Loc → Prop) (F : D → Option D)
    (hi : ItZ w env k loc cells0 cells fin target iter items) (hio : InnerOk env scope loc locIn) (hin : InvL locIn)
    (hcap : ∀ l, InvL l → ∀ p ∈ locIn, scope.names.lookup p.1 = some .free → p ∈ l)
    (turn : ∀ cenv c, (∀ p ∈ cells, p ∈ c) → cenv.scope.kind = .function → cenv.scope.names = nmOf scope.names → cenv.globals = mainGlobals → cenv.builtins = builtinsNs → ∀ l d, InvL l → d ∈ items → ∃ l1 b, As w cenv k l c target d l1 ∧ InvL l1 ∧ Tests w cenv k l1 c ifs b ∧
      (b = true → ∃ e, F d = some e ∧ Ev w cenv k l1 c elt e) ∧ (b = false → F d = none))
    (hnd' : (fin.map (·.1)).Nodup) (hsz : items.length + 1 ≤ sizeLine) (hR : ∀ a, R (.val (.ref a)) (fin ++ (a, .lst (items.filterMap F)) :: cells)) (hs : ∀ x, foldedSetIterable iter env x = pure x := by intro _; rfl) :
    EvC w env k loc cells0 (.ListComp elt [⟨target, iter, ifs, 0⟩] scope pos) R := by
  intro A g₀ hA S g s Q hg Rl hQ
  obtain ⟨m₀, hn₀, hv₀⟩ := Rl.ns
  have hlook : ∀ p ∈ scope.names, p.2 = .free → (env.cells.lookup p.1).isSome = true := fun p hp e => by
    obtain ⟨h1, od, h2, _⟩ := hio.free p hp e
    have v := hv₀ _ h2
    unfold VarIs at v
    rw [h1] at v
    obtain ⟨c, _, hc, _⟩ := v
    rw [hc]; rfl
  show wpAny _ A (comprehension (.ListComp elt [⟨target, iter, ifs, 0⟩] scope pos) scope env (firstIterPos [⟨target, iter, ifs, 0⟩] pos) (newList []) false (eval iter env)) Q No s
  refine wpAny_comprehension_free (g := ⟨target, iter, ifs, 0⟩) (gs := []) rfl hs (closureFor_pure hlook) hio.kind (fun x hx e => by rw [lookup_of_mem hio.nd hx, e]) ?_
  refine hi A g₀ hA S g s _ hg Rl ?_
  intro it own St g1 h1 tk1 hg1 R1 hown hap hfin HI hst
  have I := HI A hA
  refine wpAny_newObj_type ?_ (by show ([] : List Value).toArray.size ≤ sizeLine; simp)
  refine newEnvComp ?_
  intro cown h2 hcn hnd hcells hnsL hk2
  dsimp only at hcells hnsL hk2 ⊢
  generalize hacc : h1.objs.size = acc at hk2 hcells hnsL ⊢
  generalize hH : h1.push { cls := .type "list", data := .seq ([] : List Value).toArray } = H1 at hk2 hcells hnsL ⊢
  generalize hLL : H1.objs.size = L at hk2 hcells hnsL ⊢
  have sizeH : L = acc + 1 := by rw [← hLL, ← hH, Heap.size_push, hacc]
  have k12 : Le h1 h2 := (by rw [← hH] at hk2; exact (Le.push _ _).trans hk2)
  have accIs : h2.get? acc = some ({ cls := .type "list", data := .seq ([] : List Value).toArray } : Obj) := hk2 _ _ (by rw [← hH, ← hacc]; exact Heap.get?_push_size _ rfl)
  have fresh1 : ∀ a, acc ≤ a → h1.get? a = none := fun a ha => by
    cases e : h1.get? a with
    | none => rfl
    | some o => exact absurd (Heap.lt_size e) (by rw [hacc]; exact Nat.not_lt.mpr ha)
  have gf : ∀ a, acc ≤ a → g1.get? a = none := fun a ha => by
    cases e : g1.get? a with
    | none => rfl
    | some o => have := R1.c.sub _ _ e; rw [fresh1 a ha] at this; cases this
  have lt1 : ∀ {a : Nat} {o}, h1.get? a = some o → @LT.lt Nat _ a acc := fun e => by rw [← hacc]; exact Heap.lt_size e
  have cellsLt : ∀ p ∈ cells, @LT.lt Nat _ p.1 acc := fun p hp => let ⟨_, e⟩ := (R1.c.all p hp).1.some; lt1 e
  have ownLt : ∀ a ∈ own, @LT.lt Nat _ a acc := fun a ha => let ⟨_, e⟩ := I.data _ _ hst a ha; lt1 e
  have cownGt : ∀ p ∈ cown, @LT.lt Nat _ L p.2 := fun p hp => (hcells p hp).1
  -- the inner frame
  generalize hcenv : ({ scope := relabel scope env, locals := L, globals := env.globals, cells := cown ++ clos env.cells scope.names [], qual := env.qual, func := none, code := env.code, frame := env.frame, builtins := env.builtins } : Env) = cenv
  have cloc : cenv.locals = L := by rw [← hcenv]
  have ccells : cenv.cells = cown ++ clos env.cells scope.names [] := by rw [← hcenv]
  have cscope : cenv.scope = relabel scope env := by rw [← hcenv]
  have cnames : cenv.scope.names = nmOf scope.names := by rw [cscope]; exact relabel_names Rl.fk.kind fun p hp e => (hio.free p hp e).1
  have ckind : cenv.scope.kind = .function := by rw [cscope]; exact hio.kind
  have ckOf : ∀ x, cenv.kindOf x = (scope.names.lookup x).map fun kd => if kd == .free then .cell else kd := fun x => by unfold Env.kindOf; rw [cnames, nmOf_lookup]
  have cownNames : ∀ p ∈ cown, (p.1, NameKind.cell) ∈ scope.names := fun p hp => by
    have : p.1 ∈ (cellNames scope.names).reverse := hcn ▸ List.mem_map.mpr ⟨p, hp, rfl⟩
    obtain ⟨q, hq, e⟩ := List.mem_map.mp (List.mem_reverse.mp this)
    obtain ⟨q1, q2⟩ := List.mem_filter.mp hq
    obtain ⟨qa, qb⟩ := q
    have : qb = .cell := by simpa using q2
    subst this; subst e; exact q1
  -- a name's cell within
  have cfree : ∀ x, scope.names.lookup x = some .free → cenv.cells.lookup x = env.cells.lookup x := fun x e => by
    have hm := mem_of_lookup e
    rw [ccells, lookup_append, clos_lookup hio.nd hm (hlook _ hm rfl)]
    have : cown.lookup x = none := by
      cases q : cown.lookup x with
      | none => rfl
      | some a =>
        have := lookup_of_mem hio.nd (cownNames _ (mem_of_lookup q))
        dsimp only at this
        rw [e] at this; cases this
    rw [this]; rfl
  have ccell : ∀ x, scope.names.lookup x = some .cell → ∃ a, cenv.cells.lookup x = some a ∧ (x, a) ∈ cown := fun x e => by
    have hm : x ∈ cown.map (·.1) := by
      rw [hcn]
      exact List.mem_reverse.mpr (List.mem_map.mpr ⟨(x, .cell), List.mem_filter.mpr ⟨mem_of_lookup e, by simp⟩, rfl⟩)
    have : (cown.lookup x).isSome = true := isSome_lookup hm
    obtain ⟨a, ha⟩ := Option.isSome_iff_exists.mp this
    exact ⟨a, by rw [ccells, lookup_append, ha]; rfl, mem_of_lookup ha⟩
  -- which cells are the inner frame's
  have cAt : ∀ x a, CellAt cenv x a → (scope.names.lookup x = some .cell ∧ (x, a) ∈ cown) ∨ (scope.names.lookup x = some .free ∧ CellAt env x a) := fun x a ⟨h1, h2⟩ => by
    rw [ckOf] at h1
    cases q : scope.names.lookup x with
    | none => rw [q] at h1; cases h1
    | some kd =>
      rw [q] at h1
      cases kd with
      | cell =>
        obtain ⟨b, e1, e2⟩ := ccell x q
        rw [h2] at e1; cases e1
        exact .inl ⟨rfl, e2⟩
      | free => exact .inr ⟨rfl, (hio.free _ (mem_of_lookup q) rfl).1, by rw [← cfree x q]; exact h2⟩
      | _ => cases h1
  let hid : List Addr := ownOf cenv ++ muts ((acc, C.lst []) :: cells) ++ own
  have hidO : ∀ a ∈ hid, g1.get? a = none := fun a ha => by
    rcases List.mem_append.mp ha with ha | ha
    · rcases List.mem_append.mp ha with ha | ha
      · have cn : (cenv.scope.names.map (·.1)).Nodup := by
          rw [cnames]; unfold nmOf; rw [List.map_map]
          have : ((fun p : Str × NameKind => p.1) ∘ fun p => if (p.2 == NameKind.free) = true then (p.1, NameKind.cell) else p) = (·.1) := by
            funext p; dsimp only [Function.comp]; split <;> rfl
          rw [this]; exact hio.nd
        rcases mem_ownOf ha cn with rfl | ⟨x, hx⟩
        · rw [cloc]; exact gf _ (by (first | lia | omega))
        · rcases cAt x a hx with ⟨_, h⟩ | ⟨_, h⟩
          · exact gf _ (by have := cownGt _ h; dsimp only at this; (first | lia | omega))
          · exact (R1.own x a h).1
      · obtain ⟨p, hp, m, rfl⟩ := mem_muts ha
        rcases List.mem_cons.mp hp with rfl | hp
        · exact gf _ (Nat.le_refl _)
        · exact (R1.c.all p hp).2 m
    · exact hown a ha
  have kgi : Le g1 (hideAll h2 hid) := le_hideAll (R1.c.sub.trans k12) hidO
  have hidN : ∀ a ∈ hid, (hideAll h2 hid).get? a = none := fun a ha => hideAll_none _ ha
  have hidK : ∀ a o, h2.get? a = some o → a ∉ hid → (hideAll h2 hid).get? a = some o := fun a o e n => hideAll_get _ e n
  have ownHid : ∀ a ∈ own, a ∈ hid := fun a ha => List.mem_append_right _ ha
  have cownOf : ∀ {x a}, CellAt cenv x a → a ∈ hid := fun h => List.mem_append_left _ (List.mem_append_left _ h.mem)
  generalize hgi : hideAll h2 hid = gi at kgi hidN hidK
  have giSub : Le gi h2 := hgi ▸ hideAll_le _ _
  have cn : (cenv.scope.names.map (·.1)).Nodup := by
    rw [cnames]; unfold nmOf; rw [List.map_map]
    have : ((fun p : Str × NameKind => p.1) ∘ fun p => if (p.2 == NameKind.free) = true then (p.1, NameKind.cell) else p) = (·.1) := by
      funext p; dsimp only [Function.comp]; split <;> rfl
    rw [this]; exact hio.nd
  have Ri : Rel w cenv gi h2 locIn ((acc, .lst []) :: cells) := by
    refine ⟨⟨giSub, fun p hp => ?_, ?_⟩, ⟨ckind, by rw [← hcenv]; exact Rl.fk.glob, by rw [← hcenv]; exact Rl.fk.bltn, cn, hio.dbg⟩, ?_, ?_, ⟨_, cloc ▸ hnsL, fun p hp => ?_⟩, fun x a hx => ?_, fun x y a hx hy => ?_, hio.names⟩
    · rcases List.mem_cons.mp hp with rfl | hp
      · exact ⟨⟨[], 0, accIs, .nil⟩, fun _ => hidN _ (List.mem_append_left _ (List.mem_append_right _ (mem_muts' (.head _) rfl)))⟩
      · exact ⟨(R1.c.all p hp).1.up kgi fun o e => k12 _ o e, fun m => hidN _ (List.mem_append_left _ (List.mem_append_right _ (mem_muts' (.tail _ hp) m)))⟩
    · rw [List.map_cons, List.nodup_cons]
      refine ⟨fun hm => ?_, R1.c.nodup⟩
      obtain ⟨p, hp, e⟩ := List.mem_map.mp hm
      exact absurd (cellsLt p hp) (by rw [e]; exact Nat.lt_irrefl _)
    · exact hidN _ (List.mem_append_left _ (List.mem_append_left _ (.head _)))
    · rw [cloc]
      intro hm
      rw [List.map_cons, List.mem_cons] at hm
      rcases hm with e | hm
      · exact Nat.ne_of_gt (show acc < L by (first | lia | omega)) e
      · obtain ⟨p, hp, e⟩ := List.mem_map.mp hm
        have := cellsLt p hp
        rw [e] at this; (first | lia | omega)
    · unfold VarIs
      rw [ckOf]
      rcases hio.ent p hp with ⟨e1, e2⟩ | ⟨e1, e2⟩ | ⟨e1, e2⟩
      · rw [e1, e2]; exact trivial
      · rw [e1, e2]
        obtain ⟨a, h1, h2⟩ := ccell p.1 e1
        exact ⟨a, none, h1, (hcells _ h2).2, trivial⟩
      · rw [e1]
        show ∃ c ov, cenv.cells.lookup p.1 = some c ∧ h2.IsCell c ov ∧ RepO gi ov p.2
        rw [cfree p.1 e1]
        obtain ⟨m1, _, hv1⟩ := R1.ns
        have v := hv1 p e2
        unfold VarIs at v
        rw [(hio.free _ (mem_of_lookup e1) rfl).1] at v
        obtain ⟨c, ov, a, b, r⟩ := v
        exact ⟨c, ov, a, isCell_le k12 b, r.le kgi⟩
    · refine ⟨hidN _ (cownOf hx), ?_, ?_, ?_⟩
      · rw [cloc]
        rcases cAt x a hx with ⟨_, h⟩ | ⟨_, h⟩
        · intro e; have := cownGt _ h; dsimp only at this; rw [e] at this; exact Nat.lt_irrefl _ this
        · intro e
          obtain ⟨_, _, _, ov, o, q, _⟩ := R1.own x a h
          have := lt1 q
          rw [e] at this; (first | lia | omega)
      · intro hm
        rw [List.map_cons, List.mem_cons] at hm
        rcases cAt x a hx with ⟨_, h⟩ | ⟨_, h⟩
        · have h9 := cownGt _ h
          dsimp only at h9
          rcases hm with e | hm
          · rw [e] at h9; (first | lia | omega)
          · obtain ⟨p, hp, e⟩ := List.mem_map.mp hm
            have := cellsLt p hp
            rw [e] at this; (first | lia | omega)
        · obtain ⟨_, _, h3, ov, o, q, _⟩ := R1.own x a h
          rcases hm with e | hm
          · have := lt1 q; rw [e] at this; exact Nat.lt_irrefl _ this
          · exact h3 hm
      · rcases cAt x a hx with ⟨_, h⟩ | ⟨_, h⟩
        · exact ⟨none, (hcells _ h).2⟩
        · obtain ⟨_, _, _, ov, q⟩ := R1.own x a h
          exact ⟨ov, isCell_le k12 q⟩
    · rcases cAt x a hx with ⟨_, h⟩ | ⟨_, h⟩ <;> rcases cAt y a hy with ⟨_, h'⟩ | ⟨_, h'⟩
      · have : ∀ {l : List (Str × Addr)}, (l.map (·.2)).Nodup → (x, a) ∈ l → (y, a) ∈ l → x = y := by
          intro l
          induction l with
          | nil => intro _ h; cases h
          | cons p l ih =>
            intro nd m1 m2
            rw [List.map_cons, List.nodup_cons] at nd
            rcases List.mem_cons.mp m1 with e1 | m1
            · rcases List.mem_cons.mp m2 with e2 | m2
              · rw [← e2] at e1; cases e1; rfl
              · exact absurd (List.mem_map.mpr ⟨_, m2, by rw [← e1]⟩) nd.1
            · rcases List.mem_cons.mp m2 with e2 | m2
              · exact absurd (List.mem_map.mpr ⟨_, m1, by rw [← e2]⟩) nd.1
              · exact ih nd.2 m1 m2
        exact this hnd h h'
      · obtain ⟨_, _, _, ov, o, q, _⟩ := R1.own y a h'
        have := lt1 q; have := cownGt _ h; dsimp only at this; (first | lia | omega)
      · obtain ⟨_, _, _, ov, o, q, _⟩ := R1.own x a h
        have := lt1 q; have := cownGt _ h'; dsimp only at this; (first | lia | omega)
      · exact R1.inj x y a h h'
  have apIn : ∀ ys, Apart cenv ((acc, .lst ys) :: cells) own := fun ys a ha => by
    have := ownLt a ha
    refine ⟨fun hm => ?_, fun hm => ?_⟩
    · rcases mem_ownOf hm cn with e | ⟨x, hx⟩
      · rw [e, cloc] at this; (first | lia | omega)
      · rcases cAt x a hx with ⟨_, h⟩ | ⟨_, h⟩
        · have := cownGt _ h; dsimp only at this; (first | lia | omega)
        · exact (hap a ha).1 h.mem
    · rw [List.map_cons, List.mem_cons] at hm
      rcases hm with e | hm
      · rw [e] at this; exact Nat.lt_irrefl _ this
      · exact (hap a ha).2 hm
  have S1 : Stat w gi := S.le ((hg.trans hg1).trans kgi)
  have It := I.le kgi
  have hst2 : St 0 h2 := I.stay _ _ _ hst (fun a _ o e => k12 a o e) (R1.c.sub.trans k12)
  have gl : cenv.globals = mainGlobals := by rw [← hcenv]; exact Rl.fk.glob
  have bl : cenv.builtins = builtinsNs := by rw [← hcenv]; exact Rl.fk.bltn
  rw [cloc.symm]
  -- the loop
  have loop : ∀ s₃ : Shared, (∃ tk3, s₃ = { s with heap := h2, toks := tk3 }) → codeAny (model PR w) A (.compLoop (.ListComp elt [⟨target, iter, ifs, 0⟩] scope pos) 0 it (.ref acc) cenv) (compPost (model PR w) A No none Q (.ref acc) cenv.locals) s₃ := by
    rintro s₃ ⟨tk3, rfl⟩
    refine compLoopL (fun n s' => E5 fun i g' h' tk' l => A8 (s' = { s with heap := h', toks := tk' }) (Le gi g') ((∀ a ∈ own, g'.get? a = none)) (Rel w cenv g' h' l ((acc, .lst ((items.take i).filterMap F)) :: cells)) (InvL l) (St i h') (i ≤ items.length) (n = items.length - i)) ?_ items.length
      ⟨0, gi, h2, tk3, locIn, rfl, Le.refl _, (fun a ha => hidN a (ownHid a ha)), by simpa using Ri, hin, hst2, Nat.zero_le _, rfl⟩
    rintro n s' ⟨i, g2, h3, tk4, l2, rfl, hg2, hown2, R2, hI2, hst3, hile, rfl⟩
    cases hd : items[i]? with
    | none =>
      have hl : i = items.length := Nat.le_antisymm hile (by simpa using hd)
      subst hl
      refine wpAny_mono (It.done { s with heap := h3, toks := tk4 } (fun s₁ => ∃ h' tk', s₁ = { s with heap := h', toks := tk' } ∧ Kept own h3 h' ∧ ∀ a ∈ fin.map (·.1), ∀ o, h3.get? a = some o → h'.get? a = some o) hst3 (hg2.trans R2.c.sub) fun h' tk' hk hf => ⟨h', tk', rfl, hk, hf⟩) ?_ (fun _ _ q => q)
      intro r s₁ hr
      cases r with
      | some v => exact hr.elim
      | none =>
        obtain ⟨h', tk', rfl, hk, hfk⟩ := hr
        rw [List.take_length] at R2
        obtain ⟨R3, _⟩ := R2.drawn hown2 (apIn _) hk
        have out : ∀ a o, h1.get? a = some o → a ∉ hid → g2.get? a = some o := fun a o e n => hg2 _ _ (hidK a o (k12 a o e) n)
        have notHid : ∀ a ∈ ownOf env, (∀ x, ¬ (scope.names.lookup x = some .free ∧ CellAt env x a)) → a ∉ hid := fun a ha hno hm => by
          have halt : @LT.lt Nat _ a acc := by obtain ⟨_, o, e⟩ := R1.owned (List.mem_append_left _ ha); exact lt1 e
          rcases List.mem_append.mp hm with hm | hm
          · rcases List.mem_append.mp hm with hm | hm
            · rcases mem_ownOf hm cn with e | ⟨x, hx⟩
              · rw [e, cloc] at halt; (first | lia | omega)
              · rcases cAt x a hx with ⟨_, h⟩ | h
                · have := cownGt _ h; dsimp only at this; (first | lia | omega)
                · exact hno x h
            · obtain ⟨p, hp, _, rfl⟩ := mem_muts hm
              rcases List.mem_cons.mp hp with rfl | hp
              · exact Nat.lt_irrefl _ halt
              · rcases mem_ownOf ha R1.fk.names with e | ⟨x, hx⟩
                · exact R1.notL (e ▸ List.mem_map.mpr ⟨p, hp, rfl⟩)
                · exact (R1.own x _ hx).2.2.1 (List.mem_map.mpr ⟨p, hp, rfl⟩)
          · exact (hap a hm).1 ha
        have capt : ∀ x a, scope.names.lookup x = some .free → CellAt env x a → ∃ od, (x, od) ∈ loc ∧ (x, od) ∈ l2 ∧ CellAt cenv x a := fun x a e h => by
          obtain ⟨_, od, h2', h3'⟩ := hio.free _ (mem_of_lookup e) rfl
          exact ⟨od, h2', hcap l2 hI2 _ h3' e, by rw [ckOf, e]; rfl, by rw [cfree x e]; exact h.2⟩
        have kA : ∀ x a, CellAt env x a → (∃ o, h1.get? a = some o ∧ g2.get? a = some o) ∨ ∃ od, (x, od) ∈ loc ∧ (x, od) ∈ l2 ∧ CellAt cenv x a := fun x a hx => by
          by_cases q : scope.names.lookup x = some .free
          · exact .inr (capt x a q hx)
          · obtain ⟨_, o, e⟩ := R1.owned (List.mem_append_left _ hx.mem)
            refine .inl ⟨o, e, out a o e (notHid a hx.mem fun y ⟨h5, h6⟩ => ?_)⟩
            exact q (R1.inj y x a h6 hx ▸ h5)
        have kL : ∃ o, h1.get? env.locals = some o ∧ g2.get? env.locals = some o := by
          obtain ⟨_, o, e⟩ := R1.owned (List.mem_append_left (muts cells) (.head _ : env.locals ∈ ownOf env))
          exact ⟨o, e, out _ o e (notHid _ (.head _) fun y ⟨_, h6⟩ => (R1.own y _ h6).2.1 rfl)⟩
        have kO : ∀ a ∈ ownOf env, (∃ o, h1.get? a = some o ∧ g2.get? a = some o) ∨ (∃ x od, CellAt env x a ∧ (x, od) ∈ loc ∧ (x, od) ∈ l2 ∧ CellAt cenv x a) := fun a ha => by
          rcases mem_ownOf ha R1.fk.names with rfl | ⟨x, hx⟩
          · exact .inl kL
          · rcases kA x a hx with h | ⟨od, h5, h6, h7⟩
            · exact .inl h
            · exact .inr ⟨x, od, hx, h5, h6, h7⟩
        have off : ∀ p ∈ ((acc, C.lst (items.filterMap F)) :: cells : Cls), p.1 ∉ ownOf env := fun p hp ha => by
          have halt : @LT.lt Nat _ p.1 acc := by obtain ⟨_, o, e⟩ := R1.owned (List.mem_append_left _ ha); exact lt1 e
          rcases List.mem_cons.mp hp with rfl | hp
          · exact Nat.lt_irrefl _ halt
          · rcases mem_ownOf ha R1.fk.names with e | ⟨x, hx⟩
            · exact R1.notL (e ▸ List.mem_map.mpr ⟨p, hp, rfl⟩)
            · exact (R1.own x _ hx).2.2.1 (List.mem_map.mpr ⟨p, hp, rfl⟩)
        obtain ⟨R4, k4, _⟩ := Rel.backComp R1 R3 (kgi.trans hg2) kO kA kL off
        obtain ⟨mm, hnn, _⟩ := R3.ns
        refine ⟨mm, hnn, fun h'' hsb => ?_⟩
        have Lf : cenv.locals ∉ ownOf env := fun ha => by
          have halt : @LT.lt Nat _ cenv.locals acc := by obtain ⟨_, o, e⟩ := R1.owned (List.mem_append_left _ ha); exact lt1 e
          rw [cloc] at halt; (first | lia | omega)
        have gL : (hideAll g2 (ownOf env)).get? cenv.locals = none := by
          cases q : (hideAll g2 (ownOf env)).get? cenv.locals with
          | none => rfl
          | some o => have := hideAll_le _ _ _ _ q; rw [R3.newL] at this; cases this
        have R5 := R4.sameBut hsb gL Lf R3.notL
        have R6 : Rel w env (hideAll g2 (ownOf env)) h'' loc (fin ++ (acc, .lst (items.filterMap F)) :: cells) := by
          refine Rel.addFins hnd' (fun p hp => ?_) (fun p hp => ?_) R5
          · obtain ⟨h5, h6⟩ := hfin p hp
            refine (h6 _ h3 k4 hst3).up (Le.refl _) fun o e1 => ?_
            have e3 := hfk p.1 (List.mem_map.mpr ⟨p, hp, rfl⟩) o e1
            have ne : p.1 ≠ cenv.locals := fun e => by have := ownLt _ h5; rw [e, cloc] at this; (first | lia | omega)
            exact (hsb.2 _ ne).trans e3
          · obtain ⟨h5, _⟩ := hfin p hp
            refine ⟨?_, (hap _ h5).1, (apIn (items.filterMap F) _ h5).2⟩
            cases q : (hideAll g2 (ownOf env)).get? p.1 with
            | none => rfl
            | some o => have := hideAll_le _ _ _ _ q; rw [hown2 _ h5] at this; cases this
        exact hQ (.ref acc) _ h'' tk' loc _ (hg1.trans k4) R6 ⟨.val (.ref acc), .val _, rfl, hR acc⟩
    | some d =>
      have hlt : i < items.length := (List.getElem?_eq_some_iff.mp hd).1
      have tk : (items.take (i + 1)).filterMap F = (items.take i).filterMap F ++ (F d).toList := by
        rw [List.take_add_one, hd, List.filterMap_append]
        cases q : F d <;> simp [q]
      refine wpAny_mono (It.next i d { s with heap := h3, toks := tk4 } (fun v s₂ => ∃ h' tk', s₂ = { s with heap := h', toks := tk' } ∧ Kept own h3 h' ∧ (∀ g', Le gi g' → NewIn h3 h' g' → Rep g' v d) ∧ St (i + 1) h') hd hst3 (hg2.trans R2.c.sub)
        fun v h' tk' x y z => ⟨h', tk', rfl, x, y, z⟩) ?_ (fun _ _ q => q)
      intro r s₁ hr
      cases r with
      | none => exact hr.elim
      | some v =>
        refine wpAny_mono hr ?_ (fun _ _ q => q)
        rintro _ s₂ ⟨h4, tk5, rfl, hk4, hrep, hst4⟩
        obtain ⟨R4a, _, _, _⟩ := R2.drawn hown2 (apIn _) hk4
        obtain ⟨oc, oc1, oc2, R4b⟩ := Rel.addOwn (own := own) (fun a ha => It.data _ _ hst4 a ha) (fun a ha => ⟨hown2 a ha, (apIn ((items.take i).filterMap F) a ha).1, (apIn ((items.take i).filterMap F) a ha).2⟩) R4a
        have R4 := R4b.top (Le.refl _)
        have kg4 := R4b.le_top (Le.refl _)
        have nw4 : NewIn h3 h4 (Mine.top cenv (oc ++ (acc, .lst ((items.take i).filterMap F)) :: cells) h4) := fun b o e1 e2 => hideAll_get _ e2 fun hm => by
          rcases List.mem_append.mp hm with hm | hm
          · obtain ⟨_, o', e⟩ := R2.owned (List.mem_append_left _ hm); rw [e1] at e; cases e
          · obtain ⟨p, hp, m, rfl⟩ := mem_muts hm
            rcases List.mem_append.mp hp with hp | hp
            · obtain ⟨h, _⟩ := oc1 p hp
              obtain ⟨o', e⟩ := It.data _ _ hst3 _ h
              rw [e1] at e; cases e
            · obtain ⟨_, o', e⟩ := R2.owned (List.mem_append_right _ (mem_muts' hp m)); rw [e1] at e; cases e
        have S4 : Stat w (Mine.top cenv (oc ++ (acc, .lst ((items.take i).filterMap F)) :: cells) h4) := S1.le (hg2.trans kg4)
        obtain ⟨l3, b, hAs, hI3, hT, hb1, hb2⟩ := turn cenv (oc ++ (acc, .lst ((items.take i).filterMap F)) :: cells) (fun p hp => List.mem_append_right _ (.tail _ hp)) ckind cnames gl bl l2 d hI2 (List.mem_of_getElem? hd)
        generalize Mine.top cenv (oc ++ (acc, .lst ((items.take i).filterMap F)) :: cells) h4 = g4 at R4 kg4 nw4 S4
        refine hAs A g4 v hA S4 (hrep _ (hg2.trans kg4) nw4) g4 { s with heap := h4, toks := tk5 } _ (Le.refl _) R4 ?_
        rintro _ g5 h5 tk6 l5 c5 hg5 R5 ⟨rfl, rfl⟩
        refine Tri.use3 (hT.tri hA (S4.le hg5)) (Le.refl _) R5 ?_
        rintro b' g6 h6 tk7 hg6 R6 rfl
        -- the turn's end
        have back : ∀ g9 h9 tk9 ys', Le g4 g9 → ys' = (items.take (i + 1)).filterMap F → Rel w cenv g9 h9 l5 (oc ++ (acc, .lst ys') :: cells) → ∃ m, m < items.length - i ∧ E5 fun i' g' h' tk' l => A8 (({ s with heap := h9, toks := tk9 } : Shared) = { s with heap := h', toks := tk' }) (Le gi g') ((∀ a ∈ own, g'.get? a = none)) (Rel w cenv g' h' l ((acc, .lst ((items.take i').filterMap F)) :: cells)) (InvL l) (St i' h') (i' ≤ items.length) (m = items.length - i') := by
          rintro g9 h9 tk9 ys' k9 rfl R9
          have same : ∀ a ∈ own, ∀ o, h4.get? a = some o → h9.get? a = some o := fun a ha o e => by
            obtain ⟨p, hp, e1⟩ := List.mem_map.mp (oc2 a ha)
            obtain ⟨_, o', e2⟩ := oc1 p hp
            have c1 := (R4b.c.all p (List.mem_append_left _ hp)).1
            have c2 := (R9.c.all p (List.mem_append_left _ hp)).1
            rw [e2, e1] at c1 c2
            have c1' : h4.get? a = some o' := c1
            rw [e] at c1'; cases c1'
            exact c2
          have hown9 : ∀ a ∈ own, g9.get? a = none := fun a ha => by
            obtain ⟨p, hp, e1⟩ := List.mem_map.mp (oc2 a ha)
            obtain ⟨_, o', e2⟩ := oc1 p hp
            rw [← e1]
            exact (R9.c.all p (List.mem_append_left _ hp)).2 (by rw [e2]; rfl)
          have R10 := Rel.dropCells R9
          have kg10 : Le gi g9 := hg2.trans (kg4.trans k9)
          exact ⟨items.length - (i + 1), by (first | lia | omega), i + 1, g9, h9, tk9, l5, rfl, kg10, hown9, R10, hI3, It.stay _ _ _ hst4 same (kg10.trans R10.c.sub), hlt, rfl⟩
        cases b' with
        | false =>
          simp only [Bool.false_eq_true, if_false]
          exact back g6 h6 tk7 _ (hg5.trans hg6) (by rw [tk, hb2 rfl]; simp) R6
        | true =>
          simp only [if_true]
          obtain ⟨e, hF, hE⟩ := hb1 rfl
          refine Tri.use3 (hE A g6 hA (S4.le (hg5.trans hg6))) (Le.refl _) R6 ?_
          rintro x g7 h7 tk8 hg7 R7 rx
          have hc := R7.c.all (acc, .lst ((items.take i).filterMap F)) (List.mem_append_right _ (.head _))
          obtain ⟨⟨vs, nn, ho, hr⟩, ga⟩ := hc
          have hln : vs.length ≤ items.length := by
            rw [hr.length]
            exact Nat.le_trans (List.length_filterMap_le _ _) (by rw [List.length_take]; (first | lia | omega))
          refine wpAny_list_append_plain ⟨nn, ho⟩ (fun h8 hp8 hs8 => ?_) (by rw [List.size_toArray]; (first | lia | omega))
          obtain ⟨n8, e8⟩ := hp8
          have R8 := Rel.setCell (pre := oc) (c' := .lst ((items.take i).filterMap F ++ [e])) R7 ⟨vs ++ [x], n8, by rw [e8]; simp, RepAll.append (.cons rx .nil) hr⟩ rfl hs8
          exact back g7 h8 tk8 _ ((hg5.trans hg6).trans hg7) (by rw [tk, hF]; rfl) R8
  refine codeAny_compStart_list (loop _ ⟨tk1, rfl⟩) ?_
  exact wpAny_mono (It.self 0 { s with heap := h2, toks := tk1 } (fun v s' => v = it ∧ s' = { s with heap := h2, toks := tk1 }) hst2 (kgi.trans giSub |> fun _ => giSub) ⟨rfl, rfl⟩) (fun v s' ⟨e1, e2⟩ => by rw [e1, e2]; exact loop _ ⟨tk1, rfl⟩) (fun _ _ q => q.elim)
theorem EvC.comp {w : World} {env : Env} {k : Nat} {loc : Loc} {cells0 cells : Cls} {elt target iter : Expr} {ifs : List Expr} {scope : Scope} {pos : Pos} {items : List D} {R : D → Cls → Prop} (locIn : Loc) (InvL : Loc → Prop) (F : D → Option D)
    (hi : ItE w env k loc cells0 cells [] target iter items) (hio : InnerOk env scope loc locIn) (hin : InvL locIn)
    (hcap : ∀ l, InvL l → ∀ p ∈ locIn, scope.names.lookup p.1 = some .free → p ∈ l)
    (turn : ∀ cenv c, (∀ p ∈ cells, p ∈ c) → cenv.scope.kind = .function → cenv.scope.names = nmOf scope.names → cenv.globals = mainGlobals → cenv.builtins = builtinsNs → ∀ l d, InvL l → d ∈ items → ∃ l1 b, As w cenv k l c target d l1 ∧ InvL l1 ∧ Tests w cenv k l1 c ifs b ∧
      (b = true → ∃ e, F d = some e ∧ Ev w cenv k l1 c elt e) ∧ (b = false → F d = none))
    (hsz : items.length + 1 ≤ sizeLine) (hR : ∀ a, R (.val (.ref a)) ((a, .lst (items.filterMap F)) :: cells)) (hs : ∀ x, foldedSetIterable iter env x = pure x := by intro _; rfl) :
    EvC w env k loc cells0 (.ListComp elt [⟨target, iter, ifs, 0⟩] scope pos) R :=
  EvC.compF locIn InvL F hi.z hio hin hcap turn List.nodup_nil hsz (fun a => hR a) hs
end
/-! F11 -/
section
section
variable {w : World} {env : Env} {k : Nat} {loc : Loc} {cells : Cls} {g h h' : Heap}
theorem Rel.up (R : Rel w env g h loc cells) (kh : Le h h') : Rel w env g h' loc cells :=
  R.grow kh (Le.refl _) (R.c.sub.trans kh) R.newL (fun x c hc => (R.own x c hc).1) fun p hp m => (R.c.all p hp).2 m
theorem Rel.fresh (R : Rel w env g h loc cells) {a : Nat} (ha : h.objs.size ≤ a) : g.get? a = none ∧ a ∉ ownOf env ∧ a ∉ cells.map (·.1) := by
  have no : ∀ o, h.get? a = some o → False := fun o e => absurd (Heap.lt_size e) (Nat.not_lt.mpr ha)
  refine ⟨?_, fun hm => ?_, fun hm => ?_⟩
  · cases e : g.get? a with
    | none => rfl
    | some o => exact (no o (R.c.sub _ _ e)).elim
  · obtain ⟨_, o, e⟩ := R.owned (List.mem_append_left _ hm)
    exact no o e
  · obtain ⟨p, hp, e⟩ := List.mem_map.mp hm
    obtain ⟨o, q⟩ := (R.c.all p hp).1.some
    exact no o (e ▸ q)

theorem ItD.list {I ax : Addr} : ItD [I] (fun i h => h.IsListIter I ax i) :=
  fun i h ⟨o, e, c, d⟩ a ha => by rw [List.mem_singleton.mp ha]; exact ⟨o, _, e, d⟩
theorem ItS.list {A : Around} {target : Expr} {I ax : Addr} {vs : List Value} {ds : List D} {g₀ : Heap} (hh : A.handled = none) (hl : g₀.IsList ax vs.toArray) (r : RepAll g₀ vs ds) :
    ItS w A target (.ref I) [I] [] ds (fun i h => h.IsListIter I ax i) g₀ where
  data := fun i h e a ha => let ⟨o, _, q, _⟩ := ItD.list i h e a ha; ⟨o, q⟩
  stay := fun i h h' ⟨o, e, c, d⟩ k _ => ⟨o, k I (.head _) o e, c, d⟩
  next := fun i d s Q hd hst hg hQ => by
    obtain ⟨v, hv, rv⟩ := r.get hd
    refine wpAny_pyNext_list_item hst (isList_le hg hl) (x := v) (by simpa using hv) fun h' hit' hs' => ?_
    exact letGo_listiter hit' (hQ v h' _ (fun b o hb e => (hs'.2 b fun q => hb (by rw [q]; exact .head _)).trans e) (fun g' hg' _ => rv.le hg') hit')
  done := fun s Q hst hg hQ => wpAny_pyNext_list_end hh hst (isList_le hg hl) (by simp [r.length]) fun h' he => hQ h' _ (fun b o hb e => he b o (fun q => hb (by rw [q]; exact .head _)) e) (fun a ha => by cases ha)
  self := fun i s Q hst _ h => wpAny_pyIter_listiter hst h
theorem ItD.tuple {I ax : Addr} : ItD [I] (fun i h => h.IsTupleIter I ax i) :=
  fun i h ⟨o, e, c, d⟩ a ha => by rw [List.mem_singleton.mp ha]; exact ⟨o, _, e, d⟩
theorem ItS.tuple {A : Around} {target : Expr} {I ax : Addr} {vs : List Value} {ds : List D} {g₀ : Heap} (hh : A.handled = none) (hl : IsTup g₀ ax vs.toArray) (r : RepAll g₀ vs ds) :
    ItS w A target (.ref I) [I] [] ds (fun i h => h.IsTupleIter I ax i) g₀ where
  data := fun i h e a ha => let ⟨o, _, q, _⟩ := ItD.tuple i h e a ha; ⟨o, q⟩
  stay := fun i h h' ⟨o, e, c, d⟩ k _ => ⟨o, k I (.head _) o e, c, d⟩
  next := fun i d s Q hd hst hg hQ => by
    obtain ⟨v, hv, rv⟩ := r.get hd
    refine wpAny_pyNext_tuple_item hst (isTup_le hg hl) (x := v) (by simpa using hv) fun h' hit' hs' => ?_
    exact letGo_tupleiter hit' (hQ v h' _ (fun b o hb e => (hs'.2 b fun q => hb (by rw [q]; exact .head _)).trans e) (fun g' hg' _ => rv.le hg') hit')
  done := fun s Q hst hg hQ => wpAny_pyNext_tuple_end hh hst (isTup_le hg hl) (by simp [r.length]) fun h' he => hQ h' _ (fun b o hb e => he b o (fun q => hb (by rw [q]; exact .head _)) e) (fun a ha => by cases ha)
  self := fun i s Q hst _ h => wpAny_pyIter_tupleiter hst h

theorem letGo_rangeiter {A : Around} {s : Shared} {target : Expr} {I : Addr} {x l st : Int} {v : Value} {Q : Unit → Shared → Prop} (hit : IsRangeIter s.heap I x l st) (h : Q () s) :
    wpAny (model PR w) A (letOwnedTupleGo target (.ref I) v) Q No s := by
  unfold letOwnedTupleGo
  cases target <;> first
    | exact wpAny_pure h
    | (cases v <;> first
        | exact wpAny_pure h
        | (refine wpAny_bind (wpAny_load hit ?_); exact wpAny_pure h))
noncomputable def rng (a c : Int) (n : Nat) : List D := (List.range n).map fun (i : Nat) => D.int (a + (i : Int) * c)
theorem rng_get {a c : Int} {n i : Nat} {d : D} (h : (rng a c n)[i]? = some d) : i < n ∧ d = .int (a + (i : Int) * c) := by
  unfold rng at h
  rw [List.getElem?_map] at h
  by_cases e : i < n
  · rw [List.getElem?_range e] at h
    exact ⟨e, (Option.some.inj h).symm⟩
  · rw [List.getElem?_eq_none (by simpa using e)] at h
    cases h
theorem ItD.range {I : Addr} {a c : Int} {n : Nat} : ItD [I] (fun i h => IsRangeIter h I (a + (i : Int) * c) ((n : Int) - i) c) :=
  fun i h e a ha => by rw [List.mem_singleton.mp ha]; exact ⟨_, _, e, rfl⟩
theorem ItS.range {A : Around} {target : Expr} {I : Addr} {a c : Int} {n : Nat} {g₀ : Heap} (hh : A.handled = none) :
    ItS w A target (.ref I) [I] [] (rng a c n) (fun i h => IsRangeIter h I (a + (i : Int) * c) ((n : Int) - i) c) g₀ where
  data := fun i h e a ha => let ⟨o, _, q, _⟩ := ItD.range i h e a ha; ⟨o, q⟩
  stay := fun i h h' e k _ => k I (.head _) _ e
  next := fun i d s Q hd hst hg hQ => by
    obtain ⟨hi, rfl⟩ := rng_get hd
    refine wpAny_pyNext_range_item hst (by (first | lia | omega)) fun h' hit' hs' => ?_
    have e1 : a + (i : Int) * c + c = a + ((i + 1 : Nat) : Int) * c := by rw [Int.natCast_add, Int.add_mul]; simp [Int.add_assoc]
    have e2 : (n : Int) - i - 1 = (n : Int) - ((i + 1 : Nat) : Int) := by (first | lia | omega)
    rw [e1, e2] at hit'
    exact letGo_rangeiter hit' (hQ _ h' _ (fun b o hb e => (hs'.2 b fun q => hb (by rw [q]; exact .head _)).trans e) (fun g' hg' _ => .int _ _) hit')
  done := fun s Q hst hg hQ => by
    have : (rng a c n).length = n := by simp [rng]
    rw [this] at hst
    exact wpAny_pyNext_range_end hh hst (by (first | lia | omega)) fun h' he => hQ h' _ (fun b o hb e => he b o (fun q => hb (by rw [q]; exact .head _)) e) (fun a ha => by cases ha)
  self := fun i s Q hst _ h => wpAny_pyIter_rangeiter hst h

theorem ItE.list {target e : Expr} {ds : List D} (he : Ev w env k loc cells e (.lst ds)) : ItE w env k loc cells cells [] target e ds := by
  intro A g₀ hA S g s Q hg Rl hQ
  refine Tri.use3 (he A g₀ hA S) hg Rl ?_
  rintro x g1 h1 tk1 hg1 R1 r
  obtain ⟨⟨_, _⟩, rfl, hl, rs⟩ := Rep.inv r
  · refine wpAny_pyIter_list (isList_le R1.c.sub hl) ?_
    have fr := R1.fresh (Nat.le_refl _)
    exact hQ _ [h1.objs.size] _ g1 _ tk1 hg1 (R1.up (Le.push _ _)) (fun a ha => by rw [List.mem_singleton.mp ha]; exact fr.1) (fun a ha => by rw [List.mem_singleton.mp ha]; exact fr.2)
      ItD.list (fun p hp => by cases hp) (fun A' hA' => ItS.list hA'.handled hl rs) ⟨_, Heap.get?_push_size _ rfl, rfl, rfl⟩
theorem ItE.tuple {target e : Expr} {ds : List D} (he : Ev w env k loc cells e (.tup ds)) : ItE w env k loc cells cells [] target e ds := by
  intro A g₀ hA S g s Q hg Rl hQ
  refine Tri.use3 (he A g₀ hA S) hg Rl ?_
  rintro x g1 h1 tk1 hg1 R1 r
  obtain ⟨⟨_, _⟩, rfl, hl, rs⟩ := Rep.inv r
  · refine wpAny_pyIter_tuple (isTup_le R1.c.sub hl) ?_
    have fr := R1.fresh (Nat.le_refl _)
    exact hQ _ [h1.objs.size] _ g1 _ tk1 hg1 (R1.up (Le.push _ _)) (fun a ha => by rw [List.mem_singleton.mp ha]; exact fr.1) (fun a ha => by rw [List.mem_singleton.mp ha]; exact fr.2)
      ItD.tuple (fun p hp => by cases hp) (fun A' hA' => ItS.tuple hA'.handled hl rs) ⟨_, Heap.get?_push_size _ rfl, rfl, rfl⟩

/-- range(n) of a name of the built-ins -/
theorem ItE.range1 {target x : Expr} {f : Str} {fp pos : Pos} {n : Int} (hf : Ev w env k loc cells (.Name f fp) (.val (.type "range"))) (hx : Ev w env k loc cells x (.int n)) (hb : -(2 ^ 62) ≤ n ∧ n < 2 ^ 62)
    (he : starEach [x] env = [(false, eval x env)] := by rfl) : ItE w env k loc cells cells [] target (.Call (.Name f fp) [x] [] pos) (rng 0 1 n.toNat) := by
  intro A g₀ hA S g s Q hg Rl hQ
  refine wpAny_Call_NameR (Tri.use3 (hf A g₀ hA S) hg Rl ?_)
  rintro v g1 h1 tk1 hg1 R1 rv
  (first | obtain ⟨_, rfl⟩ := Rep.inv rv | cases rv)
  have hb' : backTo pos (starEach [x] env) = [(false, eval x env)] := by rw [he]; rfl
  rw [hb']
  refine PyProof.Rows.callWith_type rfl (evalArgs_plain (Calls.spliced_cons ?_))
  refine Tri.use3 (hx A g1 hA (S.le (hg.trans hg1))) (Le.refl _) R1 ?_
  rintro v g2 h2 tk2 hg2 R2 rs
  (first | obtain ⟨_, rfl⟩ := Rep.inv rs | cases rs)
  rename_i tn
  refine Calls.spliced_nil ?_
  refine call_range_1 ?_
  refine wpAny_pyIter_range (IsRange.new ..) (small_one (by decide) (by decide) hb.1 hb.2) ?_
  have fr := R2.fresh (a := h2.objs.size + 1) (Nat.le_succ _)
  have sz : (h2.push { cls := .type "range", data := .fields #[.int 0 tk2, .int n tn, .int 1 (tk2 + 1)] }).objs.size = h2.objs.size + 1 := Heap.size_push _ _
  refine hQ _ [h2.objs.size + 1] (fun i h => IsRangeIter h (h2.objs.size + 1) (0 + (i : Int) * 1) ((n.toNat : Int) - i) 1) g2 _ _ (hg1.trans hg2) (R2.up ((Le.push _ _).trans (Le.push _ _))) (fun a ha => by rw [List.mem_singleton.mp ha]; exact fr.1) (fun a ha => by rw [List.mem_singleton.mp ha]; exact fr.2)
      ItD.range (fun p hp => by cases hp) (fun A' hA' => by rw [sz]; exact ItS.range hA'.handled) ?_
  have e : Builtin.Range.rangeSize 0 n 1 = (n.toNat : Int) := by rw [rangeSize_one]; split <;> (first | lia | omega)
  rw [e]
  have := Heap.get?_push_size (h2.push { cls := .type "range", data := .fields #[.int 0 tk2, .int n tn, .int 1 (tk2 + 1)] }) (o := { cls := .type "range_iterator", data := .fields #[rawInt 0, rawInt (n.toNat : Int), rawInt 1] }) rfl
  rw [sz] at this
  simpa using this

/-- enumerate of a list -/
theorem ItD.enum {e I ax : Addr} : ItD [e, I] (fun i h => (∃ old, IsEnum h e I (i : Int) old) ∧ h.IsListIter I ax i) :=
  fun i h ⟨⟨old, e1⟩, ⟨o, e2, c, d⟩⟩ a ha => by
    rcases List.mem_cons.mp ha with rfl | ha
    · exact ⟨_, _, e1, rfl⟩
    · rw [List.mem_singleton.mp ha]; exact ⟨o, _, e2, d⟩
theorem ItS.enum {A : Around} {elts : List Expr} {kk : Nat} {tp : Pos} {e I ax : Addr} {vs : List Value} {ds : List D} {g₀ : Heap} (hh : A.handled = none) (hne : e ≠ I) (hl : g₀.IsList ax vs.toArray) (r : RepAll g₀ vs ds) :
    ItS w A (.Tuple elts kk tp) (.ref e) [e, I] [] (ds.zipIdx.map fun p => .tup [.int (p.2 : Int), p.1]) (fun i h => (∃ old, IsEnum h e I (i : Int) old) ∧ h.IsListIter I ax i) g₀ where
  data := fun i h e a ha => let ⟨o, _, q, _⟩ := ItD.enum i h e a ha; ⟨o, q⟩
  stay := fun i h h' ⟨⟨old, e1⟩, ⟨o, e2, c, d⟩⟩ k _ => ⟨⟨old, k e (.head _) _ e1⟩, o, k I (.tail _ (.head _)) o e2, c, d⟩
  next := fun i d s Q hd hst hg hQ => by
    obtain ⟨⟨old, he⟩, hit⟩ := hst
    rw [List.getElem?_map] at hd
    obtain ⟨⟨d0, j⟩, hz, rfl⟩ := Option.map_eq_some_iff.mp hd
    rw [List.getElem?_zipIdx] at hz
    obtain ⟨d1, h1, h2⟩ := Option.map_eq_some_iff.mp hz
    cases h2
    obtain ⟨v, hv, rv⟩ := r.get h1
    refine wpAny_pyNext_enum_item he hit (isList_le hg hl) (x := v) (by simpa using hv) hne fun h' hout hit' hT hsz hk => ?_
    have hIe : ∀ h'', Heap.SameBut e h' h'' → h''.IsListIter I ax (i + 1) := fun h'' hs => by
      obtain ⟨o, e1, e2⟩ := hit'
      exact ⟨o, (hs.2 I (Ne.symm hne)).trans e1, e2⟩
    have hnew : ∀ o, s.heap.get? s.heap.objs.size = some o → False := fun o q => absurd (Heap.lt_size q) (Nat.lt_irrefl _)
    have hef : e ≠ s.heap.objs.size := Nat.ne_of_lt (Heap.lt_size he)
    refine wpAny_letOwnedTupleGo_enum hout fun h'' hE hs => hQ _ h'' _ (fun b o hb q => (hs.2 b fun z => hb (by rw [z]; exact .head _)).trans (hk b o (fun z => hb (by rw [z]; exact .head _)) (fun z => hb (by rw [z]; exact .tail _ (.head _))) q)) (fun g' hg' n => ?_) ⟨⟨_, by simpa using hE⟩, hIe _ hs⟩
    refine .tup (vs := [.int (i : Int) s.toks, v]) ⟨_, n _ _ ?_ ((hs.2 _ (Ne.symm hef)).trans hT), rfl, 0, rfl⟩ (.cons (by simpa using Rep.int (g := g') (i : Int) s.toks) (.cons (rv.le hg') .nil))
    cases q : s.heap.get? s.heap.objs.size with
    | none => rfl
    | some o => exact (hnew o q).elim
  done := fun s Q hst hg hQ => by
    obtain ⟨⟨old, he⟩, hit⟩ := hst
    refine wpAny_pyNext_enum_end hh he hit (isList_le hg hl) (by simp [r.length]) fun h' he => hQ h' _ (fun b o hb e => he b o (fun q => hb (by rw [q]; exact .tail _ (.head _))) e) (fun a ha => by cases ha)
  self := fun i s Q hst _ h => by
    obtain ⟨⟨old, he⟩, _⟩ := hst
    exact wpAny_pyIter_enum he h
theorem ItE.enum {elts : List Expr} {kk : Nat} {tp : Pos} {x : Expr} {f : Str} {fp pos : Pos} {ds : List D} (hf : Ev w env k loc cells (.Name f fp) (.val (.type "enumerate"))) (hx : Ev w env k loc cells x (.lst ds))
    (he : starEach [x] env = [(false, eval x env)] := by rfl) : ItE w env k loc cells cells [] (.Tuple elts kk tp) (.Call (.Name f fp) [x] [] pos) (ds.zipIdx.map fun p => .tup [.int (p.2 : Int), p.1]) := by
  intro A g₀ hA S g s Q hg Rl hQ
  refine wpAny_Call_NameR (Tri.use3 (hf A g₀ hA S) hg Rl ?_)
  rintro v g1 h1 tk1 hg1 R1 rv
  (first | obtain ⟨_, rfl⟩ := Rep.inv rv | cases rv)
  have hb' : backTo pos (starEach [x] env) = [(false, eval x env)] := by rw [he]; rfl
  rw [hb']
  refine PyProof.Rows.callWith_type rfl (evalArgs_plain (Calls.spliced_cons ?_))
  refine Tri.use3 (hx A g1 hA (S.le (hg.trans hg1))) (Le.refl _) R1 ?_
  rintro v g2 h2 tk2 hg2 R2 rs
  obtain ⟨⟨_, _⟩, rfl, hl, r⟩ := Rep.inv rs
  · refine Calls.spliced_nil ?_
    refine call_enumerate_list (isList_le R2.c.sub hl) fun h' hE hit hsz hk => ?_
    refine wpAny_pyIter_enum hE ?_
    have f0 := R2.fresh (Nat.le_refl _)
    have f1 := R2.fresh (a := h2.objs.size + 1) (Nat.le_succ _)
    refine hQ _ [h2.objs.size + 1, h2.objs.size] _ g2 h' _ (hg1.trans hg2) (R2.up hk) (fun a ha => ?_) (fun a ha => ?_) ItD.enum (fun p hp => by cases hp) (fun A' hA' => ItS.enum hA'.handled (Nat.succ_ne_self _) hl r) ⟨⟨_, hE⟩, hit⟩
    · rcases List.mem_cons.mp ha with rfl | ha
      · exact f1.1
      · rw [List.mem_singleton.mp ha]; exact f0.1
    · rcases List.mem_cons.mp ha with rfl | ha
      · exact f1.2
      · rw [List.mem_singleton.mp ha]; exact f0.2
end
end
/-! F12 -/
section
section
variable {w : World} {env : Env} {k : Nat} {loc : Loc} {cells : Cls} {a b : Int} {x y : Str}
theorem Bin.add : Bin w k .Add (.int a) (.int b) (.int (a + b)) := by
  intro A g x y _ _ rx ry; (first | obtain ⟨_, rfl⟩ := Rep.inv rx | cases rx); (first | obtain ⟨_, rfl⟩ := Rep.inv ry | cases ry)
  exact Pr.val (a := fun t => Value.int (a + b) t) (· + 1) (fun s Q _ h => PyProof.Rows.add_int h) fun _ _ _ => .int _ _
theorem Bin.sub : Bin w k .Sub (.int a) (.int b) (.int (a - b)) := by
  intro A g x y _ _ rx ry; (first | obtain ⟨_, rfl⟩ := Rep.inv rx | cases rx); (first | obtain ⟨_, rfl⟩ := Rep.inv ry | cases ry)
  exact Pr.val (a := fun t => Value.int (a - b) t) (· + 1) (fun s Q _ h => PyProof.Rows.sub_int h) fun _ _ _ => .int _ _
theorem Bin.mul (hm : IntMulOk a b) : Bin w k .Mult (.int a) (.int b) (.int (a * b)) := by
  intro A g x y _ _ rx ry; (first | obtain ⟨_, rfl⟩ := Rep.inv rx | cases rx); (first | obtain ⟨_, rfl⟩ := Rep.inv ry | cases ry)
  exact Pr.val (a := fun t => Value.int (a * b) t) (· + 1) (fun s Q _ h => PyProof.Rows.mul_int h hm) fun _ _ _ => .int _ _
theorem Bin.div (hb : b ≠ 0) (hs : b.natAbs < 1073741824) : Bin w k .FloorDiv (.int a) (.int b) (.int (a.fdiv b)) := by
  intro A g x y _ _ rx ry; (first | obtain ⟨_, rfl⟩ := Rep.inv rx | cases rx); (first | obtain ⟨_, rfl⟩ := Rep.inv ry | cases ry)
  exact Pr.val (a := fun t => Value.int (a.fdiv b) t) (· + 1) (fun s Q _ h => PyProof.Rows.floordiv_int hb h (.inl (PyProof.noPylong_small hs))) fun _ _ _ => .int _ _
theorem Bin.mod (hb : b ≠ 0) : Bin w k .Mod (.int a) (.int b) (.int (a.fmod b)) := by
  intro A g x y _ _ rx ry; (first | obtain ⟨_, rfl⟩ := Rep.inv rx | cases rx); (first | obtain ⟨_, rfl⟩ := Rep.inv ry | cases ry)
  exact Pr.val (a := fun t => Value.int (a.fmod b) t) (· + 1) (fun s Q _ h => PyProof.Rows.mod_int hb h) fun _ _ _ => .int _ _
theorem Bin.pow (hn : 0 ≤ b) (hn2 : b ≤ 1000000) (ha : a.natAbs < 2 ^ 64) : Bin w k .Pow (.int a) (.int b) (.int (a ^ b.toNat)) := by
  intro A g x y _ _ rx ry; (first | obtain ⟨_, rfl⟩ := Rep.inv rx | cases rx); (first | obtain ⟨_, rfl⟩ := Rep.inv ry | cases ry)
  exact Pr.val (a := fun t => Value.int (a ^ b.toNat) t) (· + 1) (fun s Q _ h => PyProof.Rows.pow_int_small hn hn2 ha h) fun _ _ _ => .int _ _
theorem Bin.shr (hn : 0 ≤ b) : Bin w k .RShift (.int a) (.int b) (.int (a.fdiv (2 ^ b.toNat))) := by
  intro A g x y _ _ rx ry; (first | obtain ⟨_, rfl⟩ := Rep.inv rx | cases rx); (first | obtain ⟨_, rfl⟩ := Rep.inv ry | cases ry)
  exact Pr.val (a := fun t => Value.int (a.fdiv (2 ^ b.toNat)) t) (· + 1) (fun s Q _ h => PyProof.Rows.rshift_int hn h) fun _ _ _ => .int _ _
theorem Uny.neg : Uny w k .USub (.int a) (.int (-a)) := by
  intro A g x _ _ rx; (first | obtain ⟨_, rfl⟩ := Rep.inv rx | cases rx)
  exact Pr.val (a := fun t => Value.int (-a) t) (· + 1) (fun s Q _ h => PyProof.Rows.neg_int h) fun _ _ _ => .int _ _
theorem Bin.cat (hz : x.length + y.length ≤ sizeLine) : Bin w k .Add (.str x) (.str y) (.str (x ++ y)) := by
  intro A g u v _ _ rx ry; (first | obtain ⟨_, rfl⟩ := Rep.inv rx | cases rx); (first | obtain ⟨_, rfl⟩ := Rep.inv ry | cases ry)
  intro s Q hg hQ
  exact PyProof.Rows.add_str (fun t' tk => hQ _ s.heap tk (Le.refl _) fun _ _ _ => .str _ _) hz

theorem Cmp.lt : Cmp w k .Lt (.int a) (.int b) (decide (a < b)) := by
  intro A g x y _ _ rx ry; (first | obtain ⟨_, rfl⟩ := Rep.inv rx | cases rx); (first | obtain ⟨_, rfl⟩ := Rep.inv ry | cases ry)
  exact Pr.val (a := fun _ => Value.bool (decide (a < b))) id (fun s Q _ h => PyProof.Rows.lt_int h) fun _ _ _ => .bool _
theorem Cmp.gt : Cmp w k .Gt (.int a) (.int b) (decide (b < a)) := by
  intro A g x y _ _ rx ry; (first | obtain ⟨_, rfl⟩ := Rep.inv rx | cases rx); (first | obtain ⟨_, rfl⟩ := Rep.inv ry | cases ry)
  exact Pr.val (a := fun _ => Value.bool (decide (b < a))) id (fun s Q _ h => PyProof.Rows.gt_int h) fun _ _ _ => .bool _
theorem Cmp.ge : Cmp w k .GtE (.int a) (.int b) (decide (b ≤ a)) := by
  intro A g x y _ _ rx ry; (first | obtain ⟨_, rfl⟩ := Rep.inv rx | cases rx); (first | obtain ⟨_, rfl⟩ := Rep.inv ry | cases ry)
  exact Pr.val (a := fun _ => Value.bool (decide (b ≤ a))) id (fun s Q _ h => PyProof.Rows.ge_int h) fun _ _ _ => .bool _
theorem Cmp.eqi : Cmp w k .Eq (.int a) (.int b) (a == b) := by
  intro A g x y _ _ rx ry; (first | obtain ⟨_, rfl⟩ := Rep.inv rx | cases rx); (first | obtain ⟨_, rfl⟩ := Rep.inv ry | cases ry)
  exact Pr.val (a := fun _ => Value.bool (a == b)) id (fun s Q _ h => PyProof.Rows.eq_int h) fun _ _ _ => .bool _
theorem Cmp.nes : Cmp w k .NotEq (.str x) (.str y) (x != y) := by
  intro A g u v _ _ rx ry; (first | obtain ⟨_, rfl⟩ := Rep.inv rx | cases rx); (first | obtain ⟨_, rfl⟩ := Rep.inv ry | cases ry)
  exact Pr.val (a := fun _ => Value.bool (x != y)) id (fun s Q _ h => PyProof.Rows.ne_str h) fun _ _ _ => .bool _
theorem Tru.str (hz : (x.length : Int) < 2 ^ 63) : Tru w k (.str x) ((x.length : Int) != 0) := by
  intro A g u _ _ rx; (first | obtain ⟨_, rfl⟩ := Rep.inv rx | cases rx)
  exact Pr.val (a := fun _ => ((x.length : Int) != 0)) (fun t => t + 1 + 1) (fun s Q _ h => PySem.P.truthy_str (by (first | lia | omega)) h) fun _ _ _ => rfl

/-! lists as they are read: frozen, or a cell -/
inductive IsLs (cells : Cls) : D → List D → Prop
  | fz {ds : List D} : IsLs cells (.lst ds) ds
  | cell {a : Addr} {ds : List D} : (a, C.lst ds) ∈ cells → IsLs cells (.val (.ref a)) ds
theorem IsLs.at {g h : Heap} {d : D} {ds : List D} {v : Value} (R : Rel w env g h loc cells) (r : Rep g v d) (l : IsLs cells d ds) : ∃ (a : Addr) (vs : List Value), v = .ref a ∧ h.IsList a vs.toArray ∧ RepAll g vs ds := by
  cases l with
  | fz => cases r with | lst hl rs => exact ⟨_, _, rfl, isList_le R.c.sub hl, rs⟩
  | cell hm => cases r with | val => obtain ⟨⟨vs, n, e, rs⟩, _⟩ := R.c.all _ hm; exact ⟨_, vs, rfl, ⟨_, e, rfl, n, rfl⟩, rs⟩

theorem Ev.item {e i : Expr} {pos : Pos} {d x : D} {ds : List D} {n : Int} (he : Ev w env k loc cells e d) (hi : Ev w env k loc cells i (.int n)) (hl : IsLs cells d ds) (h0 : 0 ≤ n) (h63 : n < 2 ^ 63) (hx : ds[n.toNat]? = some x)
    (hs : ∀ o j, subscripted i false o j = operate [o, j] (getItem o j) := by intro _ _; rfl) : Ev w env k loc cells (.Subscript e i pos) x := by
  intro A g₀ hA S g s Q hg Rl hQ
  refine Subscript_ (Tri.use3 (he A g₀ hA S) hg Rl ?_)
  rintro v g1 h1 tk1 hg1 R1 rv
  refine Tri.use3 (hi A g1 hA (S.le (hg.trans hg1))) (Le.refl _) R1 ?_
  rintro j g2 h2 tk2 hg2 R2 rj
  (first | obtain ⟨_, rfl⟩ := Rep.inv rj | cases rj)
  obtain ⟨a, vs, rfl, hL, rs⟩ := hl.at R2 (rv.le hg2)
  obtain ⟨u, hu, ru⟩ := rs.get hx
  refine tail_any (ops := [.ref a, .int n _]) hL.typeIs slot_list_getitem.lookup (wpAny_getItem_list hL h0 h63 (x := u) (by simpa using hu) ?_) (hs _ _)
  exact hQ u g2 h2 _ _ _ (hg1.trans hg2) R2 ⟨ru, rfl, rfl⟩
theorem Ev.itemT {e i : Expr} {pos : Pos} {x : D} {ds : List D} {n : Int} (he : Ev w env k loc cells e (.tup ds)) (hi : Ev w env k loc cells i (.int n)) (h0 : 0 ≤ n) (h63 : n < 2 ^ 63) (hx : ds[n.toNat]? = some x)
    (hs : ∀ o j, subscripted i false o j = operate [o, j] (getItem o j) := by intro _ _; rfl) : Ev w env k loc cells (.Subscript e i pos) x := by
  intro A g₀ hA S g s Q hg Rl hQ
  refine Subscript_ (Tri.use3 (he A g₀ hA S) hg Rl ?_)
  rintro v g1 h1 tk1 hg1 R1 rv
  refine Tri.use3 (hi A g1 hA (S.le (hg.trans hg1))) (Le.refl _) R1 ?_
  rintro j g2 h2 tk2 hg2 R2 rj
  (first | obtain ⟨_, rfl⟩ := Rep.inv rj | cases rj)
  obtain ⟨⟨_, _⟩, rfl, ht, rs⟩ := Rep.inv rv
  · obtain ⟨u, hu, ru⟩ := rs.get hx
    have hT := isTup_le (hg2.trans R2.c.sub) ht
    have hlt : n.toNat < ds.length := (List.getElem?_eq_some_iff.mp hx).1
    refine item_tupleT hT (by (first | lia | omega)) h63 (j := n.toNat) ?_ hu (hQ u g2 h2 _ _ _ (hg1.trans hg2) R2 ⟨ru.le hg2, rfl, rfl⟩) (hs _ _)
    rw [rs.length]
    unfold seqIndex?
    simp only []
    split <;> split <;> simp_all <;> (first | lia | omega)
theorem Ev.len {f : Str} {fp pos : Pos} {e : Expr} {d : D} {ds : List D} (hf : Ev w env k loc cells (.Name f fp) (.val (.builtin "len"))) (he : Ev w env k loc cells e d) (hl : IsLs cells d ds) (hz : (ds.length : Int) < 2 ^ 63)
    (hst : starEach [e] env = [(false, eval e env)] := by rfl) : Ev w env k loc cells (.Call (.Name f fp) [e] [] pos) (.int ds.length) := by
  intro A g₀ hA S g s Q hg Rl hQ
  refine wpAny_Call_NameR (Tri.use3 (hf A g₀ hA S) hg Rl ?_)
  rintro v g1 h1 tk1 hg1 R1 rv
  (first | obtain ⟨_, rfl⟩ := Rep.inv rv | cases rv)
  have hb' : backTo pos (starEach [e] env) = [(false, eval e env)] := by rw [hst]; rfl
  rw [hb']
  refine callWith_builtin rfl (evalArgs_plain (Calls.spliced_cons ?_))
  refine Tri.use3 (he A g1 hA (S.le (hg.trans hg1))) (Le.refl _) R1 ?_
  rintro v g2 h2 tk2 hg2 R2 rs
  obtain ⟨a, vs, rfl, hL, rr⟩ := hl.at R2 rs
  refine Calls.spliced_nil (call_len_list hL (by simpa [rr.length] using hz) ?_)
  have : (vs.toArray.size : Int) = ds.length := by simp [rr.length]
  rw [this]
  exact hQ _ g2 h2 _ _ _ (hg1.trans hg2) R2 ⟨.int _ _, rfl, rfl⟩
theorem Tr.list {e : Expr} {d : D} {ds : List D} (he : Ev w env k loc cells e d) (hl : IsLs cells d ds) (hz : (ds.length : Int) < 2 ^ 63)
    (hw : ∀ whole, isTrue e env whole = (do let v ← whole; standAt e.pos; holding [v] (truthy v)) := by intro _; rfl) : Tr w env k loc cells e (!ds.isEmpty) := by
  intro A g₀ hA S g s Q hg R hQ
  refine wpAny_isTrue_value (Tri.use3 (he A g₀ hA S) hg R ?_) (hw _)
  rintro x g1 h1 tk1 hg1 R1 r1
  obtain ⟨a, vs, rfl, hL, rr⟩ := hl.at R1 r1
  refine wpAny_truthy_list hL (by simpa [rr.length] using hz) ?_
  have : (!vs.toArray.isEmpty) = !ds.isEmpty := by
    have := rr.length
    cases vs <;> cases ds <;> simp_all
  rw [this]
  exact hQ _ g1 h1 _ _ _ hg1 R1 ⟨rfl, rfl, rfl⟩
end
end
/-! F13 -/
section
section
variable {w : World} {env : Env} {k : Nat} {loc : Loc} {cells : Cls}

/-- an optional part of a slice -/
inductive EvP (w : World) (env : Env) (k : Nat) (loc : Loc) (cells : Cls) : Option Expr → Option Int → Prop
  | none : EvP w env k loc cells none none
  | some {e : Expr} {n : Int} : Ev w env k loc cells e (.int n) → EvP w env k loc cells (some e) (some n)
noncomputable def PartIs : Value → Option Int → Prop
  | .none, none => True
  | .int i _, some j => i = j
  | _, _ => False
theorem PartIs.part {v : Value} {o : Option Int} (h : PartIs v o) : IsPart v o := by
  cases v <;> cases o <;> first | exact h.elim | (cases h; exact .none) | (cases h; exact .int _ _)
theorem EvP.tri {o : Option Expr} {r : Option Int} (h : EvP w env k loc cells o r) {A : Around} {g₀ : Heap} (hA : Low k A) (S : Stat w g₀) : Tri w env A g₀ loc cells (evalPart o env) (fun _ v l c => PartIs v r ∧ l = loc ∧ c = cells) := by
  cases h with
  | none => exact fun g s Q hg R hQ => wpAny_pure (hQ _ g s.heap s.toks loc cells (Le.refl _) R ⟨trivial, rfl, rfl⟩)
  | some h => exact (h A g₀ hA S).mono fun _ _ _ _ _ ⟨r, e⟩ => ⟨by (first | obtain ⟨_, rfl⟩ := Rep.inv r | cases r); exact rfl, e⟩

theorem Ev.slice {e : Expr} {lower upper st : Option Expr} {p pos : Pos} {d : D} {ds : List D} {lo hi stp : Option Int} (out : List D) (he : Ev w env k loc cells e d) (hl : IsLs cells d ds) (h1 : EvP w env k loc cells lower lo) (h2 : EvP w env k loc cells upper hi) (h3 : EvP w env k loc cells st stp)
    (h0 : stp ≠ some 0) (hsz : ds.length ≤ sizeLine) (hout : ∀ g vs, RepAll g vs ds → RepAll g (slicePick vs.toArray lo hi stp).toList out)
    (hs : ∃ ops : Value → Value → List Value, ∀ o j, subscripted (.Slice lower upper st p) false o j = operate (ops o j) (getItem o j)) : Ev w env k loc cells (.Subscript e (.Slice lower upper st p) pos) (.lst out) := by
  intro A g₀ hA S g s Q hg Rl hQ
  refine Subscript_ (Tri.use3 (he A g₀ hA S) hg Rl ?_)
  rintro v g1 h1' tk1 hg1 R1 rv
  refine wpAny_Slice (Tri.use3 (h1.tri hA (S.le (hg.trans hg1))) (Le.refl _) R1 ?_)
  rintro v1 g2 h2' tk2 hg2 R2 p1
  refine Tri.use3 (h2.tri hA (S.le ((hg.trans hg1).trans hg2))) (Le.refl _) R2 ?_
  rintro v2 g3 h3' tk3 hg3 R3 p2
  refine Tri.use3 (h3.tri hA (S.le (((hg.trans hg1).trans hg2).trans hg3))) (Le.refl _) R3 ?_
  rintro v3 g4 h4' tk4 hg4 R4 p3
  obtain ⟨a, vs, rfl, hL, rs⟩ := hl.at R4 (rv.le ((hg2.trans hg3).trans hg4))
  obtain ⟨ops, hops⟩ := hs
  have hL' := isList_le (Le.push h4' { cls := .type "slice", data := .fields #[v1, v2, v3] }) hL
  refine tail_any (ops := ops _ _) hL'.typeIs slot_list_getitem.lookup (wpAny_getItem_list_slice hL' (Heap.IsSliceOf.new ..) p1.part p2.part p3.part h0 ?_ (by rw [List.size_toArray, rs.length]; exact hsz)) (hops _ _)
  have kk := Le.push h4' { cls := .type "slice", data := .fields #[v1, v2, v3] }
  have R5 := R4.up kk
  have kk2 := Le.push (h4'.push { cls := .type "slice", data := .fields #[v1, v2, v3] }) { cls := .type "list", data := .seq (slicePick vs.toArray lo hi stp) }
  have fr : ∀ o, (h4'.push { cls := .type "slice", data := .fields #[v1, v2, v3] }).get? (h4'.push { cls := .type "slice", data := .fields #[v1, v2, v3] }).objs.size = some o → False := fun o e => absurd (Heap.lt_size e) (Nat.lt_irrefl _)
  refine hQ _ (Mine.top env _ _) _ _ _ _ ((((hg1.trans hg2).trans hg3).trans hg4).trans (R5.le_top kk2)) (R5.top kk2) ⟨.lst (vs := (slicePick vs.toArray lo hi stp).toList) ⟨_, R5.newIn_top _ _ _ ?_ (Heap.get?_push_size _ rfl), rfl, 0, by simp⟩ ((hout _ _ rs).le (R5.le_top kk2)), rfl, rfl⟩
  cases q : (h4'.push { cls := .type "slice", data := .fields #[v1, v2, v3] }).get? (h4'.push { cls := .type "slice", data := .fields #[v1, v2, v3] }).objs.size with
  | none => rfl
  | some o => exact (fr o q).elim

theorem Ev.upto {e u : Expr} {p pos : Pos} {d : D} {ds : List D} (n : Nat) (he : Ev w env k loc cells e d) (hl : IsLs cells d ds) (h2 : Ev w env k loc cells u (.int (n : Int))) (hsz : ds.length ≤ sizeLine) :
    Ev w env k loc cells (.Subscript e (.Slice Option.none (some u) Option.none p) pos) (.lst (ds.take n)) :=
  Ev.slice _ he hl .none (.some h2) .none (by simp) hsz (fun g vs r => by rw [slicePick_upto']; exact r.take n) ⟨fun o j => [j, o], fun _ _ => rfl⟩
theorem Ev.rev {e u : Expr} {p pos : Pos} {d : D} {ds : List D} (he : Ev w env k loc cells e d) (hl : IsLs cells d ds) (h2 : Ev w env k loc cells u (.int (-1))) (hsz : ds.length ≤ sizeLine) :
    Ev w env k loc cells (.Subscript e (.Slice Option.none Option.none (some u) p) pos) (.lst ds.reverse) :=
  Ev.slice _ he hl .none .none (.some h2) (by simp) hsz (fun g vs r => by rw [krv_pick]; simpa using r.reverse) ⟨fun o j => [o, j], fun _ _ => rfl⟩

/-! a value of a text -/
end
end
/-! F14 -/
section
section
variable {w : World} {env : Env} {k : Nat} {loc loc' : Loc} {cells : Cls} {R : D → Cls → Prop}

/-! new cells -/
theorem Rel.newCell {g h : Heap} {o : Obj} {c : C} (Rl : Rel w env g h loc cells) (ho : o.isFreed = false) (hc : CellIs w g (h.push o) h.objs.size c) (hm : c.mut = true) : Rel w env g (h.push o) loc ((h.objs.size, c) :: cells) := by
  have R1 := Rl.up (Le.push h o)
  have fr := Rl.fresh (Nat.le_refl _)
  refine ⟨⟨R1.c.sub, fun p hp => ?_, ?_⟩, R1.fk, R1.newL, ?_, R1.ns, fun x c hx => ?_, R1.inj, R1.names⟩
  · rcases List.mem_cons.mp hp with rfl | hp
    · exact ⟨hc, fun _ => fr.1⟩
    · exact R1.c.all p hp
  · rw [List.map_cons, List.nodup_cons]; exact ⟨fr.2.2, R1.c.nodup⟩
  · rw [List.map_cons, List.mem_cons, not_or]
    exact ⟨fun e => fr.2.1 (by have e' : env.locals = h.objs.size := e; rw [← e']; exact .head _), R1.notL⟩
  · rename_i c0
    obtain ⟨a1, b1, c1, d1⟩ := R1.own x c hx
    refine ⟨a1, b1, ?_, d1⟩
    rw [List.map_cons, List.mem_cons, not_or]
    exact ⟨fun e => fr.2.1 (by have e' : c = h.objs.size := e; rw [← e']; exact hx.mem), c1⟩
theorem EvC.newList {es : List Expr} {pos : Pos} {ds : List D} (h : EvL w env k loc cells es ds) (hn : ds.length ≤ sizeLine) (hR : ∀ a, R (.val (.ref a)) ((a, .lst ds) :: cells)) : EvC w env k loc cells (.List es pos) R := by
  intro A g₀ hA S g s Q hg Rl hQ
  refine List_ (Tri.use3 (h A g₀ pos hA S) hg Rl ?_)
  rintro vs g1 h1 tk1 hg1 R1 rv
  refine wpAny_newList ?_ (by rw [rv.length]; exact hn)
  exact hQ _ g1 _ _ _ _ hg1 (R1.newCell (c := .lst ds) rfl ⟨vs, 0, Heap.get?_push_size _ rfl, rv⟩ rfl) ⟨_, .val _, rfl, hR _⟩
theorem sysModules_lt {g : Heap} (S : Stat w g) : sysModules < g.objs.size := by
  obtain ⟨mg, mb, h1, _⟩ := S.top
  have := h1.lt
  exact Nat.lt_trans (by decide) this
theorem EvC.newDict {pos : Pos} (hR : ∀ a, R (.val (.ref a)) ((a, .dict [] []) :: cells)) : EvC w env k loc cells (.Dict [] [] pos) R := by
  intro A g₀ hA S g s Q hg Rl hQ
  refine wpAny_Dict_empty ?_
  have lt := sysModules_lt (S.le (hg.trans Rl.c.sub))
  refine hQ _ g _ _ _ _ (Le.refl _) (Rl.newCell (c := .dict [] []) rfl ⟨[], ⟨⟨_, #[], 0, Heap.get?_push_size _ rfl, ⟨rfl, rfl, rfl⟩, rfl, fun e he => (by simp at he), .nil, List.nodup_nil⟩, rfl, fun o es ep q1 q2 => (by rw [Heap.get?_push_size _ rfl] at q1; cases q1; cases q2; rfl)⟩, ?_, .nil⟩ rfl) ⟨_, .val _, rfl, hR _⟩
  simpa using Nat.ne_of_gt lt

/-- a cell that is mutable no more -/
theorem Rel.freeze {g h : Heap} {pre post : Cls} {a : Addr} {ds : List D} (Rl : Rel w env g h loc (pre ++ (a, .lst ds) :: post)) : ∃ g', Le g g' ∧ Rel w env g' h loc (pre ++ post) ∧ Rep g' (.ref a) (.lst ds) := by
  have mem : (a, C.lst ds) ∈ pre ++ (a, .lst ds) :: post := List.mem_append_right _ (.head _)
  have nd := Rl.c.nodup
  have sub : ∀ p, p ∈ pre ++ post → p ∈ pre ++ (a, C.lst ds) :: post := fun p hp => by
    rcases List.mem_append.mp hp with hp | hp
    · exact List.mem_append_left _ hp
    · exact List.mem_append_right _ (.tail _ hp)
  have subA : ∀ b, b ∈ (pre ++ post).map (·.1) → b ∈ (pre ++ (a, C.lst ds) :: post).map (·.1) := fun b hb => by
    obtain ⟨p, hp, e⟩ := List.mem_map.mp hb
    exact List.mem_map.mpr ⟨p, sub p hp, e⟩
  rw [List.map_append, List.map_cons] at nd
  obtain ⟨n1, n2, n3⟩ := List.nodup_append.mp nd
  obtain ⟨n4, n5⟩ := List.nodup_cons.mp n2
  have R1 : Rel w env g h loc (pre ++ post) := by
    refine ⟨⟨Rl.c.sub, fun p hp => Rl.c.all p (sub p hp), ?_⟩, Rl.fk, Rl.newL, fun hm => Rl.notL (subA _ hm), Rl.ns, fun x c hx => ?_, Rl.inj, Rl.names⟩
    · rw [List.map_append]
      exact List.nodup_append.mpr ⟨n1, n5, fun x hx y hy => n3 x hx y (.tail _ hy)⟩
    · obtain ⟨b1, b2, b3, b4⟩ := Rl.own x c hx
      exact ⟨b1, b2, fun hm => b3 (subA _ hm), b4⟩
  obtain ⟨⟨vs, n, e, r⟩, _⟩ := Rl.c.all _ mem
  refine ⟨Mine.top env (pre ++ post) h, R1.le_top (Le.refl _), R1.top (Le.refl _), .lst (vs := vs) ⟨_, hideAll_get _ e fun hm => ?_, rfl, n, rfl⟩ (r.le (R1.le_top (Le.refl _)))⟩
  rcases List.mem_append.mp hm with hm | hm
  · rcases mem_ownOf hm Rl.fk.names with q | ⟨x, hx⟩
    · exact Rl.notL (q ▸ List.mem_map.mpr ⟨_, mem, rfl⟩)
    · exact (Rl.own x a hx).2.2.1 (List.mem_map.mpr ⟨_, mem, rfl⟩)
  · obtain ⟨p, hp, _, q⟩ := mem_muts hm
    rcases List.mem_append.mp hp with hp | hp
    · exact n3 _ (List.mem_map.mpr ⟨p, hp, rfl⟩) _ (.head _) q
    · exact n4 (List.mem_map.mpr ⟨p, hp, q⟩)
/-- a comprehension (or display) whose list is mutable no more -/
theorem Ev.freeze {e : Expr} {ds : List D} (h : EvC w env k loc cells e (fun d c => ∃ a, d = .val (.ref a) ∧ c = (a, .lst ds) :: cells)) : Ev w env k loc cells e (.lst ds) := by
  intro A g₀ hA S g s Q hg Rl hQ
  refine h A g₀ hA S g s _ hg Rl ?_
  rintro v g1 h1 tk1 l1 c1 hg1 R1 ⟨d, rv, rfl, a, rfl, rfl⟩
  (first | obtain ⟨_, rfl⟩ := Rep.inv rv | cases rv)
  obtain ⟨g2, k2, R2, r2⟩ := Rel.freeze (pre := []) R1
  exact hQ _ g2 h1 tk1 _ _ (hg1.trans k2) R2 ⟨r2, rfl, rfl⟩
/-- the same for a name of the frame -/
theorem put_free {g h : Heap} {x : Str} {d d' : D} {v : Value} (Rl : Rel w env g h loc cells) (hx : (x, some d) ∈ loc) (hp : Put x d' loc loc') (hv : ∀ v, Rep g v d → Rep g v d') : Rel w env g h loc' cells := by
  obtain ⟨m, hn, hvs⟩ := Rl.ns
  refine ⟨Rl.c, Rl.fk.put hp, Rl.newL, Rl.notL, ⟨m, hn, fun p hpp => ?_⟩, Rl.own, Rl.inj, hp.names ▸ Rl.names⟩
  rcases hp.mem Rl.names hpp with rfl | ⟨hpp, _⟩
  · have q := hvs _ hx
    unfold VarIs at q ⊢
    have up : ∀ {ov}, RepO g ov (some d) → RepO g ov (some d') := fun {ov} r => by
      obtain ⟨u, e, r⟩ := RepO.of_some r
      subst e
      exact hv u r
    dsimp only at q ⊢
    cases e : env.kindOf x with
    | none => rw [e] at q; exact q.elim
    | some kd =>
      rw [e] at q
      cases kd with
      | «local» => exact up q
      | cell => obtain ⟨c, ov, a, b, r⟩ := q; exact ⟨c, ov, a, b, up r⟩
      | free => obtain ⟨c, ov, a, b, r⟩ := q; exact ⟨c, ov, a, b, up r⟩
      | _ => exact q.elim
  · exact hvs p hpp
theorem Exs.freeze {ss : List Stmt} {P : Post} {x : Str} {a : Addr} {ds : List D} {pre post : Cls} (hx : (x, some (.val (.ref a))) ∈ loc) (hp : Put x (.lst ds) loc loc')
    (h : Exs w env k loc' (pre ++ post) ss P) : Exs w env k loc (pre ++ (a, .lst ds) :: post) ss P := by
  intro A g₀ hA S g s Q hg Rl hQ
  obtain ⟨g2, k2, R2, r2⟩ := Rl.freeze
  refine h A g2 hA (S.le (hg.trans k2)) g2 s Q (Le.refl _) (put_free (v := .none) R2 hx hp fun v r => ?_) fun a g' h' tk' l' c' x y z => hQ a g' h' tk' l' c' (k2.trans x) y z
  (first | obtain ⟨_, rfl⟩ := Rep.inv r | cases r)
  exact r2
/-- a dict that is mutable no more -/
theorem Exs.freezeD {ss : List Stmt} {P : Post} {a : Addr} {ks : List (Str × Tok)} {ds : List D} {pre post : Cls} (h : Exs w env k loc (pre ++ (a, .fdict ks ds) :: post) ss P) : Exs w env k loc (pre ++ (a, .dict ks ds) :: post) ss P := by
  intro A g₀ hA S g s Q hg Rl hQ
  have mem : (a, C.dict ks ds) ∈ pre ++ (a, .dict ks ds) :: post := List.mem_append_right _ (.head _)
  have nd := Rl.c.nodup
  have addr : (pre ++ (a, C.fdict ks ds) :: post).map (·.1) = (pre ++ (a, C.dict ks ds) :: post).map (·.1) := by simp
  rw [List.map_append, List.map_cons] at nd
  obtain ⟨n1, n2, n3⟩ := List.nodup_append.mp nd
  obtain ⟨n4, n5⟩ := List.nodup_cons.mp n2
  obtain ⟨⟨ps, ⟨⟨o, es, ep, e, r⟩, k2, k3⟩, lo, rr⟩, _⟩ := Rl.c.all _ mem
  let g2 := hideAll s.heap (ownOf env ++ muts (pre ++ (a, .fdict ks ds) :: post))
  have notin : a ∉ ownOf env ++ muts (pre ++ (a, .fdict ks ds) :: post) := fun hm => by
    rcases List.mem_append.mp hm with hm | hm
    · rcases mem_ownOf hm Rl.fk.names with q | ⟨x, hx⟩
      · exact Rl.notL (q ▸ List.mem_map.mpr ⟨_, mem, rfl⟩)
      · exact (Rl.own x a hx).2.2.1 (List.mem_map.mpr ⟨_, mem, rfl⟩)
    · obtain ⟨p, hp, hq, q⟩ := mem_muts hm
      rcases List.mem_append.mp hp with hp | hp
      · exact n3 _ (List.mem_map.mpr ⟨p, hp, rfl⟩) _ (.head _) q
      · rcases List.mem_cons.mp hp with rfl | hp
        · cases hq
        · exact n4 (List.mem_map.mpr ⟨p, hp, q⟩)
  have ga : g2.get? a = some o := hideAll_get _ e notin
  have kg : Le g g2 := le_hideAll Rl.c.sub fun b hb => by
    rcases List.mem_append.mp hb with hb | hb
    · exact (Rl.owned (List.mem_append_left _ hb)).1
    · obtain ⟨p, hp, hq, q⟩ := mem_muts hb
      have : p ∈ pre ++ (a, C.dict ks ds) :: post := by
        rcases List.mem_append.mp hp with hp | hp
        · exact List.mem_append_left _ hp
        · rcases List.mem_cons.mp hp with rfl | hp
          · cases hq
          · exact List.mem_append_right _ (.tail _ hp)
      rw [← q]; exact (Rl.c.all p this).2 hq
  obtain ⟨m, hn, hv⟩ := Rl.ns
  have R2 : Rel w env g2 s.heap loc (pre ++ (a, .fdict ks ds) :: post) := by
    refine ⟨⟨hideAll_le _ _, fun p hp => ?_, addr ▸ Rl.c.nodup⟩, Rl.fk, hideAll_none _ (List.mem_append_left _ (.head _)), addr ▸ Rl.notL, ⟨m, hn, fun p hp => (hv p hp).up kg (fun _ => rfl) fun _ _ _ x => x⟩, fun x c hx => ?_, Rl.inj, Rl.names⟩
    · rcases List.mem_append.mp hp with hq | hq
      · exact ⟨(Rl.c.all p (List.mem_append_left _ hq)).1.up kg fun _ e => e, fun m => hideAll_none _ (List.mem_append_right _ (mem_muts' hp m))⟩
      · rcases List.mem_cons.mp hq with rfl | hq
        · exact ⟨⟨ps, ⟨o, ga, e⟩, ⟨⟨o, es, ep, ga, r⟩, k2, fun o' es' ep' q1 q2 => k3 o' es' ep' (hideAll_le _ _ _ _ q1) q2⟩, lo, rr.le kg⟩, fun m => by cases m⟩
        · exact ⟨(Rl.c.all p (List.mem_append_right _ (.tail _ hq))).1.up kg fun _ e => e, fun m => hideAll_none _ (List.mem_append_right _ (mem_muts' hp m))⟩
    · obtain ⟨_, b2, b3, b4⟩ := Rl.own x c hx
      exact ⟨hideAll_none _ (List.mem_append_left _ hx.mem), b2, addr ▸ b3, b4⟩
  exact h A g2 hA (S.le (hg.trans kg)) g2 s Q (Le.refl _) R2 fun a g' h' tk' l' c' x y z => hQ a g' h' tk' l' c' (kg.trans x) y z

/-! a store into a list -/
theorem setItem_plain {A : Around} {s : Shared} {l : Addr} {vs : List Value} {n : Nat} {j : Int} {t : Tok} {v : Value} {Q : Unit → Shared → Prop} (ho : s.heap.get? l = some ({ cls := .type "list", data := .seq vs.toArray n } : Obj)) (h0 : 0 ≤ j) (hfit : j < 2 ^ 63) (hn : j < vs.length)
    (hQ : ∀ h' n', h'.get? l = some ({ cls := .type "list", data := .seq (vs.set j.toNat v).toArray n' } : Obj) → Heap.SameBut l s.heap h' → Q () { s with heap := h' }) : wpAny (model PR w) A (setItem (.ref l) (.int j t) v) Q No s := by
  have hl : s.heap.IsList l vs.toArray := ⟨_, ho, rfl, n, rfl⟩
  unfold setItem
  try with_reducible refine wpAny_holding ?_
  first | refine wpAny_bind (wpAny_pure ?_) | skip
  refine wpAny_bind (wpAny_sequenceKey hl.typeIs (by decide) ?_)
  refine wpAny_bind (wpAny_callSpecial?_slot (name := Str.ofString "__setitem__") hl.typeIs slot_list_setitem
    (wpAny_call_entry slot_list_setitem hl.typeIs entry_list_setitem ?_ (args_list_setitem _ _ _)))
  show wpAny _ _ (Builtin.List.listSubscript? (.int j t) >>= _) _ _ s
  refine wpAny_bind (wpAny_listSubscript_int (fitsIndex_of h0 hfit) ?_)
  clear hfit
  obtain ⟨i, rfl⟩ := Int.eq_ofNat_of_zero_le h0
  have hj : i < vs.length := by (first | lia | omega)
  show wpAny _ _ ((seqItemAt l i >>= fun r => pure (r.map (i, ·))) >>= _) _ _ s
  refine wpAny_bind (wpAny_bind (wpAny_seqItemAt ho rfl (wpAny_pure ?_)))
  rw [show vs.toArray[i]? = some vs[i] from by simp [hj]]
  show wpAny _ _ (setSeqItemAt l i v >>= _) _ _ s
  have fin : (s.heap.update l (Obj.mapSeq (·.setIfInBounds i v))).get? l = some ({ cls := .type "list", data := .seq (vs.set i v).toArray n } : Obj) := by
    rw [Heap.get?_update_self _ ho (by simp [Obj.mapSeq, Obj.isFreed])]
    simp [Obj.mapSeq]
  refine wpAny_bind (wpAny_setSeqItemAt ho rfl ?_)
  first
    | exact wpAny_bind (wpAny_pure (wpAny_pure ⟨.none, rfl, wpAny_pure (hQ _ _ fin (Heap.SameBut.update ..))⟩))
    | exact wpAny_pure ⟨.none, rfl, wpAny_pure (hQ _ _ fin (Heap.SameBut.update ..))⟩

theorem Ex.setItem {o i value : Expr} {p pos : Pos} {P : Post} {a : Addr} {ds : List D} {pre post : Cls} {j : Int} {d : D} (hc : cells = pre ++ (a, .lst ds) :: post) (hv : Ev w env k loc cells value d) (ho : Ev w env k loc cells o (.val (.ref a))) (hi : Ev w env k loc cells i (.int j))
    (h0 : 0 ≤ j) (h63 : j < 2 ^ 63) (hn : j < ds.length) (hP : P .next loc (pre ++ (a, .lst (ds.set j.toNat d)) :: post)) (hs : swapsWith value (some (.Subscript o i p)) pos.line env = pure false := by rfl) :
    Ex w env k loc cells (.Assign [.Subscript o i p] value pos) P := by
  subst hc
  intro A g₀ hA S g s Q hg Rl hQ
  refine wpAny_Assign_Subscript (Tri.use3 (hv A g₀ hA S) hg Rl ?_) hs
  rintro v g1 h1 tk1 hg1 R1 rv
  refine Tri.use3 (ho A g1 hA (S.le (hg.trans hg1))) (Le.refl _) R1 ?_
  rintro ov g2 h2 tk2 hg2 R2 ro
  (first | obtain ⟨_, rfl⟩ := Rep.inv ro | cases ro)
  refine Tri.use3 (hi A g2 hA (S.le ((hg.trans hg1).trans hg2))) (Le.refl _) R2 ?_
  rintro iv g3 h3 tk3 hg3 R3 ri
  (first | obtain ⟨_, rfl⟩ := Rep.inv ri | cases ri)
  obtain ⟨⟨vs, n, e, r⟩, _⟩ := R3.c.all (a, .lst ds) (List.mem_append_right _ (.head _))
  refine setItem_plain e h0 h63 (by rw [r.length]; exact hn) fun h' n' e' hs' => ?_
  exact hQ .next g3 h' _ _ _ ((hg1.trans hg2).trans hg3) (R3.setCell (c' := .lst (ds.set j.toNat d)) ⟨_, n', e', RepAll.set (rv.le (hg2.trans hg3)) _ r⟩ rfl hs') ⟨.next, trivial, hP⟩
end
end
/-! F15 -/
section
section
variable {w : World} {env : Env} {k : Nat} {loc loc' : Loc} {cells : Cls} {R : D → Cls → Prop}

/-- a receiver -/
noncomputable def Recv (w : World) (cells : Cls) (d : D) (T : String) : Prop := ∀ env g (s : Shared) loc v, Rel w env g s.heap loc cells → Rep g v d → s.TypeIs v T ∧ ∀ a, v = .ref a → ∃ ob, s.heap.get? a = some ob ∧ ob.dict = none
theorem Recv.str {x : Str} : Recv w cells (.str x) "str" := fun _ _ _ _ _ _ r => by (first | obtain ⟨_, rfl⟩ := Rep.inv r | cases r); exact ⟨typeIs_str _ _ _, fun a e => by cases e⟩
theorem Recv.lst {a : Addr} {ds : List D} (h : (a, C.lst ds) ∈ cells) : Recv w cells (.val (.ref a)) "list" := fun _ _ _ _ _ R r => by
  (first | obtain ⟨_, rfl⟩ := Rep.inv r | cases r)
  obtain ⟨⟨vs, n, e, _⟩, _⟩ := R.c.all _ h
  exact ⟨⟨_, e, rfl⟩, fun b q => by cases q; exact ⟨_, e, rfl⟩⟩
theorem Recv.dict {a : Addr} {ks : List (Str × Tok)} {ds : List D} (h : (a, C.dict ks ds) ∈ cells) : Recv w cells (.val (.ref a)) "dict" := fun _ _ _ _ _ R r => by
  (first | obtain ⟨_, rfl⟩ := Rep.inv r | cases r)
  obtain ⟨⟨ps, ⟨⟨o, es, ep, e, ex, _⟩, _⟩, _⟩, _⟩ := R.c.all _ h
  obtain ⟨x1, x2, x3⟩ := ex
  exact ⟨⟨_, e, x1⟩, fun b q => by cases q; exact ⟨_, e, x2⟩⟩

theorem EvC.meth {o : Expr} {name : Str} {apos pos : Pos} {args : List Expr} {T id : String} {d : D} {ds : List D} (ho : Ev w env k loc cells o d) (hr : Recv w cells d T) (ha : EvL w env k loc cells args ds) (hF : Fn w k (.builtin id) (d :: ds) cells R)
    (pa : PlainAttrs T) (sl : Slot T name id) (ty : typeOf (.builtin id) = pure (.type "method_descriptor"))
    (hbase : attributeBase o name env (eval o env) = eval o env := by rfl)
    (hfew : ((((backTo pos (starEach args env)).all fun x => !x.1) && (backToKw pos (keywordEach [] env)).all fun x => x.1.isSome) && decide ((args.length + ([] : List Keyword).length + if ([] : List Keyword).isEmpty = true then 0 else 1) < 30)) = true := by rfl)
    (hline : (apos.endLine == pos.line) = true := by rfl) (hplain : (backTo pos (starEach args env)).any (·.1) = false := by rfl)
    (hev : ∀ (M : Model) (A : Around) (E : Value → Shared → Prop) (s : Shared) (f : Value) (Q : Args → Shared → Prop), wpAny M A (spliced (backTo pos (starEach args env))) (fun vs s₁ => Q ⟨vs, []⟩ s₁) E s → wpAny M A (evalArgs f true (backTo pos (starEach args env)) []) Q E s := by
      intro M A E s f Q h; first | exact evalArgs_plain h | exact evalArgs_nil3 h) :
    EvC w env k loc cells (.Call (.Attribute o name apos) args [] pos) R := by
  intro A g₀ hA S g s Q hg Rl hQ
  refine wpAny_Call_method_late hbase hfew hline rfl (Tri.use3 (ho A g₀ hA S) hg Rl ?_)
  rintro v g1 h1 tk1 hg1 R1 rv
  obtain ⟨hT, hD⟩ := hr env g1 { s with heap := h1, toks := tk1 } _ v R1 rv
  refine ⟨T, id, pa, sl, ty, hT, hD, callWith_builtin hplain (hev _ _ _ _ _ _ ?_)⟩
  refine Tri.use3 (ha A g1 pos hA (S.le (hg.trans hg1))) (Le.refl _) R1 ?_
  rintro vs g2 h2 tk2 hg2 R2 rs
  refine Tri.call hF hA (S.le ((hg.trans hg1).trans hg2)) (.cons (rv.le hg2) rs) g2 _ Q (Le.refl _) R2 ?_
  rintro v g3 h3 tk3 l3 c3 hg3 R3 ⟨d, rd, rfl, hR⟩
  exact hQ v g3 h3 tk3 _ c3 ((hg1.trans hg2).trans hg3) R3 ⟨d, rd, rfl, hR⟩
theorem Ev.meth {o : Expr} {name : Str} {apos pos : Pos} {args : List Expr} {T id : String} {d : D} {ds : List D} {r : D} (ho : Ev w env k loc cells o d) (hr : Recv w cells d T) (ha : EvL w env k loc cells args ds) (hF : BFn w k (.builtin id) (d :: ds) r)
    (pa : PlainAttrs T) (sl : Slot T name id) (ty : typeOf (.builtin id) = pure (.type "method_descriptor"))
    (hbase : attributeBase o name env (eval o env) = eval o env := by rfl)
    (hfew : ((((backTo pos (starEach args env)).all fun x => !x.1) && (backToKw pos (keywordEach [] env)).all fun x => x.1.isSome) && decide ((args.length + ([] : List Keyword).length + if ([] : List Keyword).isEmpty = true then 0 else 1) < 30)) = true := by rfl)
    (hline : (apos.endLine == pos.line) = true := by rfl) (hplain : (backTo pos (starEach args env)).any (·.1) = false := by rfl)
    (hev : ∀ (M : Model) (A : Around) (E : Value → Shared → Prop) (s : Shared) (f : Value) (Q : Args → Shared → Prop), wpAny M A (spliced (backTo pos (starEach args env))) (fun vs s₁ => Q ⟨vs, []⟩ s₁) E s → wpAny M A (evalArgs f true (backTo pos (starEach args env)) []) Q E s := by
      intro M A E s f Q h; first | exact evalArgs_plain h | exact evalArgs_nil3 h) :
    Ev w env k loc cells (.Call (.Attribute o name apos) args [] pos) r :=
  Ev.ofC (EvC.meth ho hr ha (BFn.fn hF ⟨rfl, rfl⟩) pa sl ty hbase hfew hline hplain hev)

/-! methods of texts -/
variable {x y : Str}
theorem two {g : Heap} {vs : List Value} {a b : D} (r : RepAll g vs [a, b]) : ∃ u v, vs = [u, v] ∧ Rep g u a ∧ Rep g v b := by
  cases r with
  | cons h r => cases r with
    | cons h2 r => (first | obtain ⟨_, rfl⟩ := Rep.inv r | cases r); exact ⟨_, _, rfl, h, h2⟩
theorem one {g : Heap} {vs : List Value} {a : D} (r : RepAll g vs [a]) : ∃ u, vs = [u] ∧ Rep g u a := by
  cases r with
  | cons h r => (first | obtain ⟨_, rfl⟩ := Rep.inv r | cases r); exact ⟨_, rfl, h⟩
theorem three {g : Heap} {vs : List Value} {a b c : D} (r : RepAll g vs [a, b, c]) : ∃ u v x, vs = [u, v, x] ∧ Rep g u a ∧ Rep g v b ∧ Rep g x c := by
  cases r with
  | cons h r => obtain ⟨u, v, rfl, h1, h2⟩ := two r; exact ⟨_, _, _, rfl, h, h1, h2⟩
theorem M.startswith : BFn w k (.builtin "str.startswith") [.str x, .str y] (.bool (Txt.startswith x y)) := by
  intro A g vs _ _ r
  obtain ⟨u, v, rfl, rx, ry⟩ := two r; (first | obtain ⟨_, rfl⟩ := Rep.inv rx | cases rx); (first | obtain ⟨_, rfl⟩ := Rep.inv ry | cases ry)
  exact Pr.val (a := fun _ => Value.bool (Txt.startswith x y)) id (fun s Q _ h => SC.startswith h) fun _ _ _ => .bool _
theorem M.endswith : BFn w k (.builtin "str.endswith") [.str x, .str y] (.bool (Txt.endswith x y)) := by
  intro A g vs _ _ r
  obtain ⟨u, v, rfl, rx, ry⟩ := two r; (first | obtain ⟨_, rfl⟩ := Rep.inv rx | cases rx); (first | obtain ⟨_, rfl⟩ := Rep.inv ry | cases ry)
  exact Pr.val (a := fun _ => Value.bool (Txt.endswith x y)) id (fun s Q _ h => SC.endswith h) fun _ _ _ => .bool _
theorem M.rfind : BFn w k (.builtin "str.rfind") [.str x, .str y] (.int (Txt.rfind x y)) := by
  intro A g vs _ _ r
  obtain ⟨u, v, rfl, rx, ry⟩ := two r; (first | obtain ⟨_, rfl⟩ := Rep.inv rx | cases rx); (first | obtain ⟨_, rfl⟩ := Rep.inv ry | cases ry)
  exact Pr.val (a := fun t => Value.int (Txt.rfind x y) t) (· + 1) (fun s Q _ h => SC.rfind h) fun _ _ _ => .int _ _
theorem fresh_none (h : Heap) : h.get? h.objs.size = none := by
  cases e : h.get? h.objs.size with
  | none => rfl
  | some o => exact absurd (Heap.lt_size e) (Nat.lt_irrefl _)
theorem rep_strs {g : Heap} : ∀ l : List (Str × Tok), RepAll g (strValues l) ((l.map (·.1)).map .str)
  | [] => .nil
  | p :: l => .cons (.str _ _) (rep_strs l)
theorem M.split (hy : (y.length == 0) = false) (hz : x.length ≤ sizeLine) (hz2 : (Builtin.Str.partsBetween x (Builtin.Str.occurrences x y 0 x.length (x.length + 1)) y.length).length ≤ sizeLine) :
    BFn w k (.builtin "str.split") [.str x, .str y] (.lst ((Txt.split x y).map .str)) := by
  intro A g vs _ _ r
  obtain ⟨u, v, rfl, rx, ry⟩ := two r; (first | obtain ⟨_, rfl⟩ := Rep.inv rx | cases rx); (first | obtain ⟨_, rfl⟩ := Rep.inv ry | cases ry)
  intro s Q hg hQ
  have fin : ∀ (l : List (Str × Tok)) tk, l.map (·.1) = Txt.split x y → Q (.ref s.heap.objs.size) { s with toks := tk, heap := s.heap.push { cls := .type "list", data := .seq (strValues l).toArray } } := by
    intro l tk hl
    refine hQ _ _ tk (Le.push _ _) fun g' hg' n => .lst (vs := strValues l) ⟨_, n _ _ (fresh_none _) (Heap.get?_push_size _ rfl), rfl, 0, rfl⟩ ?_
    rw [← hl]
    exact rep_strs l
  cases h1 : (decide (x.length < y.length) || decide (Builtin.Str.strKind x < Builtin.Str.strKind y))
  · cases hf : (Builtin.Str.occurrences x y 0 x.length (x.length + 1)).isEmpty
    · refine call_meets F.slot_str_split (typeIs_str _ _ _) F.entry_str_split (F.args_str_split_2 _ _) (meets_str_split_sep x y _ _ h1 hy hf hz hz2) ?_
      show wants Q No _ { s with toks := _, heap := s.heap.push { cls := .type "list", data := .seq (strsFrom s.toks (Builtin.Str.partsBetween x (Builtin.Str.occurrences x y 0 x.length (x.length + 1)) y.length)).toArray } }
      rw [strsFrom_eq]
      exact fin (numbered s.toks _) _ ((numbered_texts _ _).trans ((if_neg (ne_true_of_eq_false h1)).trans (if_neg (ne_true_of_eq_false hf))).symm)
    · exact call_meets F.slot_str_split (typeIs_str _ _ _) F.entry_str_split (F.args_str_split_2 _ _) (meets_str_split_not_found x y _ _ h1 hy hf)
        (fin [(x, _)] _ ((if_neg (ne_true_of_eq_false h1)).trans (if_pos hf)).symm)
  · exact call_meets F.slot_str_split (typeIs_str _ _ _) F.entry_str_split (F.args_str_split_2 _ _) (meets_str_split_cannot_occur x y _ _ h1)
      (fin [(x, _)] _ (if_pos h1).symm)
theorem rep_texts {g : Heap} : ∀ {vs : List Value} {ts : List Str}, RepAll g vs (ts.map .str) → ∃ l, vs = strValues l ∧ l.map (·.1) = ts
  | _, [], .nil => ⟨[], rfl, rfl⟩
  | _, t :: ts, .cons h r => by
    obtain ⟨l, rfl, e⟩ := rep_texts r
    cases h
    rename_i tok
    exact ⟨(t, tok) :: l, rfl, by rw [List.map_cons, e]⟩
theorem M.join {ts : List Str} (hok : JoinOk x ts = true) : BFn w k (.builtin "str.join") [.str x, .lst (ts.map .str)] (.str (Txt.join x ts)) := by
  intro A g vs _ _ r
  obtain ⟨u, v, rfl, rx, ry⟩ := two r; (first | obtain ⟨_, rfl⟩ := Rep.inv rx | cases rx); (first | obtain ⟨_, rfl⟩ := Rep.inv ry | cases ry)
  rename_i hl rr
  obtain ⟨l, rfl, e⟩ := rep_texts rr
  intro s Q hg hQ
  exact SC.join (isList_le hg hl) e hok fun t' tk => hQ _ s.heap tk (Le.refl _) fun _ _ _ => .str _ _

/-! methods of mutable lists -/
theorem CRel.setCell {g h h' : Heap} {pre post : Cls} {a : Addr} {c c' : C} (R : CRel w g h (pre ++ (a, c) :: post)) (hc : CellIs w g h' a c') (hm : c.mut = true) (hs : Heap.SameBut a h h') :
    CRel w g h' (pre ++ (a, c') :: post) := by
  have mem : (a, c) ∈ pre ++ (a, c) :: post := List.mem_append_right _ (.head _)
  have ga := (R.all _ mem).2 hm
  have nd := R.nodup
  rw [List.map_append, List.map_cons] at nd
  obtain ⟨_, n2, n3⟩ := List.nodup_append.mp nd
  obtain ⟨n4, _⟩ := List.nodup_cons.mp n2
  have ne : ∀ p, p ∈ pre ++ post → p.1 ≠ a := fun p hp e => by
    rcases List.mem_append.mp hp with hp | hp
    · exact n3 _ (List.mem_map.mpr ⟨p, hp, rfl⟩) _ (.head _) e
    · exact n4 (List.mem_map.mpr ⟨p, hp, e⟩)
  have addr : (pre ++ (a, c') :: post).map (·.1) = (pre ++ (a, c) :: post).map (·.1) := by simp
  refine ⟨fun b o e => (hs.2 b fun q => by rw [q, ga] at e; cases e).trans (R.sub b o e), fun p hp => ?_, addr ▸ R.nodup⟩
  rcases List.mem_append.mp hp with hp | hp
  · have := R.all p (List.mem_append_left _ hp)
    exact ⟨this.1.up (Le.refl _) fun o e => (hs.2 _ (ne p (List.mem_append_left _ hp))).trans e, this.2⟩
  · rcases List.mem_cons.mp hp with rfl | hp
    · exact ⟨hc, fun _ => ga⟩
    · have := R.all p (List.mem_append_right _ (.tail _ hp))
      exact ⟨this.1.up (Le.refl _) fun o e => (hs.2 _ (ne p (List.mem_append_right _ hp))).trans e, this.2⟩
theorem sameAddr {pre post : Cls} {a : Addr} {c c' : C} : (pre ++ (a, c') :: post).map (·.1) = (pre ++ (a, c) :: post).map (·.1) := by simp
theorem M.append {a : Addr} {ds : List D} {d : D} {pre post : Cls} (hc : cells = pre ++ (a, .lst ds) :: post) (hz : ds.length ≤ sizeLine) (hR : R .none (pre ++ (a, .lst (ds ++ [d])) :: post)) : Fn w k (.builtin "list.append") [.val (.ref a), d] cells R := by
  subst hc
  intro A g s vs Q _ S C r hQ
  obtain ⟨u, v, rfl, rx, rd⟩ := two r
  (first | obtain ⟨_, rfl⟩ := Rep.inv rx | cases rx)
  obtain ⟨⟨vs, n, e, r⟩, _⟩ := C.all (a, .lst ds) (List.mem_append_right _ (.head _))
  refine wpAny_list_append_plain (items := vs.toArray) ⟨n, e⟩ (fun h' ⟨n', e'⟩ hs => ?_) (by simpa [r.length] using hz)
  exact hQ .none g h' s.toks .none _ (Le.refl _) (C.setCell (c' := .lst (ds ++ [d])) ⟨vs ++ [v], n', by rw [e']; simp, RepAll.append (.cons rd .nil) r⟩ rfl hs) sameAddr .none hR
theorem M.pop {a : Addr} {ds : List D} {d : D} {pre post : Cls} (hc : cells = pre ++ (a, .lst (ds ++ [d])) :: post) (hz : ds.length + 1 ≤ sizeLine) (hR : R d (pre ++ (a, .lst ds) :: post)) : Fn w k (.builtin "list.pop") [.val (.ref a)] cells R := by
  subst hc
  intro A g s vs Q _ S C r hQ
  obtain ⟨u, rfl, rx⟩ := one r
  (first | obtain ⟨_, rfl⟩ := Rep.inv rx | cases rx)
  obtain ⟨⟨vs, n, e, r⟩, _⟩ := C.all (a, .lst (ds ++ [d])) (List.mem_append_right _ (.head _))
  have hl := r.length
  rw [List.length_append, List.length_singleton] at hl
  obtain ⟨v, hv, rv⟩ := r.get (i := ds.length) (d := d) (by simp)
  have r' : RepAll g (vs.take ds.length) ds := by have := r.take ds.length; simpa using this
  refine call_meets F.slot_list_pop ⟨_, e, rfl⟩ F.entry_list_pop (F.args_list_pop_1 _) (MeetsSeq.list_pop_last a vs.toArray n v (by rw [List.size_toArray, hl, Nat.add_sub_cancel, List.getElem?_toArray]; exact hv) (by simpa [hl] using hz)) ⟨e, ?_⟩
  refine hQ v g _ s.toks d _ (Le.refl _) (C.setCell (c' := .lst ds) ⟨vs.take ds.length, (if vs.length - 1 = vs.length then n else n + 1), ?_, r'⟩ rfl (Heap.SameBut.update ..)) sameAddr rv hR
  rw [Heap.get?_update_self _ e (by simp [Obj.mapSeq, Obj.isFreed])]
  have : vs.dropLast = vs.take ds.length := by rw [List.dropLast_eq_take, hl]; rfl
  simp [Obj.mapSeq, this]
  rw [show min ds.length vs.length = vs.length - 1 by (first | lia | omega)]

/-! mutable dicts -/
noncomputable def dget : List Str → List D → Str → Option D
  | x :: ks, d :: ds, y => if x = y then some d else dget ks ds y
  | _, _, _ => none
noncomputable def dput : List Str → List D → Str → D → List Str × List D
  | x :: ks, d :: ds, y, e => if x = y then (x :: ks, e :: ds) else ((x :: (dput ks ds y e).1), (d :: (dput ks ds y e).2))
  | _, _, y, e => ([y], [e])
theorem valueAt_rep {g : Heap} (x : Str) : ∀ {ps : List (Str × Value)} {ds : List D}, RepAll g (ps.map (·.2)) ds → RepO g (valueAt ps x) (dget (ps.map (·.1)) ds x)
  | [], _, .nil => trivial
  | (n, v) :: ps, d :: ds, .cons h r => by
    unfold valueAt
    rw [List.find?_cons]
    show RepO g _ (if n = x then some d else _)
    by_cases e : n = x
    · simp only [e, decide_true, if_true]; exact h
    · simp only [e, decide_false, if_false]; exact valueAt_rep x r
theorem stored_rep {g : Heap} (x : Str) {u : Value} {e : D} (hu : Rep g u e) : ∀ {ps : List (Str × Value)} {ds : List D}, (ps.map (·.1)).Nodup → RepAll g (ps.map (·.2)) ds →
    (stored ps x u).map (·.1) = (dput (ps.map (·.1)) ds x e).1 ∧ RepAll g ((stored ps x u).map (·.2)) (dput (ps.map (·.1)) ds x e).2
  | [], _, _, .nil => ⟨rfl, .cons hu .nil⟩
  | (n, v) :: ps, d :: ds, hn, .cons h r => by
    rw [List.map_cons, List.nodup_cons] at hn
    have ih := stored_rep x hu hn.2 r
    unfold dput
    rw [List.map_cons]
    by_cases q : n = x
    · subst q
      have off : ps.map (fun kv => if kv.1 = n then (kv.1, u) else kv) = ps := by
        conv => rhs; rw [← List.map_id ps]
        refine List.map_congr_left fun kv hkv => ?_
        rw [if_neg (fun z : kv.1 = n => hn.1 (List.mem_map.mpr ⟨kv, hkv, z⟩))]; rfl
      have : stored ((n, v) :: ps) n u = (n, u) :: ps := by
        unfold stored
        rw [if_pos (by simp), List.map_cons, if_pos rfl, off]
      rw [this]
      simp only [if_true]
      exact ⟨rfl, .cons hu r⟩
    · have : stored ((n, v) :: ps) x u = (n, v) :: stored ps x u := by
        unfold stored
        rw [List.any_cons]
        simp only [q, decide_false, Bool.false_or]
        split
        · rw [List.map_cons, if_neg q]
        · rfl
      rw [this]
      simp only [q, if_false]
      exact ⟨by rw [List.map_cons, ih.1], .cons h ih.2⟩
theorem M.dget {a : Addr} {ks : List (Str × Tok)} {ds : List D} {d : D} (hc : (a, C.dict ks ds) ∈ cells) (hR : R ((dget (ks.map (·.1)) ds x).getD d) cells) : Fn w k (.builtin "dict.get") [.val (.ref a), .str x, d] cells R := by
  intro A g s vs Q _ S C r hQ
  obtain ⟨u, v, y, rfl, rx, ry, rd⟩ := three r
  (first | obtain ⟨_, rfl⟩ := Rep.inv rx | cases rx); (first | obtain ⟨_, rfl⟩ := Rep.inv ry | cases ry)
  obtain ⟨⟨ps, ⟨hd, e1, _⟩, lo, r⟩, _⟩ := C.all _ hc
  rw [← e1] at hR
  refine call_meetsIn F.slot_dict_get hd.typeIs F.entry_dict_get (F.args_dict_get_3 _ _ _) (meets_dict_get_default (strKind PR w) a (k := x) (strKind_is PR w x _) lo y) ⟨_, hd.mapOf, ?_⟩
  refine hQ _ g s.heap (s.toks + 1) _ cells (Le.refl _) C rfl ?_ hR
  have := valueAt_rep x r
  cases q : valueAt ps x with
  | none => rw [q] at this; cases q2 : Mine.dget (ps.map (·.1)) ds x with
    | none => exact rd
    | some _ => rw [q2] at this; exact this.elim
  | some v' => rw [q] at this; cases q2 : Mine.dget (ps.map (·.1)) ds x with
    | none => rw [q2] at this; exact this.elim
    | some _ => rw [q2] at this; exact this
end
end
/-! F16 -/
section
section
variable {w : World} {env : Env} {k : Nat} {loc loc' : Loc} {cells : Cls} {R : Post}

noncomputable def Inp (w : World) (k : Nat) (op : Operator) (a b d : D) : Prop := ∀ A g x y, Low k A → Stat w g → Rep g x a → Rep g y b → PrV w A g (inplaceOp op x y) d
theorem Inp.add {a b : Int} : Inp w k .Add (.int a) (.int b) (.int (a + b)) := by
  intro A g x y _ _ rx ry; (first | obtain ⟨_, rfl⟩ := Rep.inv rx | cases rx); (first | obtain ⟨_, rfl⟩ := Rep.inv ry | cases ry)
  exact Pr.val (a := fun t => Value.int (a + b) t) (· + 1) (fun s Q _ h => wpAny_iadd_int h) fun _ _ _ => .int _ _
theorem Inp.xor {a b : Int} : Inp w k .BitXor (.int a) (.int b) (.int (Builtin.bitXor a b)) := by
  intro A g x y _ _ rx ry; (first | obtain ⟨_, rfl⟩ := Rep.inv rx | cases rx); (first | obtain ⟨_, rfl⟩ := Rep.inv ry | cases ry)
  exact Pr.val (a := fun t => Value.int (Builtin.bitXor a b) t) (· + 1) (fun s Q _ h => PyProof.Rows.ixor_int h) fun _ _ _ => .int _ _
theorem Inp.sub {a b : Int} : Inp w k .Sub (.int a) (.int b) (.int (a - b)) := by
  intro A g x y _ _ rx ry; (first | obtain ⟨_, rfl⟩ := Rep.inv rx | cases rx); (first | obtain ⟨_, rfl⟩ := Rep.inv ry | cases ry)
  exact Pr.val (a := fun t => Value.int (a - b) t) (· + 1) (fun s Q _ h => AutoIntOps.isub_0 h) fun _ _ _ => .int _ _
theorem Inp.cat {x y : Str} (hz : x.length + y.length ≤ sizeLine) : Inp w k .Add (.str x) (.str y) (.str (x ++ y)) := by
  intro A g u v _ _ rx ry; (first | obtain ⟨_, rfl⟩ := Rep.inv rx | cases rx); (first | obtain ⟨_, rfl⟩ := Rep.inv ry | cases ry)
  intro s Q hg hQ
  exact SB.iadd (fun t' tk => hQ _ s.heap tk (Le.refl _) fun _ _ _ => .str _ _) hz

theorem Ex.aug {x : Str} {p pos : Pos} {e : Expr} {op : Operator} {a b d : D} (hx : (x, some a) ∈ loc) (h : Ev w env k loc cells e b) (ho : Inp w k op a b d) (hp : Put x d loc loc') (hk : env.kindOf x ≠ some .free) (hR : R .next loc' cells) :
    Ex w env k loc cells (.AugAssign (.Name x p) op e pos) R := by
  intro A g₀ hA S g s Q hg Rl hQ
  refine wpAny_AugAssign_Name (Tri.use3 (Tri.load (A := A) hx) (Le.refl _) Rl ?_)
  rintro v g1 h1 tk1 hg1 R1 rv
  refine Tri.use3 (h A g₀ hA S) (hg.trans hg1) R1 ?_
  rintro u g2 h2 tk2 hg2 R2 ru
  refine Tri.use3 (Tri.pr (ho A g2 v u hA (S.le ((hg.trans hg1).trans hg2)) (rv.le hg2) ru)) (Le.refl _) R2 ?_
  rintro y g3 h3 tk3 hg3 R3 ry
  refine Tri.store hp hk ry g3 _ _ (Le.refl _) R3 ?_
  rintro _ g4 h4 tk4 l4 c4 hg4 R4 ⟨rfl, rfl⟩
  exact hQ _ g4 h4 tk4 _ _ (((hg1.trans hg2).trans hg3).trans hg4) R4 ⟨.next, trivial, hR⟩

/-! a list that grows by a list -/
theorem seq_list_iadd : seqSlot? (.type "list") "__iadd__" = pure (some (.builtin "list.__iadd__")) := PySem.seqSlot_of F.slot_list_iadd.lookup (by decide +kernel)
theorem fills_list_iadd : fillsInplaceSlot (.type "list") "add" true = pure false := by
  unfold fillsInplaceSlot
  show (typeLookup (.type "list") (dunderI "add") >>= fun fi => _) = _
  rw [F.slot_list_iadd.lookup]
  show (pure _ : Sem Bool) = _
  congr 1
theorem wpAny_iadd_lists {A : Around} {s : Shared} {l b : Addr} {its its2 : Array Value} {n n2 : Nat} {Q : Value → Shared → Prop} (hl : IsL s.heap l its n) (hb : IsL s.heap b its2 n2) (hz : its.size + its2.size ≤ sizeLine)
    (h : Q (.ref l) { s with heap := s.heap.update l (Obj.mapSeq fun x => x ++ its2) }) : wpAny (model PR w) A (inplaceOp .Add (.ref l) (.ref b)) Q No s := by
  have ha : s.TypeIs (.ref l) "list" := ⟨_, hl, rfl⟩
  have hb' : s.TypeIs (.ref b) "list" := ⟨_, hb, rfl⟩
  unfold inplaceOp
  refine wpAny_holding ?_
  refine wpAny_bind (wpAny_typeOf ha (wpAny_bind (wpAny_of_eq fills_list_iadd ?_)))
  show wpAny _ A (if false = true then _ else _) Q No s
  rw [if_neg Bool.false_ne_true]
  refine wpAny_bind (wpAny_binaryOp1_none (nm := "add") ha hb' noFill_list_add ?_)
  refine wpAny_bind (wpAny_of_eq seq_list_iadd ?_)
  refine wpAny_bind (wpAny_rule ?_)
  exact call_meets F.slot_list_iadd ha F.entry_list_iadd (F.args_list_iadd_2 _ _) (AutoSeq1.list___iadd___list_list_0 l its n b its2 n2 (extend_door hz) (Nat.le_trans (Nat.le_add_right _ _) hz) (Nat.le_succ_of_le hz)) ⟨hl, hb, h⟩

/-! items of a dict -/
theorem dget_at {g : Heap} (x : Str) {ps : List (Str × Value)} {ds : List D} {d : D} (r : RepAll g (ps.map (·.2)) ds) (h : dget (ps.map (·.1)) ds x = some d) : ∃ v, valueAt ps x = some v ∧ Rep g v d := by
  have := valueAt_rep x r
  rw [h] at this
  exact RepO.of_some this

theorem Ev.ditem {e i : Expr} {pos : Pos} {a : Addr} {ks : List (Str × Tok)} {ds : List D} {x : Str} {d : D} (he : Ev w env k loc cells e (.val (.ref a))) (hi : Ev w env k loc cells i (.str x)) (hc : (a, C.dict ks ds) ∈ cells ∨ (a, C.fdict ks ds) ∈ cells) (hx : dget (ks.map (·.1)) ds x = some d)
    (hs : ∀ o j, subscripted i false o j = operate [o, j] (getItem o j) := by intro _ _; rfl) : Ev w env k loc cells (.Subscript e i pos) d := by
  intro A g₀ hA S g s Q hg Rl hQ
  refine Subscript_ (Tri.use3 (he A g₀ hA S) hg Rl ?_)
  rintro v g1 h1 tk1 hg1 R1 rv
  refine Tri.use3 (hi A g1 hA (S.le (hg.trans hg1))) (Le.refl _) R1 ?_
  rintro j g2 h2 tk2 hg2 R2 rj
  (first | obtain ⟨_, rfl⟩ := Rep.inv rj | cases rj); (first | obtain ⟨_, rfl⟩ := Rep.inv rv | cases rv)
  have : ∃ ps : List (Str × Value), h2.DictOf (strKind PR w) a ps ∧ ps.map (·.1) = ks.map (·.1) ∧ RepAll g2 (ps.map (·.2)) ds := by
    rcases hc with hc | hc
    · obtain ⟨⟨ps, ⟨hd, e, _⟩, lo, r⟩, _⟩ := R2.c.all _ hc; exact ⟨ps, hd, e, r⟩
    · obtain ⟨⟨ps, _, ⟨hd, e, _⟩, lo, r⟩, _⟩ := R2.c.all _ hc; exact ⟨ps, dictOf_at hd (fun o e => R2.c.sub _ _ e), e, r⟩
  obtain ⟨ps, hd, e, r⟩ := this
  rw [← e] at hx
  obtain ⟨u, hu, ru⟩ := dget_at x r hx
  refine tail_any (ops := [.ref a, .str x _]) hd.typeIs F.slot_dict_getitem.lookup (wpAny_getItem_of (strKind_is PR w x _) hd.mapOf hu ?_) (hs _ _)
  exact hQ u g2 h2 _ _ _ (hg1.trans hg2) R2 ⟨ru, rfl, rfl⟩

/-- what stands behind a store, with its keys -/
noncomputable def kput (ks : List (Str × Tok)) (x : Str) (t : Tok) : List (Str × Tok) := if (ks.map (·.1)).contains x then ks else ks ++ [(x, t)]
theorem kput_fst {ks : List (Str × Tok)} {x : Str} {t : Tok} : (kput ks x t).map (·.1) = if (ks.map (·.1)).contains x then ks.map (·.1) else ks.map (·.1) ++ [x] := by
  unfold kput; split <;> simp
theorem keys_modify : ∀ (l : List DictEntry) (i : Nat) (v : Value), (l.modify i fun e => { e with val := v }).map (·.key) = l.map (·.key)
  | [], i, v => by simp
  | e :: l, 0, v => by simp
  | e :: l, i + 1, v => by simp [keys_modify l i v]
theorem setItem_keys {A : Around} {s : Shared} {d : Addr} {kvs : List (Str × Value)} {ks : List (Str × Tok)} {x : Str} {t : Tok} {v : Value} {Q : Unit → Shared → Prop} (hm : DictK w s.heap d kvs ks)
    (hQ : ∀ h', DictK w h' d (stored kvs x v) (kput ks x t) → Heap.SameBut d s.heap h' → Q () { s with heap := h', toks := s.toks + 1 })
    (hsz : kvs.length ≤ sizeLine) : wpAny (model PR w) A (setItem (.ref d) (.str x t) v) Q No s := by
  obtain ⟨hm0, hks, hkeys⟩ := hm
  have hkey : (strKind PR w).is x (.str x t) = true := strKind_is PR w x t
  unfold setItem
  try with_reducible refine wpAny_holding ?_
  refine wpAny_bind (wpAny_sequenceKey hm0.typeIs (by decide) ?_)
  refine wpAny_bind (wpAny_callSpecial?_slot (name := Str.ofString "__setitem__") hm0.typeIs F.slot_dict_setitem
    (wpAny_call_entry F.slot_dict_setitem hm0.typeIs F.entry_dict_setitem ?_ (F.args_dict_setitem_3 _ _ _)))
  show wpAny _ _ (Builtin.Dict.notOrdered "__setitem__" ⟨[.ref d, .str x t, v], []⟩ >>= _) _ _ s
  refine wpAny_bind (wpAny_notOrdered_dict hm0.typeIs ?_)
  show wpAny _ _ (dictSet d (.str x t) v >>= _) _ _ s
  refine wpAny_bind ?_
  have hc1 : (ks.map (·.1)).contains x = kvs.any (fun kv => decide (kv.1 = x)) := by
    rw [← hks]
    clear hQ hsz hm0 hks hkeys
    induction kvs with
    | nil => rfl
    | cons kv kvs ih =>
      rw [List.map_cons, List.contains_cons, List.any_cons, ih]
      congr 1
      by_cases q : kv.1 = x
      · simp [q]
      · have : ¬ x = kv.1 := fun e => q e.symm
        simp [q, this]
  obtain ⟨o, es, ep, ho, hc, hd, hk, hp, hn⟩ := hm0
  have hes : es.size ≤ sizeLine := by have e1 := hp.length; have e2 : es.toList.length = es.size := by simp
                                      (first | lia | omega)
  have hkeys' := hkeys o es ep ho hd
  unfold dictSet
  try with_reducible refine wpAny_holding ?_
  refine wpAny_bind ((strKind PR w).pyHash hkey ?_)
  unfold dictSetHashed
  try with_reducible refine wpAny_holding ?_
  refine wpAny_bind (wpAny_dictFind_of (s := { s with toks := s.toks + 1 }) hkey ho hd hk ?_)
  have hidx : (es.findIdx? fun e => (strKind PR w).is x e.key) = kvs.findIdx? fun kv => decide (kv.1 = x) := by
    rw [← hp.findIdx x]; obtain ⟨l⟩ := es; simp
  cases hi : es.findIdx? fun e => (strKind PR w).is x e.key with
  | some i =>
    have hany := any_of_findIdx_some (hidx ▸ hi)
    have hput : kput ks x t = ks := by unfold kput; rw [hc1, if_pos hany]
    have g1 := Heap.get?_update_self (Obj.mapDict fun es => es.modify i fun e => { e with val := v }) ho (Obj.isFreed_of_dict (Obj.data_mapDict hd _))
    refine wpAny_bind (wpAny_rule (wpAny_bind (wpAny_updateDict (s := { s with toks := s.toks + 1 }) ho hd (wpAny_point (wpAny_pure ⟨.none, rfl, wpAny_pure (hQ _ ⟨⟨_, _, ep, g1,
      hc.mapDict _, Obj.data_mapDict hd _, hk.modify _ _, ?_, ?_⟩, ?_, ?_⟩ (Heap.SameBut.update ..))⟩)))))
    · rw [stored, if_pos hany]
      have hl : (es.toList.findIdx? fun e => (strKind PR w).is x e.key) = some i := by rw [← hi]; obtain ⟨l⟩ := es; simp
      have := hp.modify hn hl v
      obtain ⟨l⟩ := es
      simpa using this
    · rw [stored, if_pos hany, keys_map_store]; exact hn
    · rw [stored, if_pos hany, keys_map_store, hput, hks]
    · intro o' es' ep' q1 q2
      rw [g1] at q1; cases q1
      rw [Obj.data_mapDict hd] at q2
      cases q2
      rw [hput, ← hkeys']
      obtain ⟨l⟩ := es
      simp only [Array.toList_modify]
      exact keys_modify l i v
  | none =>
    have hnot : x ∉ kvs.map (·.1) := not_mem_of_findIdx_none (hidx ▸ hi)
    have hany : ¬ (kvs.any fun kv => decide (kv.1 = x)) = true := by
      rw [List.any_eq_true]; rintro ⟨kv, hkv, he⟩
      exact hnot (List.mem_map.mpr ⟨kv, hkv, of_decide_eq_true he⟩)
    have hput : kput ks x t = ks ++ [(x, t)] := by unfold kput; rw [hc1, if_neg hany]
    have g1 := Heap.get?_update_self (Obj.mapDictKeys fun es => es.push { key := .str x t, hash := (strKind PR w).hash x, val := v }) ho (Obj.isFreed_of_dict (Obj.data_mapDictKeys hd _))
    refine wpAny_bind (wpAny_rule (wpAny_updateDictKeys (hz := hes) (s := { s with toks := s.toks + 1 }) ho hd (wpAny_pure ⟨.none, rfl, wpAny_pure (hQ _ ⟨⟨_, _, ep + 1, g1,
      hc.mapDictKeys _, Obj.data_mapDictKeys hd _, hk.push hkey _, ?_, ?_⟩, ?_, ?_⟩ (Heap.SameBut.update ..))⟩)))
    · rw [stored, if_neg hany]
      have := hp.append hkey ((strKind PR w).hash x) v
      obtain ⟨l⟩ := es
      simpa using this
    · rw [stored, if_neg hany, List.map_append, List.nodup_append]
      refine ⟨hn, by simp, ?_⟩
      intro a ha b hb
      simp only [List.map_cons, List.map_nil, List.mem_singleton] at hb
      subst hb
      exact fun e => hnot (e ▸ ha)
    · rw [stored, if_neg hany, hput]; simp [hks]
    · intro o' es' ep' q1 q2
      rw [g1] at q1; cases q1
      rw [Obj.data_mapDictKeys hd] at q2
      cases q2
      rw [hput]
      simp [strValues, hkeys']

theorem Ex.setD {o i value : Expr} {p pos : Pos} {P : Post} {a : Addr} {ks : List (Str × Tok)} {ds : List D} {pre post : Cls} {x : Str} {t : Tok} {d : D} (hc : cells = pre ++ (a, .dict ks ds) :: post) (hv : Ev w env k loc cells value d) (ho : Ev w env k loc cells o (.val (.ref a))) (hi : Ev w env k loc cells i (.val (.str x t)))
    (hz : ds.length ≤ sizeLine) (hP : P .next loc (pre ++ (a, .dict (kput ks x t) (dput (ks.map (·.1)) ds x d).2) :: post)) (hs : swapsWith value (some (.Subscript o i p)) pos.line env = pure false := by rfl) :
    Ex w env k loc cells (.Assign [.Subscript o i p] value pos) P := by
  subst hc
  intro A g₀ hA S g s Q hg Rl hQ
  refine wpAny_Assign_Subscript (Tri.use3 (hv A g₀ hA S) hg Rl ?_) hs
  rintro v g1 h1 tk1 hg1 R1 rv
  refine Tri.use3 (ho A g1 hA (S.le (hg.trans hg1))) (Le.refl _) R1 ?_
  rintro ov g2 h2 tk2 hg2 R2 ro
  (first | obtain ⟨_, rfl⟩ := Rep.inv ro | cases ro)
  refine Tri.use3 (hi A g2 hA (S.le ((hg.trans hg1).trans hg2))) (Le.refl _) R2 ?_
  rintro iv g3 h3 tk3 hg3 R3 ri
  (first | obtain ⟨_, rfl⟩ := Rep.inv ri | cases ri)
  obtain ⟨⟨ps, hd, lo, r⟩, _⟩ := R3.c.all (a, .dict ks ds) (List.mem_append_right _ (.head _))
  have nd : (ps.map (·.1)).Nodup := by obtain ⟨⟨_, _, _, _, _, _, _, _, n⟩, _⟩ := hd; exact n
  obtain ⟨e1, e2⟩ := stored_rep x (rv.le (hg2.trans hg3)) nd r
  rw [hd.2.1] at e2
  refine setItem_keys hd (fun h' hd' hs' => ?_) (by have := r.length; rw [List.length_map] at this; (first | lia | omega))
  exact hQ .next g3 h' _ _ _ ((hg1.trans hg2).trans hg3) (R3.setCell (c' := .dict (kput ks x t) (dput (ks.map (·.1)) ds x d).2) ⟨_, hd', lo, e2⟩ rfl hs') ⟨.next, trivial, hP⟩

/-- `x += [..]`, x a list in a cell -/
theorem Ex.augL {x : Str} {p pos : Pos} {e : Expr} {a : Addr} {ds es : List D} {pre post : Cls} (hc : cells = pre ++ (a, .lst ds) :: post) (hx : (x, some (.val (.ref a))) ∈ loc) (h : EvC w env k loc cells e (fun d c => ∃ b, d = .val (.ref b) ∧ c = (b, .lst es) :: cells))
    (hp : Put x (.val (.ref a)) loc loc) (hk : env.kindOf x ≠ some .free) (hz : ds.length + es.length ≤ sizeLine) (hR : R .next loc (pre ++ (a, .lst (ds ++ es)) :: post)) :
    Ex w env k loc cells (.AugAssign (.Name x p) .Add e pos) R := by
  subst hc
  intro A g₀ hA S g s Q hg Rl hQ
  refine wpAny_AugAssign_Name (Tri.use3 (Tri.load (A := A) hx) (Le.refl _) Rl ?_)
  rintro v g1 h1 tk1 hg1 R1 rv
  (first | obtain ⟨_, rfl⟩ := Rep.inv rv | cases rv)
  refine h A g₀ hA S g1 _ _ (hg.trans hg1) R1 ?_
  rintro u g2 h2 tk2 l2 c2 hg2 R2 ⟨d, ru, rfl, b, rfl, rfl⟩
  (first | obtain ⟨_, rfl⟩ := Rep.inv ru | cases ru)
  obtain ⟨⟨vs, n, ea, r⟩, _⟩ := R2.c.all (a, .lst ds) (.tail _ (List.mem_append_right _ (.head _)))
  obtain ⟨⟨us, m, eb, q⟩, _⟩ := R2.c.all (b, .lst es) (.head _)
  refine wpAny_iadd_lists ea eb (by simp [r.length, q.length, hz]) ?_
  have R3 : Rel w env g2 _ _ ((b, .lst es) :: pre ++ (a, .lst (ds ++ es)) :: post) := Rel.setCell (pre := (b, .lst es) :: pre) (c' := .lst (ds ++ es)) R2
    ⟨vs ++ us, (if (vs.toArray ++ us.toArray).size == vs.toArray.size then n else n + 1), by
      rw [Heap.get?_update_self _ ea (by rw [mapSeq_app]; rfl), mapSeq_app]; simp, RepAll.append q r⟩ rfl (Heap.SameBut.update h2 a (Obj.mapSeq fun x => x ++ us.toArray))
  obtain ⟨g3, kg3, R4, _⟩ := Rel.freeze (pre := []) R3
  refine Tri.store (A := A) (g₀ := g3) hp hk (.val (.ref a)) g3 _ _ (Le.refl _) R4 ?_
  rintro _ g4 h4 tk4 l4 c4 hg4 R5 ⟨rfl, rfl⟩
  exact hQ _ g4 h4 tk4 _ _ (((hg1.trans hg2).trans kg3).trans hg4) R5 ⟨.next, trivial, hR⟩
end
end
/-! F17 -/
section
open PySem.SeqAt AutoSeq1 MeetsSeq MeetsSeq2 MeetsSeq3 SeqRoads2

noncomputable def RcOp (op : CmpOp) (A : Around) (s : Shared) (y x : Value) (b : Bool) : Prop :=
  ∀ (prog : Program) (w : World) (E : Value → Shared → Prop) (Q : Value → Shared → Prop), Q (.bool b) s → wpAny (model prog w) A (richCompare op y x) Q E s
/-- the first pair that differs says it -/
noncomputable def lexAt (e l : Nat → Bool) (fin : Bool) : Nat → Nat → Bool
  | 0, _ => fin
  | k + 1, i => if e i then lexAt e l fin k (i + 1) else l i

theorem tuple_ltAt (l b : Addr) (items items2 : Array Value) (n n2 : Nat) (dd dd2 : Option Addr) (sl sl2 : Array (Option Value)) (e q : Nat → Bool) :
    Meets (Builtin.«tuple.__lt__» ⟨[.ref l, .ref b], []⟩)
      (fun A R s => s.heap.get? l = some { cls := .type "tuple", dict := dd, data := .seq items n, slots := sl } ∧ s.heap.get? b = some { cls := .type "tuple", dict := dd2, data := .seq items2 n2, slots := sl2 } ∧
        (∀ j (h1 : j < items.size) (h2 : j < items2.size), EqAt A.in1 s items[j] items2[j] (e j)) ∧ (∀ j (h1 : j < items.size) (h2 : j < items2.size), e j = false → RcOp .Lt A.in1 s items[j] items2[j] (q j)) ∧
        R (.ok (.ret (.bool (lexAt e q (decide (items.size < items2.size)) (min items.size items2.size) 0)))) s) :=
  .of_wp fun prog w A R s h => by
    obtain ⟨hp, g, d, tk, os⟩ := s; obtain ⟨hl, hb, he, hq, h⟩ := h
    have f2 := AutoSeq1.sub_tuple_tuple
    have hZ : (items.toList.zip items2.toList).length = min items.size items2.size := by simp
    wp_walk using wpAny_loadPart' hl, wpAny_loadPart' hb, wpAny_forIn_list _ (fun rest b s' => b.1 = none ∧ s' = ⟨hp, g, d, tk, os⟩ ∧ ∃ i k, i + k = min items.size items2.size ∧ rest = (items.toList.zip items2.toList).drop i ∧
      R (.ok (.ret (.bool (lexAt e q (decide (items.size < items2.size)) k i)))) ⟨hp, g, d, tk, os⟩) _
    case turn =>
      rintro ⟨y, x⟩ rest b s' ⟨hb', rfl, i, k, hik, hz, hR⟩
      have hlt : i < (items.toList.zip items2.toList).length := by
        rcases Nat.lt_or_ge i (items.toList.zip items2.toList).length with h' | h'
        · exact h'
        · rw [List.drop_of_length_le h'] at hz; cases hz
      have hm : i < min items.size items2.size := hZ ▸ hlt
      have h1 : i < items.size := Nat.lt_of_lt_of_le hm (Nat.min_le_left _ _)
      have h2 : i < items2.size := Nat.lt_of_lt_of_le hm (Nat.min_le_right _ _)
      rw [List.drop_eq_getElem_cons hlt] at hz
      injection hz with hyx hrest
      have hy : y = items[i] := by have := congrArg Prod.fst hyx; simpa using this
      have hx : x = items2[i] := by have := congrArg Prod.snd hyx; simpa using this
      subst hy hx
      obtain ⟨k, rfl⟩ : ∃ k', k = k' + 1 := ⟨k - 1, by (first | lia | omega)⟩
      rw [lexAt] at hR
      refine wpAny_bind (he i h1 h2 prog w _ _ ?_)
      cases hy : e i with
      | true =>
        rw [hy] at hR
        wp_walk
        exact ⟨rfl, rfl, i + 1, k, by (first | lia | omega), hrest, by simpa using hR⟩
      | false =>
        rw [hy] at hR
        refine wpAny_bind (wpAny_rule (wpAny_bind (hq i h1 h2 hy prog w _ _ ?_)))
        wp_walk
        exact ⟨_, rfl, by simpa using hR⟩
    case fin =>
      rintro ⟨b1, b2⟩ s' ⟨hb', rfl, i, k, hik, hz, hR⟩
      simp only at hb'
      subst hb'
      have hge : min items.size items2.size ≤ i := by
        rcases Nat.lt_or_ge i (items.toList.zip items2.toList).length with h' | h'
        · rw [List.drop_eq_getElem_cons h'] at hz; cases hz
        · exact hZ ▸ h'
      obtain rfl : k = 0 := by (first | lia | omega)
      wp_walk
      exact ⟨_, rfl, by simpa [Builtin.Tuple.tupleCompareSizes, lexAt] using hR⟩
    case h =>
      exact ⟨rfl, rfl, 0, min items.size items2.size, by (first | lia | omega), rfl, by simpa using h⟩

theorem list_ltLoop (l b : Addr) (items items2 : Array Value) (n n2 : Nat) (dd dd2 : Option Addr) (sl sl2 : Array (Option Value)) (e q : Nat → Bool) (k : Nat) :
    ∀ i : Nat, i + k = min items.size items2.size → Meets (Builtin.«list.__eq__.loop» ⟨[.ref l, .ref b, rawInt i, rawInt 0], []⟩)
      (fun A R s => s.heap.get? l = some { cls := .type "list", dict := dd, data := .seq items n, slots := sl } ∧ s.heap.get? b = some { cls := .type "list", dict := dd2, data := .seq items2 n2, slots := sl2 } ∧
        (∀ j (h1 : j < items.size) (h2 : j < items2.size), EqAt A.in1 s items[j] items2[j] (e j)) ∧ (∀ j (h1 : j < items.size) (h2 : j < items2.size), e j = false → RcOp .Lt A.in1 s items[j] items2[j] (q j)) ∧
        R (.ok (.ret (.bool (lexAt e q (decide (items.size < items2.size)) k i)))) s) := by
  induction k with
  | zero =>
    intro i hk prog w A R s h
    obtain ⟨hp, g, d, tk, os⟩ := s; obtain ⟨hl, hb, he, hq, h⟩ := h
    wp_walk using wpAny_loadPart' hl, wpAny_loadPart' hb
    rw [lexAt] at h
    rcases Nat.lt_or_ge i items.size with hi | hi
    · have hi1 : items[((i : Nat) : Int).toNat]? = some items[i] := by simp [hi]
      have hi2 : items2[((i : Nat) : Int).toNat]? = none := by simp; (first | lia | omega)
      rw [hi1, hi2]
      wp_walk using wpAny_loadPart' hl, wpAny_loadPart' hb
      exact h
    · have hi1 : items[((i : Nat) : Int).toNat]? = none := by simp; (first | lia | omega)
      rw [hi1]
      wp_walk using wpAny_loadPart' hl, wpAny_loadPart' hb
      exact h
  | succ k ih =>
    intro i hk prog w A R s h
    obtain ⟨hp, g, d, tk, os⟩ := s; obtain ⟨hl, hb, he, hq, h⟩ := h
    wp_walk using wpAny_loadPart' hl, wpAny_loadPart' hb
    have hlt : i < items.size := by (first | lia | omega)
    have hlt2 : i < items2.size := by (first | lia | omega)
    have hi1 : items[((i : Nat) : Int).toNat]? = some items[i] := by simp [hlt]
    have hi2 : items2[((i : Nat) : Int).toNat]? = some items2[i] := by simp [hlt2]
    have hc : ((i : Int) + 1) = ((i + 1 : Nat) : Int) := by push_cast; rfl
    rw [lexAt] at h
    rw [hi1, hi2]
    refine wpAny_bind (he i hlt hlt2 prog w _ _ ?_)
    cases hb' : e i with
    | true =>
      rw [hb'] at h
      wp_walk
      rw [hc]
      exact ⟨plainId_quiet plain_eq_loop _, codeAny_builtin entry_eq_loop (by
        rw [Around.under_plainId plain_eq_loop _]
        exact ih (i + 1) (by (first | lia | omega)) prog w A R _ ⟨hl, hb, he, hq, by simpa using h⟩)⟩
    | false =>
      rw [hb'] at h
      wp_walk using wpAny_loadPart' hl, wpAny_loadPart' hb
      rw [hi1, hi2]
      refine wpAny_bind (hq i hlt hlt2 hb' prog w _ _ ?_)
      wp_walk
      simpa using h

theorem list_ltAt (l b : Addr) (items items2 : Array Value) (n n2 : Nat) (dd dd2 : Option Addr) (sl sl2 : Array (Option Value)) (e q : Nat → Bool) :
    Meets (Builtin.«list.__lt__» ⟨[.ref l, .ref b], []⟩)
      (fun A R s => s.heap.get? l = some { cls := .type "list", dict := dd, data := .seq items n, slots := sl } ∧ s.heap.get? b = some { cls := .type "list", dict := dd2, data := .seq items2 n2, slots := sl2 } ∧
        (∀ j (h1 : j < items.size) (h2 : j < items2.size), EqAt A.in1 s items[j] items2[j] (e j)) ∧ (∀ j (h1 : j < items.size) (h2 : j < items2.size), e j = false → RcOp .Lt A.in1 s items[j] items2[j] (q j)) ∧
        R (.ok (.ret (.bool (lexAt e q (decide (items.size < items2.size)) (min items.size items2.size) 0)))) s) := by
  intro prog w A R s h
  obtain ⟨hp, g, d, tk, os⟩ := s; obtain ⟨hl, hb, he, hq, h⟩ := h
  have f3 := AutoSeq1.sub_list_list
  wp_walk using wpAny_loadPart' hl, wpAny_loadPart' hb
  exact ⟨plainId_quiet plain_eq_loop _, codeAny_builtin entry_eq_loop (by
    rw [Around.under_plainId plain_eq_loop _]
    exact list_ltLoop l b items items2 n n2 dd dd2 sl sl2 e q (min items.size items2.size) 0 (by (first | lia | omega)) prog w A R _ ⟨hl, hb, he, hq, by simpa using h⟩)⟩

theorem RcOp.list_lt {A : Around} {s : Shared} {l b : Addr} {items items2 : Array Value} {e q : Nat → Bool} (hl : s.heap.IsList l items) (hb : s.heap.IsList b items2) (hu : A.units < cLine)
    (he : ∀ j (h1 : j < items.size) (h2 : j < items2.size), EqAt A.in1 s items[j] items2[j] (e j)) (hq : ∀ j (h1 : j < items.size) (h2 : j < items2.size), e j = false → RcOp .Lt A.in1 s items[j] items2[j] (q j)) :
    RcOp .Lt A s (.ref l) (.ref b) (lexAt e q (decide (items.size < items2.size)) (min items.size items2.size) 0) := fun prog w E Q h => by
  obtain ⟨⟨cls, dd, data, sl⟩, ho, hc, n, hd⟩ := id hl
  obtain ⟨⟨cls2, dd2, data2, sl2⟩, ho2, hc2, n2, hd2⟩ := id hb
  simp only at hc hd hc2 hd2
  subst hc hd hc2 hd2
  exact richCompare_meets_room (op := .Lt) ⟨_, ho, rfl⟩ ⟨_, ho2, rfl⟩ F.slot_list_lt F.entry_list_lt (F.args_list_lt_2 _ _) (list_ltAt l b items items2 n n2 dd dd2 sl sl2 e q)
    ⟨ho, ho2, he, hq, show Value.bool _ ≠ Value.notImplemented ∧ Q (.bool _) s from ⟨(fun x => nomatch x), h⟩⟩ hu

theorem list_gtLoop (l b : Addr) (items items2 : Array Value) (n n2 : Nat) (dd dd2 : Option Addr) (sl sl2 : Array (Option Value)) (e q : Nat → Bool) (k : Nat) :
    ∀ i : Nat, i + k = min items.size items2.size → Meets (Builtin.«list.__eq__.loop» ⟨[.ref l, .ref b, rawInt i, rawInt 4], []⟩)
      (fun A R s => s.heap.get? l = some { cls := .type "list", dict := dd, data := .seq items n, slots := sl } ∧ s.heap.get? b = some { cls := .type "list", dict := dd2, data := .seq items2 n2, slots := sl2 } ∧
        (∀ j (h1 : j < items.size) (h2 : j < items2.size), EqAt A.in1 s items[j] items2[j] (e j)) ∧ (∀ j (h1 : j < items.size) (h2 : j < items2.size), e j = false → RcOp .Gt A.in1 s items[j] items2[j] (q j)) ∧
        R (.ok (.ret (.bool (lexAt e q (decide (items.size > items2.size)) k i)))) s) := by
  induction k with
  | zero =>
    intro i hk prog w A R s h
    obtain ⟨hp, g, d, tk, os⟩ := s; obtain ⟨hl, hb, he, hq, h⟩ := h
    wp_walk using wpAny_loadPart' hl, wpAny_loadPart' hb
    rw [lexAt] at h
    rcases Nat.lt_or_ge i items.size with hi | hi
    · have hi1 : items[((i : Nat) : Int).toNat]? = some items[i] := by simp [hi]
      have hi2 : items2[((i : Nat) : Int).toNat]? = none := by simp; (first | lia | omega)
      rw [hi1, hi2]
      wp_walk using wpAny_loadPart' hl, wpAny_loadPart' hb
      exact h
    · have hi1 : items[((i : Nat) : Int).toNat]? = none := by simp; (first | lia | omega)
      rw [hi1]
      wp_walk using wpAny_loadPart' hl, wpAny_loadPart' hb
      exact h
  | succ k ih =>
    intro i hk prog w A R s h
    obtain ⟨hp, g, d, tk, os⟩ := s; obtain ⟨hl, hb, he, hq, h⟩ := h
    wp_walk using wpAny_loadPart' hl, wpAny_loadPart' hb
    have hlt : i < items.size := by (first | lia | omega)
    have hlt2 : i < items2.size := by (first | lia | omega)
    have hi1 : items[((i : Nat) : Int).toNat]? = some items[i] := by simp [hlt]
    have hi2 : items2[((i : Nat) : Int).toNat]? = some items2[i] := by simp [hlt2]
    have hc : ((i : Int) + 1) = ((i + 1 : Nat) : Int) := by push_cast; rfl
    rw [lexAt] at h
    rw [hi1, hi2]
    refine wpAny_bind (he i hlt hlt2 prog w _ _ ?_)
    cases hb' : e i with
    | true =>
      rw [hb'] at h
      wp_walk
      rw [hc]
      exact ⟨plainId_quiet plain_eq_loop _, codeAny_builtin entry_eq_loop (by
        rw [Around.under_plainId plain_eq_loop _]
        exact ih (i + 1) (by (first | lia | omega)) prog w A R _ ⟨hl, hb, he, hq, by simpa using h⟩)⟩
    | false =>
      rw [hb'] at h
      wp_walk using wpAny_loadPart' hl, wpAny_loadPart' hb
      rw [hi1, hi2]
      refine wpAny_bind (hq i hlt hlt2 hb' prog w _ _ ?_)
      wp_walk
      simpa using h

theorem list_gtAt (l b : Addr) (items items2 : Array Value) (n n2 : Nat) (dd dd2 : Option Addr) (sl sl2 : Array (Option Value)) (e q : Nat → Bool) :
    Meets (Builtin.«list.__gt__» ⟨[.ref l, .ref b], []⟩)
      (fun A R s => s.heap.get? l = some { cls := .type "list", dict := dd, data := .seq items n, slots := sl } ∧ s.heap.get? b = some { cls := .type "list", dict := dd2, data := .seq items2 n2, slots := sl2 } ∧
        (∀ j (h1 : j < items.size) (h2 : j < items2.size), EqAt A.in1 s items[j] items2[j] (e j)) ∧ (∀ j (h1 : j < items.size) (h2 : j < items2.size), e j = false → RcOp .Gt A.in1 s items[j] items2[j] (q j)) ∧
        R (.ok (.ret (.bool (lexAt e q (decide (items.size > items2.size)) (min items.size items2.size) 0)))) s) := by
  intro prog w A R s h
  obtain ⟨hp, g, d, tk, os⟩ := s; obtain ⟨hl, hb, he, hq, h⟩ := h
  have f3 := AutoSeq1.sub_list_list
  wp_walk using wpAny_loadPart' hl, wpAny_loadPart' hb
  exact ⟨plainId_quiet plain_eq_loop _, codeAny_builtin entry_eq_loop (by
    rw [Around.under_plainId plain_eq_loop _]
    exact list_gtLoop l b items items2 n n2 dd dd2 sl sl2 e q (min items.size items2.size) 0 (by (first | lia | omega)) prog w A R _ ⟨hl, hb, he, hq, by simpa using h⟩)⟩

theorem RcOp.list_gt {A : Around} {s : Shared} {l b : Addr} {items items2 : Array Value} {e q : Nat → Bool} (hl : s.heap.IsList l items) (hb : s.heap.IsList b items2) (hu : A.units < cLine)
    (he : ∀ j (h1 : j < items.size) (h2 : j < items2.size), EqAt A.in1 s items[j] items2[j] (e j)) (hq : ∀ j (h1 : j < items.size) (h2 : j < items2.size), e j = false → RcOp .Gt A.in1 s items[j] items2[j] (q j)) :
    RcOp .Gt A s (.ref l) (.ref b) (lexAt e q (decide (items.size > items2.size)) (min items.size items2.size) 0) := fun prog w E Q h => by
  obtain ⟨⟨cls, dd, data, sl⟩, ho, hc, n, hd⟩ := id hl
  obtain ⟨⟨cls2, dd2, data2, sl2⟩, ho2, hc2, n2, hd2⟩ := id hb
  simp only at hc hd hc2 hd2
  subst hc hd hc2 hd2
  exact richCompare_meets_room (op := .Gt) ⟨_, ho, rfl⟩ ⟨_, ho2, rfl⟩ F.slot_list_gt F.entry_list_gt (F.args_list_gt_2 _ _) (list_gtAt l b items items2 n n2 dd dd2 sl sl2 e q)
    ⟨ho, ho2, he, hq, show Value.bool _ ≠ Value.notImplemented ∧ Q (.bool _) s from ⟨(fun x => nomatch x), h⟩⟩ hu

theorem RcOp.tuple_lt {A : Around} {s : Shared} {l b : Addr} {items items2 : Array Value} {e q : Nat → Bool} (hl : s.heap.IsTuple l items) (hb : s.heap.IsTuple b items2) (hu : A.units < cLine)
    (he : ∀ j (h1 : j < items.size) (h2 : j < items2.size), EqAt A.in1 s items[j] items2[j] (e j)) (hq : ∀ j (h1 : j < items.size) (h2 : j < items2.size), e j = false → RcOp .Lt A.in1 s items[j] items2[j] (q j)) :
    RcOp .Lt A s (.ref l) (.ref b) (lexAt e q (decide (items.size < items2.size)) (min items.size items2.size) 0) := fun prog w E Q h => by
  obtain ⟨⟨cls, dd, data, sl⟩, ho, hc, n, hd⟩ := id hl
  obtain ⟨⟨cls2, dd2, data2, sl2⟩, ho2, hc2, n2, hd2⟩ := id hb
  simp only at hc hd hc2 hd2
  subst hc hd hc2 hd2
  exact richCompare_meets_room (op := .Lt) ⟨_, ho, rfl⟩ ⟨_, ho2, rfl⟩ F.slot_tuple_lt F.entry_tuple_lt (F.args_tuple_lt_2 _ _) (tuple_ltAt l b items items2 n n2 dd dd2 sl sl2 e q)
    ⟨ho, ho2, he, hq, show Value.bool _ ≠ Value.notImplemented ∧ Q (.bool _) s from ⟨(fun x => nomatch x), h⟩⟩ hu
theorem RcOp.int_lt {A : Around} {s : Shared} (a b : Int) (t u : Tok) : RcOp .Lt A s (.int a t) (.int b u) (decide (a < b)) := fun prog w E Q h =>
  richCompare_gives (op := .Lt) (typeIs_int s _ t) (typeIs_int s _ u) F.slot_int_lt F.entry_int_lt (F.args_int_lt_2 _ _) (gives_int_lt _ _ t u) (fun x => nomatch x) h
noncomputable def slt (x y : Str) : Bool := decide (x.cps.toList < y.cps.toList)
theorem RcOp.str_lt {A : Around} {s : Shared} (a b : Str) (t u : Tok) : RcOp .Lt A s (.str a t) (.str b u) (slt a b) := fun prog w E Q h =>
  richCompare_gives (op := .Lt) (typeIs_str s _ t) (typeIs_str s _ u) F.slot_str_lt F.entry_str_lt (F.args_str_lt_2 _ _) (gives_str_lt _ _ t u) (fun x => nomatch x) h
theorem RcOp.str_gt {A : Around} {s : Shared} (a b : Str) (t u : Tok) : RcOp .Gt A s (.str a t) (.str b u) (slt b a) := fun prog w E Q h =>
  richCompare_gives (op := .Gt) (typeIs_str s _ t) (typeIs_str s _ u) F.slot_str_gt F.entry_str_gt (F.args_str_gt_2 _ _) (gives_str_gt _ _ t u) (fun x => nomatch x) h
end
/-! F18 -/
section
open PySem.SeqAt

noncomputable abbrev sL (ss : List Str) : D := .lst (ss.map .str)
section
variable {w : World} {env : Env} {k : Nat} {loc loc' : Loc} {cells : Cls} {g h : Heap} {A : Around} {s : Shared}

theorem rep_strs_inv {x : Value} {ss : List Str} (r : Rep g x (sL ss)) : ∃ a l, x = .ref a ∧ g.IsList a (strValues l).toArray ∧ l.map (·.1) = ss := by
  obtain ⟨⟨_, _⟩, rfl, hl, rr⟩ := Rep.inv r
  · obtain ⟨l, rfl, e⟩ := rep_texts rr
    exact ⟨_, l, rfl, hl, e⟩
theorem strsAt {l : List (Str × Tok)} {j : Nat} (h : j < (strValues l).toArray.size) : ∃ (h' : j < l.length), (strValues l).toArray[j] = .str l[j].1 l[j].2 := by
  have : j < l.length := by simpa [strValues] using h
  exact ⟨this, by simp [strValues]⟩
theorem strValues_length (l : List (Str × Tok)) : (strValues l).toArray.size = l.length := by simp [strValues]
theorem getD_map {l : List (Str × Tok)} {j : Nat} (h : j < l.length) : (l.map (·.1)).getD j Str.empty = l[j].1 := by simp [h]

theorem all_range_eq : ∀ {ss ts : List Str}, ss.length = ts.length → ((List.range ss.length).all fun j => ss.getD j Str.empty == ts.getD j Str.empty) = (ss == ts) := by
  intro ss ts hl
  rw [Bool.eq_iff_iff, List.all_eq_true, beq_iff_eq]
  constructor
  · intro h
    refine List.ext_getElem hl fun j h1 h2 => ?_
    have := h j (List.mem_range.mpr h1)
    simpa [h1, h2] using this
  · rintro rfl j _
    exact beq_self_eq_true _
theorem rc_strs {x y : Value} {ss ts : List Str} (hg : Le g s.heap) (hu : A.units < cLine) (rx : Rep g x (sL ss)) (ry : Rep g y (sL ts)) : RcAt A s x y (ss == ts) := by
  obtain ⟨a, l, rfl, hl, rfl⟩ := rep_strs_inv rx
  obtain ⟨b, m, rfl, hm, rfl⟩ := rep_strs_inv ry
  by_cases hz : l.length = m.length
  · have := RcAt.lists (A := A) (s := s) (e := fun j => (l.map (·.1)).getD j Str.empty == (m.map (·.1)).getD j Str.empty) (isList_le hg hl) (isList_le hg hm) (by rw [strValues_length, strValues_length, hz]) hu fun j h1 h2 => by
      obtain ⟨p1, e1⟩ := strsAt h1
      obtain ⟨p2, e2⟩ := strsAt h2
      rw [e1, e2, getD_map p1, getD_map p2]
      exact EqAt.str_str _ _ _ _
    rw [strValues_length] at this
    have e := all_range_eq (ss := l.map (·.1)) (ts := m.map (·.1)) (by simpa using hz)
    rw [List.length_map] at e
    rwa [e] at this
  · have e : (l.map (·.1) == m.map (·.1)) = false := by
      rw [beq_eq_false_iff_ne]
      intro q
      exact hz (by simpa using congrArg List.length q)
    rw [e]
    exact RcAt.lists_lengths (isList_le hg hl) (isList_le hg hm) (by rw [strValues_length, strValues_length]; simpa using hz) hu
theorem rep_strs_fun {x : Value} {ss ts : List Str} (r1 : Rep g x (sL ss)) (r2 : Rep g x (sL ts)) : ss = ts := by
  obtain ⟨a, l, rfl, hl, rfl⟩ := rep_strs_inv r1
  obtain ⟨b, m, e, hm, rfl⟩ := rep_strs_inv r2
  cases e
  have : strValues l = strValues m := by
    obtain ⟨o, e1, _, n, e2⟩ := hl
    obtain ⟨o', e1', _, n', e2'⟩ := hm
    rw [e1] at e1'; cases e1'; rw [e2] at e2'; injection e2' with q; exact congrArg Array.toList q
  have inj : ∀ {l m : List (Str × Tok)}, strValues l = strValues m → l.map (·.1) = m.map (·.1) := by
    intro l
    induction l with
    | nil => intro m h; cases m with
      | nil => rfl
      | cons _ _ => cases h
    | cons p l ih => intro m h; cases m with
      | nil => cases h
      | cons q m =>
        simp only [strValues, List.map_cons, List.cons.injEq, Value.str.injEq] at h
        rw [List.map_cons, List.map_cons, h.1.1, ih h.2]
  exact inj this
theorem eq_strs {x y : Value} {ss ts : List Str} (hg : Le g s.heap) (hu : A.units < cLine) (rx : Rep g x (sL ss)) (ry : Rep g y (sL ts)) : EqAt A s x y (ss == ts) := by
  have r := rc_strs hg hu rx ry
  by_cases e : x = y
  · subst e
    rw [rep_strs_fun rx ry, beq_self_eq_true]
    exact EqAt.same _
  · obtain ⟨a, l, rfl, hl, rfl⟩ := rep_strs_inv rx
    obtain ⟨b, m, rfl, hm, rfl⟩ := rep_strs_inv ry
    exact EqAt.of_refs (fun q => e (by rw [q])) r
theorem Cmp.eqL {ss ts : List Str} : Cmp w k .Eq (sL ss) (sL ts) (ss == ts) := by
  intro A g x y hA _ rx ry
  exact Pr.val (a := fun _ => Value.bool (ss == ts)) id (fun s Q hg h => rc_strs hg hA.c rx ry _ _ _ _ h) fun _ _ _ => .bool _

/-- two of the same data are equal -/
inductive Pln : Nat → D → Prop
  | int {n : Nat} (i : Int) : Pln n (.int i)
  | str {n : Nat} (x : Str) : Pln n (.str x)
  | tup {n : Nat} {ds : List D} : (∀ d ∈ ds, Pln n d) → Pln (n + 1) (.tup ds)
  | lst {n : Nat} {ds : List D} : (∀ d ∈ ds, Pln n d) → Pln (n + 1) (.lst ds)
theorem Low.c1 {k : Nat} {A : Around} (h : Low (k + 1) A) : A.in1.units < cLine := by have := h.units; show A.units + 1 < _; (first | lia | omega)
theorem rep_get {vs : List Value} {ds : List D} (r : RepAll g vs ds) {j : Nat} (h : j < vs.toArray.size) : ∃ (h' : j < ds.length), Rep g vs.toArray[j] ds[j] := by
  have hl := r.length
  have h' : j < ds.length := by simpa [hl] using h
  obtain ⟨v, e, rv⟩ := r.get (i := j) (d := ds[j]) (by simp [h'])
  refine ⟨h', ?_⟩
  have : vs[j]? = some vs.toArray[j] := by simp
  rw [this] at e; cases e; exact rv
theorem allT {n : Nat} : ((List.range n).all fun _ => true) = true := by rw [List.all_eq_true]; intro _ _; rfl
theorem eq_pln : ∀ {n : Nat} {d : D}, Pln n d → ∀ {A : Around} {s : Shared} {x y : Value}, A.units + n < cLine → Le g s.heap → Rep g x d → Rep g y d → EqAt A s x y true ∧ RcAt A s x y true := by
  intro n
  induction n with
  | zero =>
    intro d hp A s x y hu hg rx ry
    cases hp with
    | int i => cases rx with | int _ t => cases ry with | int _ u => exact ⟨by have := EqAt.int_int (A := A) (s := s) i t i u; rwa [beq_self_eq_true] at this, by have := RcAt.int_int (A := A) (s := s) i t i u; rwa [beq_self_eq_true] at this⟩
    | str i => cases rx with | str _ t => cases ry with | str _ u => exact ⟨by have := EqAt.str_str (A := A) (s := s) i t i u; rwa [beq_self_eq_true] at this, by have := RcAt.str_str (A := A) (s := s) i t i u; rwa [beq_self_eq_true] at this⟩
  | succ n ih =>
    intro d hp A s x y hu hg rx ry
    have refs : ∀ {a b : Addr}, RcAt A s (.ref a) (.ref b) true → EqAt A s (.ref a) (.ref b) true := fun {a b} r => by
      by_cases e : a = b
      · subst e; exact EqAt.same _
      · exact EqAt.of_refs e r
    cases hp with
    | int i => cases rx with | int _ t => cases ry with | int _ u => exact ⟨by have := EqAt.int_int (A := A) (s := s) i t i u; rwa [beq_self_eq_true] at this, by have := RcAt.int_int (A := A) (s := s) i t i u; rwa [beq_self_eq_true] at this⟩
    | str i => cases rx with | str _ t => cases ry with | str _ u => exact ⟨by have := EqAt.str_str (A := A) (s := s) i t i u; rwa [beq_self_eq_true] at this, by have := RcAt.str_str (A := A) (s := s) i t i u; rwa [beq_self_eq_true] at this⟩
    | tup hd =>
      cases rx with | tup h1 r1 => cases ry with | tup h2 r2 =>
      have := RcAt.tuples (A := A) (s := s) (e := fun _ => true) (isTup_le hg h1) (isTup_le hg h2) (by (first | lia | omega)) fun j p1 p2 => by
        obtain ⟨q1, e1⟩ := rep_get r1 p1
        obtain ⟨q2, e2⟩ := rep_get r2 p2
        exact (ih (hd _ (List.getElem_mem q1)) (A := A.in1) (by show A.units + 1 + n < _; (first | lia | omega)) hg e1 e2).1
      have e : (List.range (min (List.toArray ‹List Value›).size (List.toArray ‹List Value›).size)).all (fun _ => true) = true := by simp
      have hs := r1.length.trans r2.length.symm
      simp only [List.size_toArray, hs, Nat.min_self, beq_self_eq_true, Bool.and_true, allT] at this
      exact ⟨refs this, this⟩
    | lst hd =>
      cases rx with | lst h1 r1 => cases ry with | lst h2 r2 =>
      have hs := r1.length.trans r2.length.symm
      have := RcAt.lists (A := A) (s := s) (e := fun _ => true) (isList_le hg h1) (isList_le hg h2) (by simpa using hs) (by (first | lia | omega)) fun j p1 p2 => by
        obtain ⟨q1, e1⟩ := rep_get r1 p1
        obtain ⟨q2, e2⟩ := rep_get r2 p2
        exact (ih (hd _ (List.getElem_mem q1)) (A := A.in1) (by show A.units + 1 + n < _; (first | lia | omega)) hg e1 e2).1
      simp only [List.size_toArray, allT] at this
      exact ⟨refs this, this⟩
theorem Cmp.eqD {n : Nat} {d : D} (h : Pln n d) (hk : n < 100 * k) : Cmp w k .Eq d d true := by
  intro A g x y hA _ rx ry
  exact Pr.val (a := fun _ => Value.bool true) id (fun s Q hg h' => (eq_pln h (by have := hA.units; (first | lia | omega)) hg rx ry).2 _ _ _ _ h') fun _ _ _ => .bool _

/-! order -/
noncomputable def pairLt (a : Int) (x : Str) (b : Int) (y : Str) : Bool := if a == b then (if x == y then false else slt x y) else decide (a < b)
noncomputable def pairLtI (a i b j : Int) : Bool := if a == b then (if i == j then false else decide (i < j)) else decide (a < b)
theorem Cmp.ltP {a b : Int} {x y : Str} : Cmp w (k + 1) .Lt (.tup [.int a, .str x]) (.tup [.int b, .str y]) (pairLt a x b y) := by
  intro A g u v hA _ ru rv
  cases ru with | tup h1 r1 => cases rv with | tup h2 r2 =>
  obtain ⟨u0, u1, rfl, p0, p1⟩ := two r1
  obtain ⟨v0, v1, rfl, q0, q1⟩ := two r2
  cases p0; cases p1; cases q0; cases q1
  refine Pr.val (a := fun _ => Value.bool (pairLt a x b y)) id (fun s Q hg h => ?_) fun _ _ _ => .bool _
  refine RcOp.tuple_lt (A := A) (s := s) (e := fun j => if j = 0 then a == b else x == y) (q := fun j => if j = 0 then decide (a < b) else slt x y) (isTup_le hg h1) (isTup_le hg h2) hA.c ?_ ?_ _ _ _ _ ?_
  · intro j p _
    match j, p with
    | 0, _ => exact EqAt.int_int _ _ _ _
    | 1, _ => exact EqAt.str_str _ _ _ _
  · intro j p _ _
    match j, p with
    | 0, _ => exact RcOp.int_lt _ _ _ _
    | 1, _ => exact RcOp.str_lt _ _ _ _
  · exact h
theorem Cmp.ltPI {a b i j : Int} : Cmp w (k + 1) .Lt (.tup [.int a, .int i]) (.tup [.int b, .int j]) (pairLtI a i b j) := by
  intro A g u v hA _ ru rv
  cases ru with | tup h1 r1 => cases rv with | tup h2 r2 =>
  obtain ⟨u0, u1, rfl, p0, p1⟩ := two r1
  obtain ⟨v0, v1, rfl, q0, q1⟩ := two r2
  cases p0; cases p1; cases q0; cases q1
  refine Pr.val (a := fun _ => Value.bool (pairLtI a i b j)) id (fun s Q hg h => ?_) fun _ _ _ => .bool _
  refine RcOp.tuple_lt (A := A) (s := s) (e := fun n => if n = 0 then a == b else i == j) (q := fun n => if n = 0 then decide (a < b) else decide (i < j)) (isTup_le hg h1) (isTup_le hg h2) hA.c ?_ ?_ _ _ _ _ ?_
  · intro j p _
    match j, p with
    | 0, _ => exact EqAt.int_int _ _ _ _
    | 1, _ => exact EqAt.int_int _ _ _ _
  · intro j p _ _
    match j, p with
    | 0, _ => exact RcOp.int_lt _ _ _ _
    | 1, _ => exact RcOp.int_lt _ _ _ _
  · exact h
/-- lists of texts -/
noncomputable def lsLt (ss ts : List Str) : Bool := lexAt (fun j => ss.getD j Str.empty == ts.getD j Str.empty) (fun j => slt (ss.getD j Str.empty) (ts.getD j Str.empty)) (decide (ss.length < ts.length)) (min ss.length ts.length) 0
noncomputable def lsGt (ss ts : List Str) : Bool := lexAt (fun j => ss.getD j Str.empty == ts.getD j Str.empty) (fun j => slt (ts.getD j Str.empty) (ss.getD j Str.empty)) (decide (ss.length > ts.length)) (min ss.length ts.length) 0
theorem rc_lt_strs {x y : Value} {ss ts : List Str} (hg : Le g s.heap) (hu : A.units < cLine) (rx : Rep g x (sL ss)) (ry : Rep g y (sL ts)) : RcOp .Lt A s x y (lsLt ss ts) := by
  obtain ⟨a, l, rfl, hl, rfl⟩ := rep_strs_inv rx
  obtain ⟨b, m, rfl, hm, rfl⟩ := rep_strs_inv ry
  have := RcOp.list_lt (A := A) (s := s) (e := fun j => (l.map (·.1)).getD j Str.empty == (m.map (·.1)).getD j Str.empty) (q := fun j => slt ((l.map (·.1)).getD j Str.empty) ((m.map (·.1)).getD j Str.empty)) (isList_le hg hl) (isList_le hg hm) hu
    (fun j h1 h2 => by
      obtain ⟨p1, e1⟩ := strsAt h1
      obtain ⟨p2, e2⟩ := strsAt h2
      rw [e1, e2, getD_map p1, getD_map p2]
      exact EqAt.str_str _ _ _ _)
    (fun j h1 h2 _ => by
      obtain ⟨p1, e1⟩ := strsAt h1
      obtain ⟨p2, e2⟩ := strsAt h2
      rw [e1, e2, getD_map p1, getD_map p2]
      exact RcOp.str_lt _ _ _ _)
  rw [strValues_length, strValues_length] at this
  unfold lsLt
  rw [List.length_map, List.length_map]
  exact this
theorem rc_gt_strs {x y : Value} {ss ts : List Str} (hg : Le g s.heap) (hu : A.units < cLine) (rx : Rep g x (sL ss)) (ry : Rep g y (sL ts)) : RcOp .Gt A s x y (lsGt ss ts) := by
  obtain ⟨a, l, rfl, hl, rfl⟩ := rep_strs_inv rx
  obtain ⟨b, m, rfl, hm, rfl⟩ := rep_strs_inv ry
  have := RcOp.list_gt (A := A) (s := s) (e := fun j => (l.map (·.1)).getD j Str.empty == (m.map (·.1)).getD j Str.empty) (q := fun j => slt ((m.map (·.1)).getD j Str.empty) ((l.map (·.1)).getD j Str.empty)) (isList_le hg hl) (isList_le hg hm) hu
    (fun j h1 h2 => by
      obtain ⟨p1, e1⟩ := strsAt h1
      obtain ⟨p2, e2⟩ := strsAt h2
      rw [e1, e2, getD_map p1, getD_map p2]
      exact EqAt.str_str _ _ _ _)
    (fun j h1 h2 _ => by
      obtain ⟨p1, e1⟩ := strsAt h1
      obtain ⟨p2, e2⟩ := strsAt h2
      rw [e1, e2, getD_map p1, getD_map p2]
      exact RcOp.str_gt _ _ _ _)
  rw [strValues_length, strValues_length] at this
  unfold lsGt
  rw [List.length_map, List.length_map]
  exact this

/-! not in -/
theorem Tr.notin {e l : Expr} {pos : Pos} {d : D} {ss : List Str} {tss : List (List Str)} (he : Ev w env (k + 1) loc cells e (sL ss)) (hl : Ev w env (k + 1) loc cells l d) (h : IsLs cells d (tss.map sL))
    (hs : behindInMarks .NotIn l = false := by rfl) : Tr w env (k + 1) loc cells (.Compare e [.NotIn] [l] pos) (!tss.contains ss) := by
  intro A g₀ hA S g s Q hg R hQ
  classical
  refine wpAny_isTrue_Compare1 (hm := hs) (Tri.use3 (he A g₀ hA S) hg R ?_)
  rintro x g1 h1 tk1 hg1 R1 r1
  refine Tri.use3 (hl A g1 hA (S.le (hg.trans hg1))) (Le.refl _) R1 ?_
  rintro y g2 h2 tk2 hg2 R2 r2
  obtain ⟨a, vs, rfl, hL, rr⟩ := h.at R2 r2
  have r1' := r1.le hg2
  have key : ∀ {vs : List Value} {tss : List (List Str)}, RepAll g2 vs (tss.map sL) → (vs.any fun y => decide (Rep g2 y (sL ss))) = tss.contains ss ∧ ∀ y ∈ vs, EqAt A.in1 { s with heap := h2, toks := tk2 } y x (decide (Rep g2 y (sL ss))) := by
    intro vs tss
    induction tss generalizing vs with
    | nil => intro r; (first | obtain ⟨_, rfl⟩ := Rep.inv r | cases r); exact ⟨rfl, fun _ h => by cases h⟩
    | cons ts tss ih =>
      intro r
      obtain ⟨_, _, rfl, r1, rr⟩ := RepAll.inv r
      · rename_i v vs
        obtain ⟨i1, i2⟩ := ih rr
        have e : decide (Rep g2 v (sL ss)) = (ts == ss) := by
          rw [Bool.eq_iff_iff, decide_eq_true_iff, beq_iff_eq]
          exact ⟨fun q => rep_strs_fun r1 q, fun q => q ▸ r1⟩
        refine ⟨?_, fun y hy => ?_⟩
        · rw [List.any_cons, i1, e, List.contains_cons, Bool.beq_comm]
        · rcases List.mem_cons.mp hy with rfl | hy
          · rw [e]; exact eq_strs (g := g2) R2.c.sub hA.c1 r1 r1'
          · exact i2 y hy
  obtain ⟨e1, e2⟩ := key rr
  refine notIn_listAt (fun y => decide (Rep g2 y (sL ss))) hL (fun y hy => e2 y (by simpa using hy)) (wpAny_truthy_bool ?_)
  have e3 : vs.toArray.any (fun y => decide (Rep g2 y (sL ss))) = tss.contains ss := by rw [← e1]; simp
  rw [e3]
  exact hQ _ g2 h2 _ _ _ (hg1.trans hg2) R2 ⟨rfl, rfl, rfl⟩
end
end
/-! F19 -/
section
section
variable {A : Around} {s : Shared} {w : World}
theorem sub_ri_reversed : isSubtype (.type "range_iterator") (.type "reversed") = pure false := by rw [isSubtype_type]; kernel_rfl

theorem call_range_reversed {r : Addr} {n : Int} {t u v : Tok} {Q E : Value → Shared → Prop} (hr : IsRange s.heap r 0 n 1 t u v) (h0 : 0 ≤ n) (hn : n < 2 ^ 62)
    (h : Q (.ref s.heap.objs.size) { s with heap := s.heap.push { cls := .type "range_iterator", data := .fields #[rawInt (n - 1), rawInt n, rawInt (-1)] } }) : wpAny (model PR w) A (call (.builtin "range.__reversed__") [.ref r]) Q E s := by
  refine wpAny_call_entry F.slot_range_reversed ⟨_, hr, rfl⟩ F.entry_range_reversed ?_ (F.args_range_reversed_1 _)
  unfold Builtin.«range.__reversed__»
  refine wpAny_bind (wpAny_of_eq (a := Value.ref r) rfl ?_)
  unfold Builtin.Range.rangeFields
  refine wpAny_bind (wpAny_bind (wpAny_field hr rfl (x := .int 0 t) rfl ?_))
  refine wpAny_bind (wpAny_of_eq (a := some (0 : Int)) rfl ?_)
  refine wpAny_bind (wpAny_field hr rfl (x := .int n u) rfl ?_)
  refine wpAny_bind (wpAny_of_eq (a := some n) rfl ?_)
  refine wpAny_bind (wpAny_field hr rfl (x := .int 1 v) rfl ?_)
  refine wpAny_bind (wpAny_of_eq (a := some (1 : Int)) rfl ?_)
  refine wpAny_pure ?_
  have e : Builtin.Range.rangeSize 0 n 1 = n := by rw [rangeSize_one]; split <;> (first | lia | omega)
  have sm : (Builtin.Range.rangeFitsLong 0 && Builtin.Range.rangeFitsLong n && Builtin.Range.rangeFitsLong 1 && Builtin.Range.rangeFitsLong (-1) && Builtin.Range.rangeFitsLong (0 - 1) && Builtin.Range.rangeFitsLong n) = true := by
    have : Builtin.Range.rangeFitsLong n = true := by unfold Builtin.Range.rangeFitsLong; simp; (first | lia | omega)
    rw [this]; decide
  dsimp only
  rw [e, sm]
  simp only [Bool.not_true, Bool.false_eq_true, if_false, if_true]
  have e2 : 0 + (n - 1) * 1 = n - 1 := by (first | lia | omega)
  rw [e2]
  exact wpAny_bind (wpAny_newObj_type (wpAny_pure ⟨_, rfl, h⟩))

theorem code_reversed_range {r : Addr} {n : Int} {t u v : Tok} {Q₁ : Value → Shared → Prop} (hr : IsRange s.heap r 0 n 1 t u v) (h0 : 0 ≤ n) (hn : n < 2 ^ 62)
    (h : Q₁ (.ref s.heap.objs.size) { s with heap := s.heap.push { cls := .type "range_iterator", data := .fields #[rawInt (n - 1), rawInt n, rawInt (-1)] } }) :
    codeAny (model PR w) A (.call (.builtin "reversed.__new__") ⟨[.type "reversed", .ref r], []⟩) (wants Q₁ No) s := by
  refine codeAny_of_tree ?_
  show wpAny _ A.in1 (do checkBuiltinCall "reversed.__new__" ⟨[.type "reversed", .ref r], []⟩; again (.builtin "reversed.__new__" ⟨[.type "reversed", .ref r], []⟩)) _ _ s
  refine wpAny_bind (wpAny_of_eq (F.newCall_reversed_1 _) (wpAny_pure ⟨plainId_quiet F.plain_reversed_new _, codeAny_builtin F.entry_reversed_new ?_⟩))
  rw [Around.under_plainId F.plain_reversed_new _]
  unfold Builtin.«reversed.__new__»
  refine wpAny_bind (wpAny_of_eq (newClass_reversed _) ?_)
  try dsimp only
  refine wpAny_bind (wpAny_of_eq (a := ()) (by first | rfl | kernel_rfl) ?_)
  refine wpAny_bind (wpAny_of_eq (a := ()) (by first | rfl | kernel_rfl) ?_)
  try dsimp only
  refine wpAny_bind (wpAny_specialOf ⟨_, hr, rfl⟩ F.slot_range_reversed.lookup ?_)
  try dsimp only
  refine wpAny_bind (wpAny_of_eq (F.slot_range_reversed.bind _) ?_)
  try dsimp only
  first
  | rw [if_neg (show ¬ ((Value.builtin "range.__reversed__" == Value.none) = true) from Bool.false_ne_true)]
  | (show wpAny _ _ (if (Value.builtin "range.__reversed__" == Value.none) = true then _ else _) _ _ _; rw [if_neg (show ¬ ((Value.builtin "range.__reversed__" == Value.none) = true) from Bool.false_ne_true)])
  refine wpAny_bind (wpAny_rule ?_)
  refine wpAny_bind (m := runValue (.call (.builtin "range.__reversed__") ⟨[.ref r], []⟩)) (show wpAny _ _ (call (.builtin "range.__reversed__") [.ref r]) _ _ _ from call_range_reversed hr h0 hn ?_)
  first
  | exact wpAny_pure h
  | exact wpAny_bind (wpAny_pure (wpAny_pure h))

theorem call_reversed_rangeN {r : Addr} {n : Int} {t u v : Tok} {Q : Value → Shared → Prop} (hr : IsRange s.heap r 0 n 1 t u v) (h0 : 0 ≤ n) (hn : n < 2 ^ 62)
    (h : Q (.ref s.heap.objs.size) { s with heap := s.heap.push { cls := .type "range_iterator", data := .fields #[rawInt (n - 1), rawInt n, rawInt (-1)] } }) : wpAny (model PR w) A (call (.type "reversed") [.ref r]) Q No s := by
  refine callType_other (U := "range_iterator") (Q₁ := fun obj s₁ => obj = .ref s.heap.objs.size ∧ s₁ = { s with heap := s.heap.push { cls := .type "range_iterator", data := .fields #[rawInt (n - 1), rawInt n, rawInt (-1)] } }) (by decide +kernel) F.create_reversed ⟨_, _, F.mro_reversed⟩ F.made_reversed sub_ri_reversed (F.typeCall_reversed_1 _) (code_reversed_range hr h0 hn ⟨rfl, rfl⟩) ?_
  rintro obj s₁ ⟨rfl, rfl⟩
  exact ⟨⟨_, Heap.get?_push_size _ rfl, rfl⟩, h⟩
end

section
variable {w : World} {env : Env} {k : Nat} {loc : Loc} {cells : Cls}
/-- for .. in reversed(range(n)) -/
theorem ItE.revrange {target x : Expr} {f f2 : Str} {fp fp2 pos pos2 : Pos} {n : Int} (hr : Ev w env k loc cells (.Name f2 fp2) (.val (.type "reversed"))) (hf : Ev w env k loc cells (.Name f fp) (.val (.type "range"))) (hx : Ev w env k loc cells x (.int n)) (h0 : 0 ≤ n) (hn : n < 2 ^ 62)
    (he : starEach [x] env = [(false, eval x env)] := by rfl) (he2 : starEach [(.Call (.Name f fp) [x] [] pos)] env = [(false, eval (.Call (.Name f fp) [x] [] pos) env)] := by rfl) :
    ItE w env k loc cells cells [] target (.Call (.Name f2 fp2) [.Call (.Name f fp) [x] [] pos] [] pos2) (rng (n - 1) (-1) n.toNat) := by
  intro A g₀ hA S g s Q hg Rl hQ
  refine wpAny_Call_NameR (Tri.use3 (hr A g₀ hA S) hg Rl ?_)
  rintro v g1 h1 tk1 hg1 R1 rv
  (first | obtain ⟨_, rfl⟩ := Rep.inv rv | cases rv)
  have hb2 : backTo pos2 (starEach [(.Call (.Name f fp) [x] [] pos)] env) = [(false, eval (.Call (.Name f fp) [x] [] pos) env)] := by rw [he2]; rfl
  rw [hb2]
  refine PyProof.Rows.callWith_type rfl (evalArgs_plain (Calls.spliced_cons ?_))
  refine wpAny_Call_NameR (Tri.use3 (hf A g₀ hA S) (hg.trans hg1) R1 ?_)
  rintro v g2 h2 tk2 hg2 R2 rv
  (first | obtain ⟨_, rfl⟩ := Rep.inv rv | cases rv)
  have hb' : backTo pos (starEach [x] env) = [(false, eval x env)] := by rw [he]; rfl
  rw [hb']
  refine PyProof.Rows.callWith_type rfl (evalArgs_plain (Calls.spliced_cons ?_))
  refine Tri.use3 (hx A g2 hA (S.le ((hg.trans hg1).trans hg2))) (Le.refl _) R2 ?_
  rintro v g3 h3 tk3 hg3 R3 rs
  (first | obtain ⟨_, rfl⟩ := Rep.inv rs | cases rs)
  rename_i tn
  refine Calls.spliced_nil ?_
  refine call_range_1 ?_
  refine Calls.spliced_nil ?_
  refine call_reversed_rangeN (IsRange.new ..) h0 hn ?_
  have fr := R3.fresh (a := h3.objs.size + 1) (Nat.le_succ _)
  have sz : (h3.push { cls := .type "range", data := .fields #[.int 0 tk3, .int n tn, .int 1 (tk3 + 1)] }).objs.size = h3.objs.size + 1 := Heap.size_push _ _
  have ob := Heap.get?_push_size (h3.push { cls := .type "range", data := .fields #[.int 0 tk3, .int n tn, .int 1 (tk3 + 1)] }) (o := { cls := .type "range_iterator", data := .fields #[rawInt (n - 1), rawInt n, rawInt (-1)] }) rfl
  rw [sz] at ob
  rw [sz]
  refine wpAny_pyIter_rangeiter (x := n - 1) (left := n) (step := -1) ob ?_
  refine hQ _ [h3.objs.size + 1] (fun i h => IsRangeIter h (h3.objs.size + 1) ((n - 1) + (i : Int) * (-1)) ((n.toNat : Int) - i) (-1)) g3 _ _ ((hg1.trans hg2).trans hg3) (R3.up ((Le.push _ _).trans (Le.push _ _))) (fun a ha => by rw [List.mem_singleton.mp ha]; exact fr.1) (fun a ha => by rw [List.mem_singleton.mp ha]; exact fr.2)
      ItD.range (fun p hp => by cases hp) (fun A' hA' => ItS.range hA'.handled) ?_
  have e : (n.toNat : Int) = n := by (first | lia | omega)
  dsimp only
  rw [e]
  simpa using ob
end
end
/-! F20 -/
section
section
variable {A : Around} {s : Shared} {w : World}
theorem nextOf_range_item {it : Addr} {x left step : Int} {Q E : Value → Shared → Prop} (hit : IsRangeIter s.heap it x left step) (hleft : 0 < left)
    (hQ : ∀ h', IsRangeIter h' it (x + step) (left - 1) step → Heap.SameBut it s.heap h' → Q (.int x s.toks) { s with heap := h', toks := s.toks + 1 }) :
    wpAny (model PR w) A (Builtin.SmallTypes.nextOf (.ref it)) Q E s := by
  have hT : s.TypeIs (.ref it) "range_iterator" := ⟨_, hit, rfl⟩
  unfold Builtin.SmallTypes.nextOf
  refine wpAny_bind (wpAny_callSpecial?_slot (name := Str.ofString "__next__") hT F.slot_range_iterator_next
    (call_meets F.slot_range_iterator_next hT F.entry_range_iterator_next (F.args_range_iterator_next_1 _) (AutoRange.range_iterator___next___range_iterator_1 it x left step (by (first | lia | omega))) ⟨hit, ?_⟩))
  exact wpAny_pure (hQ _ (Heap.get?_update_self _ (Heap.get?_update_self _ hit rfl) rfl) ((Heap.SameBut.update ..).trans (Heap.SameBut.update ..)))

theorem nextOf_range_end {it : Addr} {x left step : Int} {Q E : Value → Shared → Prop} (hh : A.handled = none) (hit : IsRangeIter s.heap it x left step) (hleft : left ≤ 0)
    (hE : ∀ h' e, Heap.ExtBut it s.heap h' → (∃ o, h'.get? e = some o ∧ o.cls = .type "StopIteration") → E (.ref e) { s with heap := h' }) : wpAny (model PR w) A (Builtin.SmallTypes.nextOf (.ref it)) Q E s := by
  have hT : s.TypeIs (.ref it) "range_iterator" := ⟨_, hit, rfl⟩
  unfold Builtin.SmallTypes.nextOf
  refine wpAny_bind (wpAny_callSpecial?_slot (name := Str.ofString "__next__") hT F.slot_range_iterator_next
    (wpAny_call_entry F.slot_range_iterator_next hT F.entry_range_iterator_next ?_ (F.args_range_iterator_next_1 _)))
  show wpAny _ _ (field (.ref it) 0 >>= _) _ _ s
  refine wpAny_bind (wpAny_field hit rfl (x := rawInt x) rfl ?_)
  show wpAny _ _ (field (.ref it) 1 >>= _) _ _ s
  refine wpAny_bind (wpAny_field hit rfl (x := rawInt left) rfl ?_)
  show wpAny _ _ (field (.ref it) 2 >>= _) _ _ s
  refine wpAny_bind (wpAny_field hit rfl (x := rawInt step) rfl ?_)
  show wpAny _ _ (if left ≤ 0 then _ else _) _ _ s
  rw [if_pos hleft]
  refine wpAny_bind (wpAny_rule ?_)
  refine wpAny_bind ?_
  show wpAny _ _ (newExc (.type "StopIteration") [] >>= _) _ _ _
  refine wpAny_bind ?_
  simp only [newExc, newTuple]
  refine wpAny_bind (wpAny_newObj_type ?_ (by size_fits))
  refine wpAny_bind (m := firstArgMember _ _) (wpAny_of_eq (a := Value.none) (by first | rfl | (simp only [firstArgMember]; rfl)) ?_)
  refine wpAny_newObj_type ?_ (by size_fits)
  simp only [raiseNew]
  refine wpAny_bind (wpAny_handled ?_)
  first | rw [show A.in1.handled = none from hh] | rw [hh]
  refine wpAny_bind (wpAny_pure (wpAny_throw ?_))
  exact hE _ _ (((Heap.ExtBut.refl it s.heap).push _).push _) ⟨_, Heap.get?_push_size _ rfl, rfl⟩

structure ZAp (z TI TO i1 i2 l : Addr) : Prop where
  TIz : TI ≠ z
  TOz : TO ≠ z
  i1z : i1 ≠ z
  i2z : i2 ≠ z
  TITO : TI ≠ TO
  TIi1 : TI ≠ i1
  TIi2 : TI ≠ i2
  TOi1 : TO ≠ i1
  TOi2 : TO ≠ i2
  i12 : i1 ≠ i2
  lz : l ≠ z
  lTO : l ≠ TO
  li1 : l ≠ i1
  li2 : l ≠ i2

theorem zipR_next_item {z TI TO i1 i2 l : Addr} {r left : Int} {k : Nat} {ys : Array Value} {y a b : Value} {Q E : Value → Shared → Prop} (D : ZAp z TI TO i1 i2 l)
    (hz : IsZip s.heap z TI TO .none) (hTI : IsPair s.heap TI (.ref i1) (.ref i2)) (hTO : IsPair s.heap TO a b)
    (h1 : IsRangeIter s.heap i1 r left (-1)) (hleft : 0 < left) (h2 : s.heap.IsListIter i2 l k) (hl : s.heap.IsList l ys) (hy : ys[k]? = some y)
    (hQ : ∀ h', IsZip h' z TI TO (rawInt s.heap.objs.size) → IsPair h' TO (.int r s.toks) y → IsRangeIter h' i1 (r + -1) (left - 1) (-1) → h'.IsListIter i2 l (k + 1) → IsPair h' s.heap.objs.size (.int r s.toks) y → h'.objs.size = s.heap.objs.size + 1 →
      (∀ c o, c ≠ z → c ≠ TO → c ≠ i1 → c ≠ i2 → s.heap.get? c = some o → h'.get? c = some o) → Q (.ref s.heap.objs.size) { s with heap := h', toks := s.toks + 1 }) :
    wpAny (model PR w) A (Builtin.«zip.__next__» ⟨[.ref z], []⟩) (fun fin s' => ∃ v, fin = .done (.ret v) ∧ Q v s') E s := by
  show wpAny _ _ (field (.ref z) 2 >>= _) _ _ _
  refine wpAny_bind (wpAny_field hz rfl (x := .bool false) rfl ?_)
  show wpAny _ _ (field (.ref z) 3 >>= _) _ _ _
  refine wpAny_bind (wpAny_field hz rfl (x := .ref TI) rfl ?_)
  refine wpAny_bind (wpAny_seqItems hTI rfl ?_)
  show wpAny _ _ (Builtin.SmallTypes.ownedTupleIsFree (.ref z) >>= _) _ _ _
  refine wpAny_bind ?_
  unfold Builtin.SmallTypes.ownedTupleIsFree
  refine wpAny_bind (wpAny_field hz rfl (x := .none) rfl (wpAny_pure ?_))
  simp only [if_true]
  refine wpAny_bind (wpAny_rule ?_)
  refine wpAny_bind (wpAny_field hz rfl (x := .ref TO) rfl ?_)
  refine wpAny_bind (wpAny_setField_rec hz (by simp) fun h₁ hz₁ hs₁ => ?_)
  replace hz₁ : IsZip h₁ z TI TO .ellipsis := hz₁
  refine wpAny_bind ?_
  simp only [List.zipIdx_cons, List.zipIdx_nil, List.forIn_cons, List.forIn_nil]
  refine wpAny_bind (wpAny_bind (wpAny_onRaise ?_))
  show wpAny _ _ (Builtin.SmallTypes.nextOf (.ref i1) >>= _) _ _ _
  refine wpAny_bind (nextOf_range_item (x := r) (left := left) (step := -1) (hs₁.extBut _ _ D.i1z h1) hleft fun h₂ h1₂ hs₂ => wpAny_pure ?_)
  have hTO₂ : IsPair h₂ TO a b := hs₂.extBut _ _ D.TOi1 (hs₁.extBut _ _ D.TOz hTO)
  refine wpAny_bind (wpAny_seqItems hTO₂ rfl ?_)
  refine wpAny_bind (wpAny_updateSeq_pair hTO₂ fun h₃ hTO₃ hs₃ => ?_)
  replace hTO₃ : IsPair h₃ TO (.int r s.toks) b := hTO₃
  refine wpAny_bind (wpAny_letGo (wpAny_pure ?_))
  refine wpAny_bind (wpAny_bind (wpAny_onRaise ?_))
  show wpAny _ _ (Builtin.SmallTypes.nextOf (.ref i2) >>= _) _ _ _
  refine wpAny_bind (wpAny_nextOf_list_item (((h2.extBut hs₁.extBut D.i2z).extBut hs₂.extBut D.i12.symm).extBut hs₃.extBut D.TOi2.symm)
    (((hl.extBut hs₁.extBut D.lz).extBut hs₂.extBut D.li1).extBut hs₃.extBut D.lTO) hy fun h₄ h2₄ hs₄ => wpAny_pure ?_)
  have hTO₄ : IsPair h₄ TO (.int r s.toks) b := hs₄.extBut _ _ D.TOi2 hTO₃
  refine wpAny_bind (wpAny_seqItems hTO₄ rfl ?_)
  refine wpAny_bind (wpAny_updateSeq_pair hTO₄ fun h₅ hTO₅ hs₅ => ?_)
  replace hTO₅ : IsPair h₅ TO (.int r s.toks) y := hTO₅
  refine wpAny_bind (wpAny_letGo (wpAny_pure (wpAny_pure ?_)))
  refine wpAny_bind (wpAny_seqItems hTO₅ rfl ?_)
  refine wpAny_bind (wpAny_newTuple ?_)
  have hsz : h₅.objs.size = s.heap.objs.size := by rw [hs₅.1, hs₄.1, hs₃.1, hs₂.1, hs₁.1]
  have hz₅ : IsZip h₅ z TI TO .ellipsis := hs₅.extBut _ _ D.TOz.symm (hs₄.extBut _ _ D.i2z.symm (hs₃.extBut _ _ D.TOz.symm (hs₂.extBut _ _ D.i1z.symm hz₁)))
  have hk₅ : ∀ c o, c ≠ z → c ≠ TO → c ≠ i1 → c ≠ i2 → s.heap.get? c = some o → h₅.get? c = some o := fun c o c1 c2 c3 c4 e =>
    hs₅.extBut _ _ c2 (hs₄.extBut _ _ c4 (hs₃.extBut _ _ c2 (hs₂.extBut _ _ c3 (hs₁.extBut _ _ c1 e))))
  have h1₅ : IsRangeIter h₅ i1 (r + -1) (left - 1) (-1) := hs₅.extBut _ _ D.TOi1.symm (hs₄.extBut _ _ D.i12 (hs₃.extBut _ _ D.TOi1.symm h1₂))
  have h2₅ : h₅.IsListIter i2 l (k + 1) := h2₄.extBut hs₅.extBut D.TOi2.symm
  have hzlt : z < h₅.objs.size := Heap.lt_size hz₅
  show wpAny _ _ (Builtin.SmallTypes.ownedTupleHandOut (.ref z) (.ref h₅.objs.size) >>= _) _ _ _
  refine wpAny_bind ?_
  unfold Builtin.SmallTypes.ownedTupleHandOut
  have hz₆ : IsZip (h₅.push { cls := .type "tuple", data := .seq #[.int r s.toks, y] }) z TI TO .ellipsis := Heap.get?_push_of_some _ hz₅
  refine wpAny_bind (wpAny_setField_rec hz₆ (by simp) fun h₇ hz₇ hs₇ => ?_)
  replace hz₇ : IsZip h₇ z TI TO (rawInt h₅.objs.size) := hz₇
  refine wpAny_setField_rec hz₇ (by simp) fun h₈ hz₈ hs₈ => ?_
  replace hz₈ : IsZip h₈ z TI TO (rawInt h₅.objs.size) := hz₈
  have up : ∀ c o, c ≠ z → h₅.get? c = some o → h₈.get? c = some o := fun c o c1 e => hs₈.extBut _ _ c1 (hs₇.extBut _ _ c1 (Heap.get?_push_of_some _ e))
  have hT₈ : IsPair h₈ h₅.objs.size (.int r s.toks) y := hs₈.extBut _ _ (Nat.ne_of_gt hzlt) (hs₇.extBut _ _ (Nat.ne_of_gt hzlt) (Heap.get?_push_size _ rfl))
  have hz8 : h₈.objs.size = h₅.objs.size + 1 := by rw [hs₈.1, hs₇.1, Heap.size_push]
  rw [hsz] at hz₈ hT₈ hz8
  refine wpAny_pure ⟨_, rfl, ?_⟩
  show Q (.ref h₅.objs.size) _
  rw [hsz]
  exact hQ h₈ hz₈ (up _ _ D.TOz hTO₅) (up _ _ D.i1z h1₅) (h2₅.at fun o e => up _ o D.i2z e) hT₈ hz8 fun c o c1 c2 c3 c4 e => up c o c1 (hk₅ c o c1 c2 c3 c4 e)

theorem zipR_next_end {z TI TO i1 i2 : Addr} {r left : Int} {a b : Value} {Q : PySem.Fin → Shared → Prop} {E : Value → Shared → Prop} (hh : A.handled = none) (i1z : i1 ≠ z)
    (hz : IsZip s.heap z TI TO .none) (hTI : IsPair s.heap TI (.ref i1) (.ref i2)) (hTO : IsPair s.heap TO a b)
    (h1 : IsRangeIter s.heap i1 r left (-1)) (hleft : left ≤ 0)
    (hE : ∀ h' e, (∀ c o, c ≠ z → c ≠ i1 → s.heap.get? c = some o → h'.get? c = some o) → (∃ o, h'.get? e = some o ∧ o.cls = .type "StopIteration") → E (.ref e) { s with heap := h' }) :
    wpAny (model PR w) A (Builtin.«zip.__next__» ⟨[.ref z], []⟩) Q E s := by
  show wpAny _ _ (field (.ref z) 2 >>= _) _ _ _
  refine wpAny_bind (wpAny_field hz rfl (x := .bool false) rfl ?_)
  show wpAny _ _ (field (.ref z) 3 >>= _) _ _ _
  refine wpAny_bind (wpAny_field hz rfl (x := .ref TI) rfl ?_)
  refine wpAny_bind (wpAny_seqItems hTI rfl ?_)
  show wpAny _ _ (Builtin.SmallTypes.ownedTupleIsFree (.ref z) >>= _) _ _ _
  refine wpAny_bind ?_
  unfold Builtin.SmallTypes.ownedTupleIsFree
  refine wpAny_bind (wpAny_field hz rfl (x := .none) rfl (wpAny_pure ?_))
  simp only [if_true]
  refine wpAny_bind (wpAny_rule ?_)
  refine wpAny_bind (wpAny_field hz rfl (x := .ref TO) rfl ?_)
  refine wpAny_bind (wpAny_setField_rec hz (by simp) fun h₁ hz₁ hs₁ => ?_)
  replace hz₁ : IsZip h₁ z TI TO .ellipsis := hz₁
  refine wpAny_bind ?_
  simp only [List.zipIdx_cons, List.zipIdx_nil, List.forIn_cons, List.forIn_nil]
  refine wpAny_bind (wpAny_bind (wpAny_onRaise ?_))
  show wpAny _ _ (Builtin.SmallTypes.nextOf (.ref i1) >>= _) _ _ _
  refine wpAny_bind (nextOf_range_end (x := r) (left := left) (step := -1) hh (hs₁.extBut _ _ i1z h1) hleft fun h₂ e hs₂ he => ?_)
  obtain ⟨oe, hoe, hce⟩ := he
  have hz₂ : IsZip h₂ z TI TO .ellipsis := hs₂ _ _ i1z.symm hz₁
  have hez : e ≠ z := fun x => by subst x; rw [hz₂] at hoe; cases hoe; simp at hce
  exact wpAny_setField_rec hz₂ (by simp) fun h₃ _ hs₃ => hE h₃ e (fun c o c1 c3 x => hs₃.extBut _ _ c1 (hs₂ _ _ c3 (hs₁.extBut _ _ c1 x))) ⟨oe, hs₃.extBut _ _ hez hoe, hce⟩
end
end
/-! F21 -/
section
section
variable {A : Around} {s : Shared} {w : World}
noncomputable abbrev zrH1 (h : Heap) (m : Int) : Heap := h.push { cls := .type "range_iterator", data := .fields #[rawInt 0, rawInt (Builtin.Range.rangeSize 0 m (-1)), rawInt (-1)] }
noncomputable abbrev zrH2 (h : Heap) (m : Int) (i2 : Addr) : Heap := (zrH1 h m).push { cls := .type "tuple", data := .seq #[.ref h.objs.size, .ref i2] }
noncomputable abbrev zrH3 (h : Heap) (m : Int) (i2 : Addr) : Heap := (zrH2 h m i2).push { cls := .type "tuple", data := .seq #[.none, .none] }
noncomputable abbrev zrH4 (h : Heap) (m : Int) (i2 : Addr) : Heap := (zrH3 h m i2).push { cls := .type "zip", data := .fields #[.none, .bool false, .bool false, .ref (zrH1 h m).objs.size, .ref (zrH2 h m i2).objs.size] }
theorem meets_zip_newR (r i2 l : Addr) (m : Int) (t u v : Tok) (k : Nat) (hsm : Builtin.Range.small 0 m (-1) = true) :
    Meets (Builtin.«zip.__new__» ⟨[.type "zip", .ref r, .ref i2], []⟩) (fun _ R s => IsRange s.heap r 0 m (-1) t u v ∧ s.heap.IsListIter i2 l k ∧
      R (.ok (.ret (.ref (zrH3 s.heap m i2).objs.size))) { s with heap := zrH4 s.heap m i2 }) :=
  .of_wp fun prog w A R s h => by
    obtain ⟨hp, g, d, tk, os⟩ := s; obtain ⟨hr, hi, h⟩ := h
    have hsub := sub_zip
    have hL1 : IsRange (Shared.heap ⟨hp, g, d, tk, os⟩) r 0 m (-1) t u v := hr
    have hL2 : Heap.IsListIter (Shared.heap ⟨hp.push { cls := .type "range_iterator", data := .fields #[rawInt 0, rawInt (Builtin.Range.rangeSize 0 m (-1)), rawInt (-1)] }, g, d, tk, os⟩) i2 l k := let ⟨o, e, q⟩ := hi; ⟨o, Heap.get?_push_of_some _ e, q⟩
    wp_walk using wpAny_pyIter_range hL1 hsm, wpAny_pyIter_listiter hL2
    exact ⟨_, rfl, h⟩

theorem call_zipR {r i2 l : Addr} {m : Int} {t u v : Tok} {k : Nat} {Q : Value → Shared → Prop} (hr : IsRange s.heap r 0 m (-1) t u v) (hi : s.heap.IsListIter i2 l k) (hsm : Builtin.Range.small 0 m (-1) = true)
    (h : Q (.ref (zrH3 s.heap m i2).objs.size) { s with heap := zrH4 s.heap m i2 }) : wpAny (model PR w) A (call (.type "zip") [.ref r, .ref i2]) Q No s := by
  refine callType_new F.called_zip (by decide) (F.typeCall_zip_2 _ _) (F.newCall_zip_2 _ _) (fun obj => F.args_object_init_3 obj _ _) F.entry_zip_new
    (meets_zip_newR r i2 l m t u v k hsm) ⟨hr, hi, ⟨_, Heap.get?_push_size _ rfl, rfl⟩, h⟩

theorem pyNext_zipR_item {z TI TO i1 i2 l : Addr} {r left : Int} {k : Nat} {ys : Array Value} {y a b : Value} {Q : Option Value → Shared → Prop} (D : ZAp z TI TO i1 i2 l)
    (hz : IsZip s.heap z TI TO .none) (hTI : IsPair s.heap TI (.ref i1) (.ref i2)) (hTO : IsPair s.heap TO a b)
    (h1 : IsRangeIter s.heap i1 r left (-1)) (hleft : 0 < left) (h2 : s.heap.IsListIter i2 l k) (hl : s.heap.IsList l ys) (hy : ys[k]? = some y)
    (hQ : ∀ h', IsZip h' z TI TO (rawInt s.heap.objs.size) → IsPair h' TO (.int r s.toks) y → IsRangeIter h' i1 (r + -1) (left - 1) (-1) → h'.IsListIter i2 l (k + 1) → IsPair h' s.heap.objs.size (.int r s.toks) y → h'.objs.size = s.heap.objs.size + 1 →
      (∀ c o, c ≠ z → c ≠ TO → c ≠ i1 → c ≠ i2 → s.heap.get? c = some o → h'.get? c = some o) → Q (some (.ref s.heap.objs.size)) { s with heap := h', toks := s.toks + 1 }) :
    wpAny (model PR w) A (pyNext (.ref z)) Q No s := by
  have hT : s.TypeIs (.ref z) "zip" := ⟨_, hz, rfl⟩
  unfold pyNext
  exact wpAny_bind (wpAny_attempt (wpAny_callSpecial?_slot (name := Str.ofString "__next__") hT F.slot_zip_next
    (wpAny_call_entry F.slot_zip_next hT F.entry_zip_next
      (zipR_next_item D hz hTI hTO h1 hleft h2 hl hy fun h' a1 a2 a3 a4 a5 a6 a7 => wpAny_pure (hQ h' a1 a2 a3 a4 a5 a6 a7)) (F.args_zip_next_1 _))))
theorem pyNext_zipR_end {z TI TO i1 i2 : Addr} {r left : Int} {a b : Value} {Q : Option Value → Shared → Prop} (hh : A.handled = none) (i1z : i1 ≠ z)
    (hz : IsZip s.heap z TI TO .none) (hTI : IsPair s.heap TI (.ref i1) (.ref i2)) (hTO : IsPair s.heap TO a b) (h1 : IsRangeIter s.heap i1 r left (-1)) (hleft : left ≤ 0)
    (hQ : ∀ h', (∀ c o, c ≠ z → c ≠ i1 → s.heap.get? c = some o → h'.get? c = some o) → Q none { s with heap := h' }) : wpAny (model PR w) A (pyNext (.ref z)) Q No s := by
  have hT : s.TypeIs (.ref z) "zip" := ⟨_, hz, rfl⟩
  unfold pyNext
  refine wpAny_bind (wpAny_attempt (wpAny_callSpecial?_slot (name := Str.ofString "__next__") hT F.slot_zip_next
    (wpAny_call_entry F.slot_zip_next hT F.entry_zip_next (zipR_next_end hh i1z hz hTI hTO h1 hleft fun h' e hk he => ?_) (F.args_zip_next_1 _))))
  obtain ⟨o, ho, hc⟩ := he
  refine wpAny_bind (wpAny_isInstance (T := "StopIteration") (b := true) ⟨o, ho, hc⟩ isSubtype_stop ?_)
  exact wpAny_pure (hQ _ hk)

noncomputable def zitems (ds : List D) (n : Nat) : List D := (ds.take n).zipIdx.map fun p => .tup [.int (-(p.2 : Int)), p.1]
theorem zitems_get {ds : List D} {n i : Nat} {d : D} (h : (zitems ds n)[i]? = some d) : i < n ∧ ∃ d0, ds[i]? = some d0 ∧ d = .tup [.int (-(i : Int)), d0] := by
  unfold zitems at h
  rw [List.getElem?_map] at h
  obtain ⟨⟨d0, j⟩, hz, rfl⟩ := Option.map_eq_some_iff.mp h
  rw [List.getElem?_zipIdx] at hz
  obtain ⟨d1, h1, h2⟩ := Option.map_eq_some_iff.mp hz
  cases h2
  have hlt : i < (ds.take n).length := (List.getElem?_eq_some_iff.mp h1).1
  rw [List.length_take] at hlt
  rw [List.getElem?_take_of_lt (by (first | lia | omega))] at h1
  exact ⟨by (first | lia | omega), d0, h1, by simp⟩
noncomputable abbrev ZSt (z TI TO i1 i2 l : Addr) (n : Nat) : Nat → Heap → Prop := fun i h => IsZip h z TI TO .none ∧ IsPair h TI (.ref i1) (.ref i2) ∧ (∃ a b, IsPair h TO a b) ∧ IsRangeIter h i1 (-(i : Int)) ((n : Int) - i) (-1) ∧ h.IsListIter i2 l i
theorem ItS.zip {elts : List Expr} {kk : Nat} {tp : Pos} {z TI TO i1 i2 l : Addr} {n : Nat} {vs : List Value} {ds : List D} {g₀ : Heap} (hh : A.handled = none) (D : ZAp z TI TO i1 i2 l) (hl : g₀.IsList l vs.toArray) (r : RepAll g₀ vs ds) (hn : n ≤ ds.length) :
    ItS w A (.Tuple elts kk tp) (.ref z) [z, TI, TO, i1, i2] [i2] (zitems ds n) (ZSt z TI TO i1 i2 l n) g₀ where
  data := fun i h ⟨e1, e2, ⟨a, b, e3⟩, e4, ⟨o, e5, _⟩⟩ c hc => by
    simp only [List.mem_cons, List.not_mem_nil, or_false] at hc
    rcases hc with rfl | rfl | rfl | rfl | rfl
    · exact ⟨_, e1⟩
    · exact ⟨_, e2⟩
    · exact ⟨_, e3⟩
    · exact ⟨_, e4⟩
    · exact ⟨_, e5⟩
  stay := fun i h h' ⟨e1, e2, ⟨a, b, e3⟩, e4, ⟨o, e5, q⟩⟩ k _ => ⟨k z (by simp) _ e1, k TI (by simp) _ e2, ⟨a, b, k TO (by simp) _ e3⟩, k i1 (by simp) _ e4, o, k i2 (by simp) _ e5, q⟩
  next := fun i d s Q hd hst hg hQ => by
    obtain ⟨e1, e2, ⟨a, b, e3⟩, e4, e5⟩ := hst
    obtain ⟨hi, d0, h0, rfl⟩ := zitems_get hd
    obtain ⟨v, hv, rv⟩ := r.get h0
    refine pyNext_zipR_item D e1 e2 e3 e4 (by (first | lia | omega)) e5 (isList_le hg hl) (y := v) (by simpa using hv) fun h' a1 a2 a3 a4 a5 a6 hk => ?_
    have zlt : z < s.heap.objs.size := Heap.lt_size e1
    refine wpAny_letOwnedTupleGo_zip a1 fun h'' b1 hs => ?_
    have up : ∀ c o, c ≠ z → h'.get? c = some o → h''.get? c = some o := fun c o hc e => (hs.2 c hc).trans e
    refine hQ _ h'' _ (fun c o hc e => up c o (fun q => hc (by simp [q])) (hk c o (fun q => hc (by simp [q])) (fun q => hc (by simp [q])) (fun q => hc (by simp [q])) (fun q => hc (by simp [q])) e)) (fun g' hg' nw => ?_) ?_
    · exact .tup (vs := [.int (-(i : Int)) s.toks, v]) ⟨_, nw _ _ (fresh_none _) (up _ _ (Nat.ne_of_gt zlt) a5), rfl, 0, rfl⟩ (.cons (.int _ _) (.cons (rv.le hg') .nil))
    · have q1 : -(i : Int) + -1 = -((i + 1 : Nat) : Int) := by push_cast; (first | lia | omega)
      have q2 : (n : Int) - i - 1 = (n : Int) - ((i + 1 : Nat) : Int) := by push_cast; (first | lia | omega)
      rw [q1, q2] at a3
      obtain ⟨o, f1, f2⟩ := a4
      exact ⟨b1, up _ _ D.TIz (hk _ _ D.TIz D.TITO D.TIi1 D.TIi2 e2), ⟨_, _, up _ _ D.TOz a2⟩, up _ _ D.i1z a3, o, up _ _ D.i2z f1, f2⟩
  done := fun s Q hst hg hQ => by
    obtain ⟨e1, e2, ⟨a, b, e3⟩, e4, e5⟩ := hst
    have hlen : (zitems ds n).length = n := by unfold zitems; simp [hn]
    rw [hlen] at e4
    exact pyNext_zipR_end hh D.i1z e1 e2 e3 e4 (by (first | lia | omega)) fun h' hk => hQ h' _ (fun c o hc e => hk c o (fun q => hc (by simp [q])) (fun q => hc (by simp [q])) e) fun c hc o e => by
      rw [List.mem_singleton.mp hc] at e ⊢; exact hk _ _ D.i2z D.i12.symm e
  self := fun i s Q hst _ h => wpAny_pyIter_zip hst.1 h
end

section
variable {w : World} {env : Env} {k : Nat} {loc : Loc} {cells : Cls} {g h : Heap}
theorem Rel.midOut {pre post : Cls} {a : Addr} {c : C} (R : Rel w env g h loc (pre ++ (a, c) :: post)) : Rel w env g h loc (pre ++ post) ∧ a ∉ ownOf env ∧ a ∉ (pre ++ post).map (·.1) := by
  have nd := R.c.nodup
  rw [List.map_append, List.map_cons] at nd
  obtain ⟨n1, n2, n3⟩ := List.nodup_append.mp nd
  obtain ⟨n4, n5⟩ := List.nodup_cons.mp n2
  have sub : ∀ p, p ∈ pre ++ post → p ∈ pre ++ (a, c) :: post := fun p hp => by
    rcases List.mem_append.mp hp with hp | hp
    · exact List.mem_append_left _ hp
    · exact List.mem_append_right _ (.tail _ hp)
  have subA : ∀ b, b ∈ (pre ++ post).map (·.1) → b ∈ (pre ++ (a, c) :: post).map (·.1) := fun b hb => by
    obtain ⟨p, hp, e⟩ := List.mem_map.mp hb
    exact List.mem_map.mpr ⟨p, sub p hp, e⟩
  have am : a ∈ (pre ++ (a, c) :: post).map (·.1) := List.mem_map.mpr ⟨(a, c), List.mem_append_right _ (.head _), rfl⟩
  refine ⟨⟨⟨R.c.sub, fun p hp => R.c.all p (sub p hp), ?_⟩, R.fk, R.newL, fun hm => R.notL (subA _ hm), R.ns, fun x b hx => ?_, R.inj, R.names⟩, fun hm => ?_, fun hm => ?_⟩
  · rw [List.map_append]
    exact List.nodup_append.mpr ⟨n1, n5, fun x hx y hy => n3 x hx y (.tail _ hy)⟩
  · obtain ⟨b1, b2, b3, b4⟩ := R.own x b hx
    exact ⟨b1, b2, fun hm => b3 (subA _ hm), b4⟩
  · rcases mem_ownOf hm R.fk.names with e | ⟨x, hx⟩
    · exact R.notL (by rw [← e]; exact am)
    · exact (R.own x a hx).2.2.1 am
  · rw [List.map_append, List.mem_append] at hm
    rcases hm with hm | hm
    · exact n3 a hm a (.head _) rfl
    · exact n4 hm

set_option maxHeartbeats 1000000 in
theorem ItZ.zip {elts : List Expr} {kk : Nat} {tp : Pos} {f f2 : Str} {fp fp2 pos pos2 : Pos} {x y c i : Expr} {n : Nat} {I : Addr} {ds : List D} {pre post : Cls} (hz : Ev w env k loc (pre ++ (I, .iter ds 0) :: post) (.Name f2 fp2) (.val (.type "zip")))
    (hf : Ev w env k loc (pre ++ (I, .iter ds 0) :: post) (.Name f fp) (.val (.type "range"))) (ha : EvL w env k loc (pre ++ (I, .iter ds 0) :: post) [x, y, c] [.int 0, .int (-(n : Int)), .int (-1)])
    (hi : Ev w env k loc (pre ++ (I, .iter ds 0) :: post) i (.val (.ref I))) (hn : n ≤ ds.length) (hn2 : n < 1000)
    (he : (backTo pos (starEach [x, y, c] env)).any (·.1) = false := by rfl) (he3 : starEach [x, y, c] env = (false, eval x env) :: starEach [y, c] env := by rfl) (he2 : starEach [(.Call (.Name f fp) [x, y, c] [] pos), i] env = [(false, eval (.Call (.Name f fp) [x, y, c] [] pos) env), (false, eval i env)] := by rfl) :
    ItZ w env k loc (pre ++ (I, .iter ds 0) :: post) (pre ++ post) [(I, .iter ds n)] (.Tuple elts kk tp) (.Call (.Name f2 fp2) [.Call (.Name f fp) [x, y, c] [] pos, i] [] pos2) (zitems ds n) := by
  intro A g₀ hA S g s Q hg Rl hQ
  refine wpAny_Call_NameR (Tri.use3 (hz A g₀ hA S) hg Rl ?_)
  rintro v g1 h1 tk1 hg1 R1 rv
  (first | obtain ⟨_, rfl⟩ := Rep.inv rv | cases rv)
  have hb2 : backTo pos2 (starEach [(.Call (.Name f fp) [x, y, c] [] pos), i] env) = [(false, eval (.Call (.Name f fp) [x, y, c] [] pos) env), (false, eval i env)] := by rw [he2]; rfl
  rw [hb2]
  refine PyProof.Rows.callWith_type rfl (evalArgs_plain (Calls.spliced_cons ?_))
  refine wpAny_Call_NameR (Tri.use3 (hf A g₀ hA S) (hg.trans hg1) R1 ?_)
  rintro v g2 h2 tk2 hg2 R2 rv
  (first | obtain ⟨_, rfl⟩ := Rep.inv rv | cases rv)
  have hb3 : backTo pos (starEach [x, y, c] env) = (false, eval x env) :: backTo pos (starEach [y, c] env) := by rw [he3]; rfl
  refine PyProof.Rows.callWith_type he ?_
  rw [hb3]
  refine evalArgs_plain ?_
  rw [← hb3]
  refine Tri.use3 (ha A g2 pos hA (S.le ((hg.trans hg1).trans hg2))) (Le.refl _) R2 ?_
  rintro vs g3 h3 tk3 hg3 R3 rs
  obtain ⟨u1, u2, u3, rfl, r1, r2, r3⟩ := three rs
  (first | obtain ⟨_, rfl⟩ := Rep.inv r1 | cases r1); (first | obtain ⟨_, rfl⟩ := Rep.inv r2 | cases r2); (first | obtain ⟨_, rfl⟩ := Rep.inv r3 | cases r3)
  rename_i t1 t2 t3
  refine call_range_3 (by decide) ?_ (Or.inl (PyProof.noPylong_small (by decide)))
  have R4 := R3.up (Le.push h3 { cls := .type "range", data := .fields #[.int 0 t1, .int (-(n : Int)) t2, .int (-1) t3] })
  have fr := R3.fresh (Nat.le_refl _)
  have R5 := R4.top (Le.refl _)
  have k5 := R4.le_top (Le.refl _)
  refine Calls.spliced_cons (Tri.use3 (hi A _ hA (S.le (((hg.trans hg1).trans (hg2.trans hg3)).trans k5))) (Le.refl _) R5 ?_)
  rintro vI g6 h6 tk6 hg6 R6 rI
  (first | obtain ⟨_, rfl⟩ := Rep.inv rI | cases rI)
  refine Calls.spliced_nil ?_
  have hr : IsRange h6 h3.objs.size 0 (-(n : Int)) (-1) t1 t2 t3 := R6.c.sub _ _ (hg6 _ _ (hideAll_get _ (Heap.get?_push_size _ rfl) (fun hm => by
    rcases List.mem_append.mp hm with hm | hm
    · exact fr.2.1 hm
    · obtain ⟨p, hp, _, e⟩ := mem_muts hm
      exact fr.2.2 (List.mem_map.mpr ⟨p, hp, e⟩))))
  obtain ⟨⟨l, vs, hit, hl, rr⟩, hIn⟩ := R6.c.all (I, .iter ds 0) (List.mem_append_right _ (.head _))
  have hsz : Builtin.Range.rangeSize 0 (-(n : Int)) (-1) = n := by
    unfold Builtin.Range.rangeSize
    rw [if_neg (by decide)]
    have e1 : -(-1 : Int) = 1 := by decide
    rw [e1, Int.ediv_one]
    split <;> (first | lia | omega)
  have hsm : Builtin.Range.small 0 (-(n : Int)) (-1) = true := by
    unfold Builtin.Range.small
    rw [hsz]
    unfold Builtin.Range.rangeFitsLong
    simp
    (first | lia | omega)
  refine call_zipR hr hit hsm ?_
  obtain ⟨R7, nO, nC⟩ := Rel.midOut R6
  have kz : Le h6 (zrH4 h6 (-(n : Int)) I) := (((Le.push _ _).trans (Le.push _ _)).trans (Le.push _ _)).trans (Le.push _ _)
  have s1 : (zrH1 h6 (-(n : Int))).objs.size = h6.objs.size + 1 := Heap.size_push _ _
  have s2 : (zrH2 h6 (-(n : Int)) I).objs.size = h6.objs.size + 2 := by rw [Heap.size_push, s1]
  have s3 : (zrH3 h6 (-(n : Int)) I).objs.size = h6.objs.size + 3 := by rw [Heap.size_push, s2]
  have z1 : IsRangeIter (zrH4 h6 (-(n : Int)) I) h6.objs.size 0 (n : Int) (-1) := by
    have := Heap.get?_push_size h6 (o := { cls := .type "range_iterator", data := .fields #[rawInt 0, rawInt (Builtin.Range.rangeSize 0 (-(n : Int)) (-1)), rawInt (-1)] }) rfl
    rw [hsz] at this
    refine Heap.get?_push_of_some _ (Heap.get?_push_of_some _ (Heap.get?_push_of_some _ ?_))
    unfold zrH1; rw [hsz]; exact this
  have z2 : IsPair (zrH4 h6 (-(n : Int)) I) (h6.objs.size + 1) (.ref h6.objs.size) (.ref I) := by
    rw [← s1]; exact Heap.get?_push_of_some _ (Heap.get?_push_of_some _ (Heap.get?_push_size _ rfl))
  have z3 : IsPair (zrH4 h6 (-(n : Int)) I) (h6.objs.size + 2) .none .none := by
    rw [← s2]; exact Heap.get?_push_of_some _ (Heap.get?_push_size _ rfl)
  have z4 : IsZip (zrH4 h6 (-(n : Int)) I) (h6.objs.size + 3) (h6.objs.size + 1) (h6.objs.size + 2) .none := by
    rw [← s3, ← s1, ← s2]; exact Heap.get?_push_size _ rfl
  have Ilt : @LT.lt Nat _ I h6.objs.size := let ⟨_, e, _⟩ := hit; Heap.lt_size e
  have llt : @LT.lt Nat _ l h6.objs.size := let ⟨_, e, _⟩ := hl; Heap.lt_size (R6.c.sub _ _ e)
  have lI : l ≠ I := fun e => by
    obtain ⟨o, e1, _⟩ := hl
    have e2 := hIn rfl
    dsimp only at e2
    rw [e, e2] at e1; cases e1
  have D : ZAp (h6.objs.size + 3) (h6.objs.size + 1) (h6.objs.size + 2) h6.objs.size I l := by
    constructor <;> first | exact lI | (intro q; exact absurd q (by first | exact (Nat.ne_of_lt (by (first | lia | omega))) | exact (Nat.ne_of_gt (by (first | lia | omega)))))
  refine wpAny_pyIter_zip (by rw [s3]; exact z4) ?_
  rw [s3]
  have f0 := R6.fresh (a := h6.objs.size) (Nat.le_refl _)
  have f1 := R6.fresh (a := h6.objs.size + 1) (by (first | lia | omega))
  have f2 := R6.fresh (a := h6.objs.size + 2) (by (first | lia | omega))
  have f3 := R6.fresh (a := h6.objs.size + 3) (by (first | lia | omega))
  have subA : ∀ b, b ∉ (pre ++ (I, C.iter ds 0) :: post).map (·.1) → b ∉ (pre ++ post).map (·.1) := fun b hb hm => hb (by
    obtain ⟨p, hp, e⟩ := List.mem_map.mp hm
    refine List.mem_map.mpr ⟨p, ?_, e⟩
    rcases List.mem_append.mp hp with hp | hp
    · exact List.mem_append_left _ hp
    · exact List.mem_append_right _ (.tail _ hp))
  refine hQ _ [h6.objs.size + 3, h6.objs.size + 1, h6.objs.size + 2, h6.objs.size, I] (ZSt (h6.objs.size + 3) (h6.objs.size + 1) (h6.objs.size + 2) h6.objs.size I l n) g6 _ tk6 (((hg1.trans hg2).trans (hg3.trans k5)).trans hg6) (R7.up kz) ?_ ?_ ?_ (fun A' hA' => ItS.zip hA'.handled D hl rr hn) ⟨z4, z2, ⟨_, _, z3⟩, by simpa using z1, let ⟨o, e, q⟩ := hit; ⟨o, kz _ _ e, q⟩⟩
  · intro a ha
    simp only [List.mem_cons, List.not_mem_nil, or_false] at ha
    rcases ha with rfl | rfl | rfl | rfl | rfl
    · exact f3.1
    · exact f1.1
    · exact f2.1
    · exact f0.1
    · exact hIn rfl
  · intro a ha
    simp only [List.mem_cons, List.not_mem_nil, or_false] at ha
    rcases ha with rfl | rfl | rfl | rfl | rfl
    · exact ⟨f3.2.1, subA _ f3.2.2⟩
    · exact ⟨f1.2.1, subA _ f1.2.2⟩
    · exact ⟨f2.2.1, subA _ f2.2.2⟩
    · exact ⟨f0.2.1, subA _ f0.2.2⟩
    · exact ⟨nO, nC⟩
  · intro p hp
    rw [List.mem_singleton.mp hp]
    have hlen : (zitems ds n).length = n := by unfold zitems; simp [hn]
    refine ⟨by simp, fun g' h' hg' hst => ⟨l, vs, ?_, isList_le hg' hl, rr.le hg'⟩⟩
    rw [hlen] at hst
    exact hst.2.2.2.2
end
end
/-! F22 -/
section
section
variable {w : World} {A : Around} {s : Shared}
/-- the key that a walk over a dict gives, with its token -/
theorem pyNext_key {it d : Addr} {i ep : Nat} {kvs : List (Str × Value)} {ks : List (Str × Tok)} {k : Str × Tok} {Q : Option Value → Shared → Prop} (hit : s.heap.IsKeyIter it d i kvs.length ep)
    (hm : s.heap.DictAt (strKind PR w) d kvs ep) (hkeys : ∀ o es ep, s.heap.get? d = some o → o.data = .dict es ep → es.toList.map (·.key) = strValues ks) (hx : ks[i]? = some k) (hlk : kvs.length = ks.length)
    (hQ : ∀ h', h'.IsKeyIter it d (i + 1) kvs.length ep → Heap.SameBut it s.heap h' → Q (some (.str k.1 k.2)) { s with heap := h' }) :
    wpAny (model PR w) A (pyNext (.ref it)) Q No s := by
  obtain ⟨o, ho, hc, hd⟩ := id hit
  obtain ⟨od, es, hod, hcd, hdd, hk, hp, hn⟩ := id hm
  have hlt : i < ks.length := (List.getElem?_eq_some_iff.mp hx).1
  have hsz : es.size = kvs.length := by rw [← hp.length]; simp
  have hlt' : i < es.size := by rw [hsz, hlk]; exact hlt
  have hke := hkeys od es ep hod hdd
  have hkey : es[i].key = .str k.1 k.2 := by
    have e1 : (es.toList.map (·.key))[i]? = some es[i].key := by simp [hlt']
    rw [hke] at e1
    unfold strValues at e1
    rw [List.getElem?_map, hx] at e1
    exact (Option.some.inj e1).symm
  unfold pyNext
  refine wpAny_bind (wpAny_attempt (wpAny_callSpecial?_slot (name := Str.ofString "__next__") hit.typeIs F.slot_dict_keyiterator_next
    (wpAny_call_entry F.slot_dict_keyiterator_next hit.typeIs F.entry_dict_keyiterator_next ?_ (F.args_dict_keyiterator_next_1 _))))
  refine wpAny_bind (wpAny_pure ?_)
  refine wpAny_bind ?_
  refine wpAny_bind ?_
  first | refine wpAny_bind (wpAny_typeNameOfWhole_keyiter hit.typeIs (wpAny_pure ?_)) | refine wpAny_bind (wpAny_typeNameOf_keyiter hit.typeIs (wpAny_pure ?_))
  refine wpAny_bind (wpAny_fieldsOf ho hd ?_)
  have hown : Builtin.Dict_items.ownsTuple "dict_keyiterator" = false := by decide
  simp only [hown, Bool.false_eq_true, if_false]
  show wpAny _ _ (if (Value.ref d == Value.none) = true then _ else _) _ _ s
  rw [if_neg (show ¬ ((Value.ref d == Value.none) = true) from Bool.false_ne_true)]
  refine wpAny_bind (wpAny_pure ?_)
  refine wpAny_bind (wpAny_dictEntries hod hdd ?_)
  rw [if_neg (by rw [hsz]; simp)]
  refine wpAny_bind (wpAny_pure ?_)
  refine wpAny_bind (wpAny_dictEpoch hod hdd ?_)
  rw [if_neg (by simp)]
  refine wpAny_pure ?_
  simp only [show ¬ ((i : Int) < 0) from by (first | lia | omega), if_false, Int.toNat_natCast, Array.getElem?_eq_getElem hlt']
  refine wpAny_bind ?_
  first | refine wpAny_bind (wpAny_typeNameOfWhole_keyiter hit.typeIs (wpAny_pure ?_)) | refine wpAny_bind (wpAny_typeNameOf_keyiter hit.typeIs (wpAny_pure ?_))
  refine wpAny_bind (wpAny_isOneOf_keyiter hit.typeIs ?_)
  show wpAny _ _ (setField (.ref it) 1 (rawInt ((i : Int) + 1)) >>= _) _ _ s
  refine wpAny_bind (wpAny_setField ho hd (by simp) ?_)
  have hit' : (s.heap.update it (Obj.mapFields (·.setIfInBounds 1 (rawInt ((i : Int) + 1))))).IsKeyIter it d (i + 1) kvs.length ep :=
    ⟨_, Heap.get?_update_self _ ho (Obj.isFreed_of_fields (Obj.data_mapFields hd _)), (Obj.cls_mapFields ..).trans hc, by rw [Obj.data_mapFields hd]; simp [rawInt]⟩
  refine wpAny_bind (wpAny_holding ?_)
  refine wpAny_bind (wpAny_isOneOf_keyiter (s := { s with heap := s.heap.update it (Obj.mapFields (·.setIfInBounds 1 (rawInt ((i : Int) + 1)))) }) hit'.typeIs ?_)
  show wpAny _ _ (pure es[i].key) _ _ _
  rw [hkey]
  exact wpAny_pure (wpAny_pure ⟨_, rfl, wpAny_pure (hQ _ hit' (Heap.SameBut.update ..))⟩)

noncomputable def keysD (ks : List (Str × Tok)) : List D := ks.map fun p => .val (.str p.1 p.2)
theorem keysD_get {ks : List (Str × Tok)} {i : Nat} {d : D} (h : (keysD ks)[i]? = some d) : ∃ k, ks[i]? = some k ∧ d = .val (.str k.1 k.2) := by
  unfold keysD at h
  rw [List.getElem?_map] at h
  obtain ⟨k, h1, h2⟩ := Option.map_eq_some_iff.mp h
  exact ⟨k, h1, h2.symm⟩
theorem ItS.keys {target : Expr} {I d : Addr} {ep : Nat} {ps : List (Str × Value)} {ks : List (Str × Tok)} {g₀ : Heap} (hh : A.handled = none) (hne : g₀.get? I = none) (hm : g₀.DictAt (strKind PR w) d ps ep) (hk : DictK w g₀ d ps ks) :
    ItS w A target (.ref I) [I] [] (keysD ks) (fun i h => h.IsKeyIter I d i ps.length ep) g₀ where
  data := fun i h ⟨o, e, _⟩ a ha => by rw [List.mem_singleton.mp ha]; exact ⟨o, e⟩
  stay := fun i h h' ⟨o, e, q⟩ k _ => ⟨o, k I (.head _) o e, q⟩
  next := fun i d' s Q hd hst hg hQ => by
    obtain ⟨k, hx, rfl⟩ := keysD_get hd
    have hl : ps.length = ks.length := by have := congrArg List.length hk.2.1; simpa using this
    refine pyNext_key hst (hm.at' fun o e => hg _ _ e) (dictK_at hk fun o e => hg _ _ e).2.2 hx hl fun h' hit' hs => ?_
    exact letGo_keyiter hit' (hQ _ h' _ (fun b o hb e => (hs.2 b fun q => hb (by rw [q]; exact .head _)).trans e) (fun g' _ _ => .val _) hit')
  done := fun s Q hst hg hQ => by
    have hl : ps.length = ks.length := by have := congrArg List.length hk.2.1; simpa using this
    have hl2 : (keysD ks).length = ks.length := by simp [keysD]
    rw [hl2] at hst
    exact wpAny_pyNext_dict_end hh hst (hm.at' fun o e => hg _ _ e) (by simp [hl]) fun h' he => hQ h' _ (fun b o hb e => he b o (fun q => hb (by rw [q]; exact .head _)) e) (fun a ha => by cases ha)
  self := fun i s Q hst _ h => wpAny_pyIter_keyiter hst h
end

section
variable {w : World} {env : Env} {k : Nat} {loc loc' : Loc} {cells : Cls} {R : D → Cls → Prop}
theorem ItE.keys {target e : Expr} {a : Addr} {ks : List (Str × Tok)} {ds : List D} (he : Ev w env k loc cells e (.val (.ref a))) (hc : (a, C.fdict ks ds) ∈ cells) : ItE w env k loc cells cells [] target e (keysD ks) := by
  intro A g₀ hA S g s Q hg Rl hQ
  refine Tri.use3 (he A g₀ hA S) hg Rl ?_
  rintro x g1 h1 tk1 hg1 R1 r
  (first | obtain ⟨_, rfl⟩ := Rep.inv r | cases r)
  obtain ⟨⟨ps, _, hk, lo, rr⟩, _⟩ := R1.c.all _ hc
  obtain ⟨ep, hm⟩ := hk.1.dictAt
  refine wpAny_pyIter_dict lo (hm.at' fun o e => R1.c.sub _ _ e) ?_
  have fr := R1.fresh (Nat.le_refl _)
  exact hQ _ [h1.objs.size] _ g1 _ tk1 hg1 (R1.up (Le.push _ _)) (fun a ha => by rw [List.mem_singleton.mp ha]; exact fr.1) (fun a ha => by rw [List.mem_singleton.mp ha]; exact fr.2)
    (fun i h ⟨o, e, _, d⟩ a ha => by rw [List.mem_singleton.mp ha]; exact ⟨o, _, e, d⟩) (fun p hp => by cases hp) (fun A' hA' => ItS.keys hA'.handled fr.1 hm hk) ⟨_, Heap.get?_push_size _ rfl, rfl, rfl⟩

/-- iter of a list -/
theorem EvC.iter {f : Str} {fp pos : Pos} {x : Expr} {ds : List D} (hf : Ev w env k loc cells (.Name f fp) (.val (.builtin "iter"))) (hx : Ev w env k loc cells x (.lst ds)) (hR : ∀ a, R (.val (.ref a)) ((a, .iter ds 0) :: cells))
    (he : starEach [x] env = [(false, eval x env)] := by rfl) : EvC w env k loc cells (.Call (.Name f fp) [x] [] pos) R := by
  intro A g₀ hA S g s Q hg Rl hQ
  refine wpAny_Call_NameR (Tri.use3 (hf A g₀ hA S) hg Rl ?_)
  rintro v g1 h1 tk1 hg1 R1 rv
  (first | obtain ⟨_, rfl⟩ := Rep.inv rv | cases rv)
  have hb' : backTo pos (starEach [x] env) = [(false, eval x env)] := by rw [he]; rfl
  rw [hb']
  refine callWith_builtin rfl (evalArgs_plain (Calls.spliced_cons ?_))
  refine Tri.use3 (hx A g1 hA (S.le (hg.trans hg1))) (Le.refl _) R1 ?_
  rintro v g2 h2 tk2 hg2 R2 rs
  obtain ⟨⟨_, _⟩, rfl, hl, rr⟩ := Rep.inv rs
  · refine Calls.spliced_nil ?_
    refine call_function_entry (by decide +kernel) (by decide +kernel) kdk_entry_iter (kdk_args_iter _) ?_
    unfold Builtin.«iter»
    refine wpAny_bind (m := someArgs "iter" 1 2 _) (wpAny_of_eq (a := [Value.ref _]) (by first | rfl | kernel_rfl!) ?_)
    show wpAny _ _ (pyIter (.ref _) >>= _) _ _ _
    refine wpAny_bind (wpAny_pyIter_list (isList_le R2.c.sub hl) ?_)
    refine wpAny_pure ⟨_, rfl, ?_⟩
    exact hQ _ g2 _ _ _ _ (hg1.trans hg2) (R2.newCell (c := .iter ds 0) rfl ⟨_, _, ⟨_, Heap.get?_push_size _ rfl, rfl, rfl⟩, hl, rr⟩ rfl) ⟨_, .val _, rfl, hR _⟩

/-- a walk that goes on with an iterator -/
theorem ItS.listFrom {A : Around} {target : Expr} {I ax : Addr} {vs : List Value} {ds : List D} {j : Nat} {g₀ : Heap} (hh : A.handled = none) (hl : g₀.IsList ax vs.toArray) (r : RepAll g₀ vs ds) (hj : j ≤ ds.length) :
    ItS w A target (.ref I) [I] [] (ds.drop j) (fun i h => h.IsListIter I ax (j + i)) g₀ where
  data := fun i h ⟨o, e, _⟩ a ha => by rw [List.mem_singleton.mp ha]; exact ⟨o, e⟩
  stay := fun i h h' ⟨o, e, c, d⟩ k _ => ⟨o, k I (.head _) o e, c, d⟩
  next := fun i d s Q hd hst hg hQ => by
    rw [List.getElem?_drop] at hd
    obtain ⟨v, hv, rv⟩ := r.get hd
    refine wpAny_pyNext_list_item hst (isList_le hg hl) (x := v) (by simpa using hv) fun h' hit' hs' => ?_
    exact letGo_listiter hit' (hQ v h' _ (fun b o hb e => (hs'.2 b fun q => hb (by rw [q]; exact .head _)).trans e) (fun g' hg' _ => rv.le hg') hit')
  done := fun s Q hst hg hQ => wpAny_pyNext_list_end hh hst (isList_le hg hl) (by rw [List.length_drop]; simp [r.length]; (first | lia | omega)) fun h' he => hQ h' _ (fun b o hb e => he b o (fun q => hb (by rw [q]; exact .head _)) e) (fun a ha => by cases ha)
  self := fun i s Q hst _ h => wpAny_pyIter_listiter hst h
theorem ItE.iterC {target e : Expr} {I : Addr} {ds : List D} {j : Nat} {pre post : Cls} (he : Ev w env k loc (pre ++ (I, .iter ds j) :: post) e (.val (.ref I))) (hj : j ≤ ds.length) : ItE w env k loc (pre ++ (I, .iter ds j) :: post) (pre ++ post) [] target e (ds.drop j) := by
  intro A g₀ hA S g s Q hg Rl hQ
  refine Tri.use3 (he A g₀ hA S) hg Rl ?_
  rintro x g1 h1 tk1 hg1 R1 r
  (first | obtain ⟨_, rfl⟩ := Rep.inv r | cases r)
  obtain ⟨⟨ax, vs, hit, hl, rr⟩, hIn⟩ := R1.c.all (I, .iter ds j) (List.mem_append_right _ (.head _))
  obtain ⟨R2, nO, nC⟩ := Rel.midOut R1
  refine wpAny_pyIter_listiter hit ?_
  exact hQ _ [I] (fun i h => h.IsListIter I ax (j + i)) g1 _ tk1 hg1 R2 (fun a ha => by rw [List.mem_singleton.mp ha]; exact hIn rfl) (fun a ha => by rw [List.mem_singleton.mp ha]; exact ⟨nO, nC⟩)
    (fun i h ⟨o, e, _, d⟩ a ha => by rw [List.mem_singleton.mp ha]; exact ⟨o, _, e, d⟩) (fun p hp => by cases hp) (fun A' hA' => ItS.listFrom hA'.handled hl rr hj) (by simpa using hit)

/-! `i is b or i == b` -/
theorem cs_none (w : World) : nsIn (KF w) cStatics sharingNotToldKey = some none := by kernel_rfl
theorem ns_none_of {K : Frag} {h : Heap} {a : Addr} {mg : Str → Option Value} {n : Str} (X : K.In h) (G : h.Ns a mg) (e : nsIn K a n = some none) : mg n = none := by
  obtain ⟨o, es, ep, ho, hd, _, hf⟩ := G
  unfold nsIn at e
  split at e
  · rename_i c d es' n' sl q
    have := X _ _ q
    rw [ho] at this
    cases this
    cases hd
    split at e
    · cases e
    · rename_i he
      rw [← hf]
      unfold nsFind findBy
      rw [← Array.find?_toList, he]
      rfl
  · cases e
theorem Stat.booked {g : Heap} (S : Stat w g) : NoneBooked g := by
  obtain ⟨mc, h1, _⟩ := S.nodigits
  exact ⟨mc, h1, ns_none_of S.X h1 (cs_none w)⟩
theorem isSame_strs {A : Around} {s : Shared} {x y : Str} {t u : Tok} {Q : Bool → Shared → Prop} (ht : t ≠ 0) (hu : u ≠ 0) (hx : t = u → x = y) (hb : NoneBooked s.heap) (hq : ∀ b, (b = true → x = y) → Q b s) :
    wpAny (model PR w) A (isSame (.str x t) (.str y u)) Q No s := by
  show wpAny (model PR w) A (isSame.created (x == y) t u) Q No s
  unfold isSame.created
  have h0 : (t == 0 || u == 0) = false := by simp [ht, hu]
  refine wpAny_ite ?_
  split
  · rename_i h; rw [h0] at h; exact absurd h Bool.false_ne_true
  refine wpAny_ite ?_
  split
  · rename_i h; exact wpAny_pure (hq _ fun _ => hx (by simpa using h))
  refine wpAny_ite ?_
  split
  · exact wpAny_pure (hq _ fun h => by cases h)
  rename_i h
  have e : x = y := by simpa using h
  refine wpAny_bind (wpAny_sharingNotTold_none hb ?_)
  first | rw [if_neg Bool.false_ne_true] | simp only [Bool.false_eq_true, if_false]
  refine wpAny_bind (wpAny_sharingNotTold_none hb ?_)
  first | rw [if_neg Bool.false_ne_true] | simp only [Bool.false_eq_true, if_false]
  exact wpAny_bind (wpAny_rule (wpAny_bind (wpAny_askSetting (wpAny_pure (hq _ fun _ => e)))))
theorem Tr.isEq {i b i2 b2 : Expr} {pos pos2 pos3 : Pos} {x y : Str} {t u : Tok} (hi : Ev w env k loc cells i (.val (.str x t))) (hb : Ev w env k loc cells b (.val (.str y u))) (hi2 : Ev w env k loc cells i2 (.val (.str x t))) (hb2 : Ev w env k loc cells b2 (.val (.str y u)))
    (ht : t ≠ 0) (hu : u ≠ 0) (hx : t = u → x = y) (hs : behindInMarks .Is b = false := by rfl) (hs2 : behindInMarks .Eq b2 = false := by rfl) :
    Tr w env k loc cells (.BoolOp .Or [.Compare i [.Is] [b] pos, .Compare i2 [.Eq] [b2] pos2] pos3) (x == y) := by
  intro A g₀ hA S g s Q hg R hQ
  refine wpAny_isTrue_BoolOp (wpAny_allTrue_Or_cons ?_)
  refine wpAny_isTrue_Compare1 (hm := hs) (Tri.use3 (hi A g₀ hA S) hg R ?_)
  rintro v g1 h1 tk1 hg1 R1 r1
  (first | obtain ⟨_, rfl⟩ := Rep.inv r1 | cases r1)
  refine Tri.use3 (hb A g1 hA (S.le (hg.trans hg1))) (Le.refl _) R1 ?_
  rintro v g2 h2 tk2 hg2 R2 r2
  (first | obtain ⟨_, rfl⟩ := Rep.inv r2 | cases r2)
  refine wpAny_bind (isSame_strs ht hu hx (S.le ((hg.trans hg1).trans (hg2.trans R2.c.sub))).booked fun c hc => wpAny_pure (wpAny_truthy_bool ?_))
  cases c with
  | true => rw [hc rfl] at hQ; exact hQ _ g2 h2 tk2 _ _ (hg1.trans hg2) R2 ⟨by simp, rfl, rfl⟩
  | false =>
    refine wpAny_allTrue_Or_cons ?_
    refine wpAny_isTrue_Compare1 (hm := hs2) (Tri.use3 (hi2 A g2 hA (S.le ((hg.trans hg1).trans hg2))) (Le.refl _) R2 ?_)
    rintro v g3 h3 tk3 hg3 R3 r3
    (first | obtain ⟨_, rfl⟩ := Rep.inv r3 | cases r3)
    refine Tri.use3 (hb2 A g3 hA (S.le (((hg.trans hg1).trans hg2).trans hg3))) (Le.refl _) R3 ?_
    rintro v g4 h4 tk4 hg4 R4 r4
    (first | obtain ⟨_, rfl⟩ := Rep.inv r4 | cases r4)
    refine PyProof.Rows.eq_str (wpAny_truthy_bool ?_)
    have fin := hQ (x == y) g4 h4 tk4 _ _ (((hg1.trans hg2).trans hg3).trans hg4) R4 ⟨rfl, rfl, rfl⟩
    cases q : (x == y) with
    | true => rw [q] at fin; exact fin
    | false => rw [q] at fin; exact wpAny_allTrue_Or_nil fin
theorem Rep.wk {g : Heap} {v : Value} {x : Str} {t : Tok} (r : Rep g v (.val (.str x t))) : Rep g v (.str x) := by (first | obtain ⟨_, rfl⟩ := Rep.inv r | cases r); exact .str _ _
theorem Ev.wk {e : Expr} {x : Str} {t : Tok} (h : Ev w env k loc cells e (.val (.str x t))) : Ev w env k loc cells e (.str x) := fun A g₀ hA S =>
  (h A g₀ hA S).mono fun _ _ _ _ _ ⟨r, e1, e2⟩ => ⟨r.wk, e1, e2⟩
theorem Cmp.ltPv {a b : Int} {x y : Str} {t u : Tok} : Cmp w (k + 1) .Lt (.tup [.int a, .val (.str x t)]) (.tup [.int b, .val (.str y u)]) (pairLt a x b y) := by
  intro A g u' v' hA S ru rv
  refine Cmp.ltP (w := w) (k := k) (a := a) (b := b) (x := x) (y := y) A g u' v' hA S ?_ ?_
  · cases ru with | tup h1 r1 =>
    obtain ⟨u0, u1, rfl, p0, p1⟩ := two r1
    exact .tup h1 (.cons p0 (.cons p1.wk .nil))
  · cases rv with | tup h1 r1 =>
    obtain ⟨u0, u1, rfl, p0, p1⟩ := two r1
    exact .tup h1 (.cons p0 (.cons p1.wk .nil))
end
end
/-! F23 -/
section
section
variable {w : World} {env : Env} {k : Nat} {loc loc' : Loc} {cells : Cls} {R : Post} {x y : Str}
theorem Ex.exprAny {e : Expr} {pos : Pos} (h : EvC w env k loc cells e (fun _ c => R .next loc c)) (hi : interactive env = false) (hs : swapsWith e none pos.line env = pure false := by rfl) : Ex w env k loc cells (.Expr e pos) R := by
  intro A g₀ hA S g s Q hg Rl hQ
  refine wpAny_Expr_any (h A g₀ hA S g s _ hg Rl ?_) hi hs
  rintro v g1 h1 tk1 l1 c1 hg1 R1 ⟨d, rv, rfl, hr⟩
  exact hQ _ g1 h1 tk1 _ _ hg1 R1 ⟨.next, trivial, hr⟩
theorem Ev.ifexp {test a b : Expr} {pos : Pos} {c : Bool} {d : D} (ht : Tr w env k loc cells test c) (h1 : c = true → Ev w env k loc cells a d) (h2 : c = false → Ev w env k loc cells b d) : Ev w env k loc cells (.IfExp test a b pos) d := by
  intro A g₀ hA S g s Q hg Rl hQ
  refine wpAny_IfExp (Tri.use3 (ht A g₀ hA S) hg Rl ?_)
  rintro c' g1 h1' tk1 hg1 R1 rfl
  cases c' with
  | true => exact h1 rfl A g1 hA (S.le (hg.trans hg1)) g1 _ Q (Le.refl _) R1 fun a g' h' tk' l' c' x y z => hQ a g' h' tk' l' c' (hg1.trans x) y z
  | false => exact h2 rfl A g1 hA (S.le (hg.trans hg1)) g1 _ Q (Le.refl _) R1 fun a g' h' tk' l' c' x y z => hQ a g' h' tk' l' c' (hg1.trans x) y z
theorem starList {A : Around} {s : Shared} {a : Addr} {vs : List Value} {Q : List Value → Shared → Prop} (hl : s.heap.IsList a vs.toArray) (hz : vs.length ≤ sizeLine) (h : ∀ h', Le s.heap h' → Q vs { s with heap := h' }) : StarOf (model PR w) A No (.ref a) Q s := by
  obtain ⟨o, ho, hc, n, hd⟩ := id hl
  have z : wpAny (model PR w) A (collect (.ref a)) Q No s := by
    have := wpAny_collect_seq (prog := PR) (w := w) (A := A) (E := No) (s := s) (Q := Q) a (.inl rfl) ho hc hd (fun h' hk => by simpa using h h' hk) (by simpa using hz)
    exact this
  unfold StarOf notIterableAtAll
  exact wpAny_bind (wpAny_specialOf hl.typeIs F.slot_list_iter.lookup (wpAny_pure ⟨rfl, z⟩))
/-- a star in a call -/
theorem EvL.star {e : Expr} {p : Pos} {es : List Expr} {d : D} {ds ds' : List D} (h : Ev w env k loc cells e (.lst ds')) (r : EvL w env k loc cells es ds) (hz : ds'.length ≤ sizeLine) : EvL w env k loc cells (.Starred e p :: es) (ds' ++ ds) := by
  intro A g₀ pos hA S g s Q hg Rl hQ
  refine items_star (Tri.use3 (h A g₀ hA S) hg Rl ?_)
  rintro v g1 h1 tk1 hg1 R1 rv
  obtain ⟨⟨_, _⟩, rfl, hl, rr⟩ := Rep.inv rv
  · rename_i a vs
    have hL := isList_le R1.c.sub hl
    refine starList hL (by rw [rr.length]; exact hz) fun h2 k2 => ?_
    have R2 := (R1.up k2).top (Le.refl _)
    have kg := (R1.up k2).le_top (Le.refl _)
    refine Tri.use3 (r A _ pos hA (S.le ((hg.trans hg1).trans kg))) (Le.refl _) R2 ?_
    rintro us g3 h3 tk3 hg3 R3 rs
    exact hQ _ g3 h3 tk3 _ _ ((hg1.trans kg).trans hg3) R3 ⟨RepAll.append rs (rr.le (kg.trans hg3)), rfl, rfl⟩
/-- a list and a list -/
theorem Bin.catL {ds es : List D} (hz : ds.length + es.length ≤ sizeLine) : Bin w k .Add (.lst ds) (.lst es) (.lst (ds ++ es)) := by
  intro A g u v _ _ ru rv
  cases ru with | lst hl r1 => cases rv with | lst hb r2 =>
  rename_i vs _ ws
  intro s Q hg hQ
  obtain ⟨⟨cls, dd, data, sl⟩, ho, hc, n, hd⟩ := isList_le hg hl
  obtain ⟨⟨cls2, dd2, data2, sl2⟩, ho2, hc2, n2, hd2⟩ := isList_le hg hb
  simp only at hc hd hc2 hd2
  subst hc hd hc2 hd2
  have e : vs.toArray ++ ws.toArray = (vs ++ ws).toArray := by simp
  refine concat_meets ⟨_, ho, rfl⟩ ⟨_, ho2, rfl⟩ noFill_list_add seq_list_add F.slot_list_add F.entry_list_add (F.args_list_add_2 _ _) (list_addW _ _ vs.toArray ws.toArray n n2 dd dd2 sl sl2 (by simp [r1.length, r2.length, hz])) ⟨ho, ho2, ?_⟩
  rw [e]
  exact hQ _ _ s.toks (Le.push _ _) fun g' hg' nw => .lst (vs := vs ++ ws) ⟨_, nw _ _ (fresh_none _) (Heap.get?_push_size _ rfl), rfl, 0, rfl⟩ (RepAll.append (r2.le hg') (r1.le hg'))
/-- a text, n times -/
theorem Bin.times {n : Nat} (hz : x.length * n ≤ 1000) (hx : x.length ≤ 1000) (hn : n ≤ 1000) (out : Str) (ho : out = if (n : Int) < 1 then Str.empty else if ((n : Int) == 1 || x.length == 0) = true then x else ⟨(List.replicate n x.cps).foldl (· ++ ·) #[]⟩) (hl : out.length ≤ sizeLine) : Bin w k .Mult (.str x) (.int n) (.str out) := by
  intro A g u v _ _ ru rv
  (first | obtain ⟨_, rfl⟩ := Rep.inv ru | cases ru); (first | obtain ⟨_, rfl⟩ := Rep.inv rv | cases rv)
  rename_i t u
  intro s Q hg hQ
  have hb : (x.length : Int) ≤ 1000 := by (first | lia | omega)
  refine PySem.P.mul_str (by simp; (first | lia | omega)) (fun h1 _ => ?_) (fun _ _ => ?_) ?_
  · have hn1 : 0 < (n : Int) := by (first | lia | omega)
    have : (1000 : Int) ≤ (2 ^ 63 - 1) / (n : Int) := by
      rw [Int.le_ediv_iff_mul_le hn1]
      (first | lia | omega)
    (first | lia | omega)
  · unfold Builtin.Str.tooLong
    rw [sizeLine_eq]
    simp
    (first | lia | omega)
  · subst ho
    by_cases c1 : (n : Int) < 1
    · rw [if_pos c1] at hl ⊢; exact ⟨hl, hQ _ s.heap _ (Le.refl _) fun _ _ _ => by rw [if_pos c1]; exact .str _ _⟩
    · rw [if_neg c1] at hl ⊢
      by_cases c2 : ((n : Int) == 1 || x.length == 0) = true
      · rw [if_pos c2] at hl ⊢; exact hQ _ s.heap s.toks (Le.refl _) fun _ _ _ => by rw [if_neg c1, if_pos c2]; exact .str _ _
      · rw [if_neg c2] at hl ⊢; exact ⟨hl, hQ _ s.heap _ (Le.refl _) fun _ _ _ => by rw [if_neg c1, if_neg c2]; exact .str _ _⟩

/-! kinds -/
theorem B.type_str : BFn w k (.type "type") [.str x] (.val (.type "str")) := by
  intro A g vs _ _ r
  obtain ⟨u, rfl, rx⟩ := one r; (first | obtain ⟨_, rfl⟩ := Rep.inv rx | cases rx)
  exact Pr.val (a := fun _ => Value.type "str") id (fun s Q _ h => call_type_of (typeIs_str _ _ _) (by decide) h) fun _ _ _ => .val _
theorem B.isi_bytes : BFn w k (.builtin "isinstance") [.str x, .val (.type "bytes")] (.bool false) := by
  intro A g vs _ _ r
  obtain ⟨u, v, rfl, rx, ry⟩ := two r; (first | obtain ⟨_, rfl⟩ := Rep.inv rx | cases rx); (first | obtain ⟨_, rfl⟩ := Rep.inv ry | cases ry)
  exact Pr.val (a := fun _ => Value.bool false) (· + 1) (fun s Q _ h => IsiPair.str_bytes h) fun _ _ _ => .bool _
theorem B.str_int {a : Int} (ha : a.natAbs.log2 < 1920) : BFn w k (.type "str") [.int a] (.str (toString a)) := by
  intro A g vs _ _ r
  obtain ⟨u, rfl, rx⟩ := one r; (first | obtain ⟨_, rfl⟩ := Rep.inv rx | cases rx)
  exact Pr.val (a := fun t => Value.str (toString a) t) (· + 1) (fun s Q _ h => PySem.P.str_of_int ha h) fun _ _ _ => .str _ _
theorem ty_type_str : typeOf (.type "str") = pure (.type "type") := by first | rfl | kernel_rfl
theorem sub_str_str : isSubtype (.type "str") (.type "str") = pure true := by rw [isSubtype_type]; kernel_rfl
theorem sub_tt : isSubtype (.type "tuple") (.type "tuple") = pure true := by rw [isSubtype_type]; kernel_rfl
theorem kind_nested : builtinKind "issubclass.nested" = none := by decide +kernel
theorem plain_nested : plainId "issubclass.nested" = true := by decide +kernel
theorem args_nested (a b c : Value) : argsOk "issubclass.nested" ⟨[a, b, c], []⟩ := by unfold argsOk; kernel_rfl
theorem meets_nested_str (dep : Int) (tk : Tok) : Meets (Builtin.«issubclass.nested» ⟨[.type "str", .type "str", .int dep tk], []⟩) (fun _ R s => R (.ok (.ret (.bool true))) s) :=
  fun prog w A R s h => by
    have hm := ty_type_str
    have hself := sub_str_str
    repeat (any_goals (first | assumption | (rw [hself]) | wp_step))
theorem nested_tuple {prog : Program} {A : Around} {E : Value → Shared → Prop} {tp : Addr} {tk : Tok} {s : Shared} {Q : PySem.Fin → Shared → Prop} {c : Value} {cs : List Value}
    (htp : s.heap.IsTuple tp (c :: cs).toArray) (hc0 : c = .type "str") (hq : Q (.done (.ret (.bool true))) s) : wpAny (model prog w) A (Builtin.«issubclass.nested» ⟨[.type "str", .ref tp, .int 0 tk], []⟩) Q E s := by
  obtain ⟨h, g, d, t, os⟩ := s
  obtain ⟨⟨cls, dd, data, sl⟩, ho, hc, n, hd⟩ := htp
  simp only at hc hd
  subst hc hd
  have hT2 : (⟨h, g, d, t, os⟩ : Shared).TypeIs (.ref tp) "tuple" := ⟨_, ho, rfl⟩
  have f1 := sub_tt
  generalize hA : (c :: cs).toArray = arr at ho
  repeat (any_goals (first | assumption | wp_step))
  refine wpAny_arrayLoop ?_
  subst hA hc0
  simp only [Option.getD_some, List.toList_toArray]
  rw [List.forIn_cons]
  refine wpAny_bind (wpAny_bind (call_function_meets kind_nested plain_nested F.entry_issubclass_nested (args_nested _ _ _) (meets_nested_str _ _) ?_))
  show wpAny _ _ (truthy (.bool true) >>= _) _ _ _
  refine wpAny_bind (m := truthy (.bool true)) (wpAny_pure ?_)
  simp only [if_true]
  exact wpAny_bind (wpAny_pure (wpAny_pure (wpAny_pure (wpAny_pure hq))))
theorem B.issub : BFn w k (.builtin "issubclass") [.val (.type "str"), .tup [.val (.type "str"), .val (.type "bytes")]] (.bool true) := by
  intro A g vs _ _ r
  obtain ⟨u, v, rfl, rx, ry⟩ := two r
  (first | obtain ⟨_, rfl⟩ := Rep.inv rx | cases rx)
  obtain ⟨⟨_, _⟩, rfl, hl, rr⟩ := Rep.inv ry
  · obtain ⟨a, b, rfl, ra, rb⟩ := two rr
    (first | obtain ⟨_, rfl⟩ := Rep.inv ra | cases ra); (first | obtain ⟨_, rfl⟩ := Rep.inv rb | cases rb)
    refine Pr.val (a := fun _ => Value.bool true) id (fun s Q hg h => ?_) fun _ _ _ => .bool _
    refine call_issubclass (S := fun A R s => s.heap.IsTuple _ [Value.type "str", Value.type "bytes"].toArray ∧ R (.ok (.ret (.bool true))) s) (fun prog w A R s hs => issubclass_outer ?_) ⟨isTup_le hg hl, h⟩
    exact nested_tuple hs.1 rfl hs.2
end
end
/-! W1 -/
section
set_option maxHeartbeats 1000000
section
variable {w : World} {k : Nat} {cells : Cls}
theorem zip_fst : ∀ {ps : List Str} {vs : List Value}, ps.length = vs.length → (ps.zip vs).map (·.1) = ps
  | [], [], _ => rfl
  | p :: ps, v :: vs, h => by rw [List.zip_cons_cons, List.map_cons, zip_fst (by simpa using h)]
theorem zip_snd : ∀ {ps : List Str} {vs : List Value}, ps.length = vs.length → (ps.zip vs).map (·.2) = vs
  | [], [], _ => rfl
  | p :: ps, v :: vs, h => by rw [List.zip_cons_cons, List.map_cons, zip_snd (by simpa using h)]
theorem binds_plain {f : FuncData} {ds : List D} {ps : List Str} (hl : ps.length = ds.length) (h : ∀ vs : List Value, vs.length = ps.length → bindArgs f ⟨vs, []⟩ = pure (ps.zip vs)) :
    ∀ A g vs, Stat w g → RepAll g vs ds → Pr w A g (bindArgs f ⟨vs, []⟩) (fun g' b => b.map (·.1) = ps ∧ RepAll g' (b.map (·.2)) ds) := by
  intro A g vs _ r
  have e : vs.length = ps.length := by rw [r.length, hl]
  rw [h vs e]
  exact Pr.pure fun g' hg' => ⟨zip_fst e.symm, by rw [zip_snd e.symm]; exact r.le hg'⟩
theorem cons1 {α : Type} {n : Nat} : ∀ {l : List α}, l.length = n + 1 → ∃ a r, l = a :: r ∧ r.length = n
  | a :: r, h => ⟨a, r, rfl, Nat.succ.inj h⟩
theorem cons0 {α : Type} {l : List α} (h : l.length = 0) : l = [] := List.eq_nil_of_length_eq_zero h
theorem binds1 {f : FuncData} {p : Str} (h : ∀ u : Value, bindArgs f ⟨[u], []⟩ = pure [(p, u)]) (vs : List Value) (hv : vs.length = [p].length) : bindArgs f ⟨vs, []⟩ = pure ([p].zip vs) := by
  obtain ⟨u, r, rfl, h1⟩ := cons1 hv
  rw [cons0 h1]
  exact h u
theorem binds2 {f : FuncData} {p q : Str} (h : ∀ u v : Value, bindArgs f ⟨[u, v], []⟩ = pure [(p, u), (q, v)]) (vs : List Value) (hv : vs.length = [p, q].length) : bindArgs f ⟨vs, []⟩ = pure ([p, q].zip vs) := by
  obtain ⟨u, r, rfl, h1⟩ := cons1 hv
  obtain ⟨v, r, rfl, h2⟩ := cons1 h1
  rw [cons0 h2]
  exact h u v
theorem binds3 {f : FuncData} {p q r : Str} (h : ∀ u v x : Value, bindArgs f ⟨[u, v, x], []⟩ = pure [(p, u), (q, v), (r, x)]) (vs : List Value) (hv : vs.length = [p, q, r].length) : bindArgs f ⟨vs, []⟩ = pure ([p, q, r].zip vs) := by
  obtain ⟨u, r, rfl, h1⟩ := cons1 hv
  obtain ⟨v, r, rfl, h2⟩ := cons1 h1
  obtain ⟨x, r, rfl, h3⟩ := cons1 h2
  rw [cons0 h3]
  exact h u v x
end
local macro_rules | `(tactic| walk_at "mine m") => `(tactic| first | exact memAt 0 rfl | exact memAt 1 rfl | exact memAt 2 rfl | exact memAt 3 rfl | exact memAt 4 rfl | exact memAt 5 rfl | exact memAt 6 rfl | exact memAt 7 rfl | exact memAt 8 rfl | exact memAt 9 rfl | exact memAt 10 rfl | exact memAt 11 rfl | exact memAt 12 rfl | exact memAt 13 rfl | exact memAt 14 rfl | exact memAt 15 rfl)
local macro_rules | `(tactic| walk_at "mine p") => `(tactic| first | exact Put.at 0 rfl | exact Put.at 1 rfl | exact Put.at 2 rfl | exact Put.at 3 rfl | exact Put.at 4 rfl | exact Put.at 5 rfl | exact Put.at 6 rfl | exact Put.at 7 rfl | exact Put.at 8 rfl | exact Put.at 9 rfl | exact Put.at 10 rfl | exact Put.at 11 rfl | exact Put.at 12 rfl | exact Put.at 13 rfl | exact Put.at 14 rfl | exact Put.at 15 rfl)
local macro_rules | `(tactic| walk_at "mine k") => `(tactic| (unfold Env.kindOf; first | (rw [‹env.scope = _›]; decide) | simp_all))
section
variable {w : World} {k : Nat} {cells : Cls}
theorem kOf {env : Env} {sc : Scope} {x : Str} {r : Option NameKind} (hs : env.scope = sc) (h : sc.names.lookup x = r) : env.kindOf x = r := by unfold Env.kindOf; rw [hs]; exact h
theorem kNe {env : Env} {sc : Scope} {x : Str} (hs : env.scope = sc) (h : sc.names.lookup x ≠ some .free) : env.kindOf x ≠ some .free := by unfold Env.kindOf; rw [hs]; exact h
theorem F.iadd {a b : Int} : Fn w (k + 1) (.ref 35) [.int a, .int b] cells (fun d c => d = .int (a + b) ∧ c = cells) := by
  refine Fn.def (ds := [.int a, .int b]) ["a", "b"] ["a", "b"] (f := 35) (by exact rfl) (by with_unfolding_all rfl) (binds_plain rfl (binds2 fun u v => by with_unfolding_all rfl)) (by decide) (by decide) (by decide) ?h
  intro env hs hg hb
  refine Exs.cons (Ex.aug (a := .int a) (b := .int b) (d := .int (a + b)) (by walk_at "mine m") (Ev.name (by walk_at "mine m")) Inp.add (by walk_at "mine p") (kNe hs (by decide)) ?_)
  refine Exs.cons (Ex.ret (d := .int (a + b)) (Ev.name (by walk_at "mine m")) ?_)
  exact ⟨[], cells, rfl, rfl, rfl, rfl⟩
theorem F.ixor {a b : Int} : Fn w (k + 1) (.ref 42) [.int a, .int b] cells (fun d c => d = .int (Builtin.bitXor a b) ∧ c = cells) := by
  refine Fn.def (ds := [.int a, .int b]) ["a", "b"] ["a", "b"] (f := 42) (by exact rfl) (by with_unfolding_all rfl) (binds_plain rfl (binds2 fun u v => by with_unfolding_all rfl)) (by decide) (by decide) (by decide) ?h
  intro env hs hg hb
  refine Exs.cons (Ex.aug (a := .int a) (b := .int b) (d := .int (Builtin.bitXor a b)) (by walk_at "mine m") (Ev.name (by walk_at "mine m")) Inp.xor (by walk_at "mine p") (kNe hs (by decide)) ?_)
  refine Exs.cons (Ex.ret (d := .int (Builtin.bitXor a b)) (Ev.name (by walk_at "mine m")) ?_)
  exact ⟨[], cells, rfl, rfl, rfl, rfl⟩

theorem F.countOf {xs : List (Str × Tok)} {y : Str} {u : Tok} (hu : u ≠ 0) (hx : ∀ p ∈ xs, p.2 ≠ 0 ∧ (p.2 = u → p.1 = y)) :
    Fn w (k + 1) (.ref 28) [.lst (keysD xs), .val (.str y u)] cells (fun d c => d = .int (xs.countP fun p => p.1 == y) ∧ c = cells) := by
  refine Fn.def (ds := [.lst (keysD xs), .val (.str y u)]) ["a", "b", "count", "i"] ["a", "b"] (f := 28) (by exact rfl) (by with_unfolding_all rfl) (binds_plain rfl (binds2 fun u v => by with_unfolding_all rfl)) (by decide) (by decide) (by decide) ?h
  intro env hs hg hb
  refine Exs.cons (Ex.assign (d := .int 0) Ev.int (by walk_at "mine p") (kNe hs (by decide)) ?_)
  refine Exs.cons (Ex.for (fun i l c => c = cells ∧ ∃ od, l = ([("a", some (.lst (keysD xs))), ("b", some (.val (.str y u))), ("count", some (.int ((xs.take i).countP fun p => p.1 == y))), ("i", od)] : Loc)) (ItE.list (ds := keysD xs) (Ev.name (by walk_at "mine m"))) ⟨rfl, none, rfl⟩ ?turn ?done)
  case turn =>
    rintro i d l c hd ⟨rfl, od, rfl⟩ hc
    obtain ⟨p, hp, rfl⟩ := keysD_get hd
    obtain ⟨h1, h2⟩ := hx p (List.mem_of_getElem? hp)
    have tk : (xs.take (i + 1)).countP (fun p => p.1 == y) = (xs.take i).countP (fun p => p.1 == y) + (if p.1 == y then 1 else 0) := by
      rw [List.take_add_one, hp, List.countP_append]; simp [List.countP_cons]
    refine ⟨_, As.name (by walk_at "mine p") (kNe hs (by decide)), ?_⟩
    refine Exs.cons (Ex.ite (Tr.isEq (x := p.1) (t := p.2) (y := y) (u := u) (Ev.name (by walk_at "mine m")) (Ev.name (by walk_at "mine m")) (Ev.name (by walk_at "mine m")) (Ev.name (by walk_at "mine m")) h1 hu h2) (fun e => ?_) (fun e => ?_))
    · refine Exs.cons (Ex.aug (a := .int ((xs.take i).countP fun p => p.1 == y)) (b := .int 1) (d := .int ((xs.take i).countP (fun p => p.1 == y) + 1)) (by walk_at "mine m") Ev.int Inp.add (by walk_at "mine p") (kNe hs (by decide)) ?_)
      refine Exs.nil (Exs.nil ⟨rfl, rfl, some (.val (.str p.1 p.2)), ?_⟩)
      rw [tk, e]; simp [putAt]
    · refine Exs.nil (Exs.nil ⟨rfl, rfl, some (.val (.str p.1 p.2)), ?_⟩)
      rw [tk, e]; simp [putAt]
  case done =>
    rintro l c hc ⟨rfl, od, rfl⟩
    have hl : (keysD xs).length = xs.length := by simp [keysD]
    rw [hl, List.take_length]
    refine Exs.cons (Ex.ret (d := .int (xs.countP fun p => p.1 == y)) (Ev.name (by walk_at "mine m")) ?_)
    exact ⟨[], c, rfl, rfl, rfl, rfl⟩
end
end
local macro_rules | `(tactic| walk_at "mine m") => `(tactic| first | exact memAt 0 rfl | exact memAt 1 rfl | exact memAt 2 rfl | exact memAt 3 rfl | exact memAt 4 rfl | exact memAt 5 rfl | exact memAt 6 rfl | exact memAt 7 rfl | exact memAt 8 rfl | exact memAt 9 rfl | exact memAt 10 rfl | exact memAt 11 rfl | exact memAt 12 rfl | exact memAt 13 rfl | exact memAt 14 rfl | exact memAt 15 rfl)
local macro_rules | `(tactic| walk_at "mine p") => `(tactic| first | exact Put.at 0 rfl | exact Put.at 1 rfl | exact Put.at 2 rfl | exact Put.at 3 rfl | exact Put.at 4 rfl | exact Put.at 5 rfl | exact Put.at 6 rfl | exact Put.at 7 rfl | exact Put.at 8 rfl | exact Put.at 9 rfl | exact Put.at 10 rfl | exact Put.at 11 rfl | exact Put.at 12 rfl | exact Put.at 13 rfl | exact Put.at 14 rfl | exact Put.at 15 rfl)
local macro_rules | `(tactic| walk_at "mine n") => `(tactic| exact Ev.name (by walk_at "mine m"))
local macro_rules | `(tactic| walk_at "mine b") => `(tactic| exact Ev.bltn (kOf ‹_› (by decide)) (by decide) (by first | rfl | kernel_rfl) (by first | rfl | kernel_rfl) (by decide))
local macro_rules | `(tactic| walk_at "mine g") => `(tactic| exact Ev.glob (kOf ‹_› (by decide)) (by decide) (by first | rfl | kernel_rfl))
/-! W2 -/
section
set_option maxHeartbeats 1000000
section
variable {w : World} {env : Env} {k : Nat} {loc : Loc} {cells : Cls} {x : Str} {d : D}
/-- a text, with or without its token -/
noncomputable def IsT (x : Str) (d : D) : Prop := d = .str x ∨ ∃ t, d = .val (.str x t)
theorem IsT.rep {g : Heap} {v : Value} (h : IsT x d) (r : Rep g v d) : Rep g v (.str x) := by
  rcases h with rfl | ⟨t, rfl⟩
  · exact r
  · exact r.wk
theorem IsT.ev {e : Expr} (h : IsT x d) (r : Ev w env k loc cells e d) : Ev w env k loc cells e (.str x) := fun A g₀ hA S =>
  (r A g₀ hA S).mono fun _ _ _ _ _ ⟨r, e1, e2⟩ => ⟨h.rep r, e1, e2⟩
theorem F.fspath (h : IsT x d) : Fn w (k + 1) (.ref 156) [d] cells (fun r c => r = d ∧ c = cells) := by
  refine Fn.def (ds := [d]) ["path", "kind"] ["path"] (f := 156) (by exact rfl) (by with_unfolding_all rfl) (binds_plain rfl (binds1 fun u => by with_unfolding_all rfl)) (by decide) (by decide) (by decide) ?h
  intro env hs hg hb
  refine Exs.cons (Ex.assign (d := .val (.type "str")) (Ev.ofC (EvC.callB (ds := [.str x]) (b := .type "type") trivial (by walk_at "mine b") (EvL.cons (h.ev (by walk_at "mine n")) EvL.nil) (BFn.fn B.type_str ⟨rfl, rfl⟩))) (by walk_at "mine p") (kNe hs (by decide)) ?_)
  refine Exs.cons (Ex.ite (b := true) (Tr.val (d := .bool true) (Ev.ofC (EvC.callB (ds := [.val (.type "str"), .tup [.val (.type "str"), .val (.type "bytes")]]) (b := .builtin "issubclass") trivial (by walk_at "mine b")
    (EvL.cons (by walk_at "mine n") (EvL.cons (Ev.tup (EvL.cons (by walk_at "mine b") (EvL.cons (by walk_at "mine b") EvL.nil)) (by decide)) EvL.nil)) (BFn.fn B.issub ⟨rfl, rfl⟩))) Tru.bool) (fun _ => ?_) (fun e => by cases e))
  exact Exs.cons (Ex.ret (d := d) (by walk_at "mine n") ⟨[], cells, rfl, rfl, rfl, rfl⟩)
theorem F.getsep (h : IsT x d) : Fn w (k + 1) (.ref 170) [d] cells (fun r c => r = .str "/" ∧ c = cells) := by
  refine Fn.def (ds := [d]) ["path"] ["path"] (f := 170) (by exact rfl) (by with_unfolding_all rfl) (binds_plain rfl (binds1 fun u => by with_unfolding_all rfl)) (by decide) (by decide) (by decide) ?h
  intro env hs hg hb
  refine Exs.cons (Ex.ite (b := false) (Tr.val (d := .bool false) (Ev.ofC (EvC.callB (ds := [.str x, .val (.type "bytes")]) (b := .builtin "isinstance") trivial (by walk_at "mine b")
    (EvL.cons (h.ev (by walk_at "mine n")) (EvL.cons (by walk_at "mine b") EvL.nil)) (BFn.fn B.isi_bytes ⟨rfl, rfl⟩))) Tru.bool) (fun e => by cases e) (fun _ => ?_))
  exact Exs.cons (Ex.ret (d := .str "/") Ev.str ⟨[], cells, rfl, rfl, rfl, rfl⟩)
/-- a text's head at a slice -/
theorem F.lawpath {ss : List Str} (hok : JoinOk "/" ss = true) (hz : ((("/" : Str)).length) + (Txt.join "/" ss).length ≤ sizeLine) : Fn w (k + 1) (.ref 206) [.lst (ss.map .str)] cells (fun r c => r = .str ("/" ++ Txt.join "/" ss) ∧ c = cells) := by
  refine Fn.def (ds := [.lst (ss.map .str)]) ["steps"] ["steps"] (f := 206) (by exact rfl) (by with_unfolding_all rfl) (binds_plain rfl (binds1 fun u => by with_unfolding_all rfl)) (by decide) (by decide) (by decide) ?h
  intro env hs hg hb
  refine Exs.cons (Ex.ret (d := .str ("/" ++ Txt.join "/" ss)) (Ev.bin (a := .str "/") (b := .str (Txt.join "/" ss)) Ev.str (Ev.meth (d := .str "/") (ds := [.lst (ss.map .str)]) Ev.str Recv.str (EvL.cons (by walk_at "mine n") EvL.nil) (M.join hok) F.plainAttrs_str F.slot_str_join F.type_str_join) (Bin.cat hz)) ⟨[], cells, rfl, rfl, rfl, rfl⟩)
end
end
/-! F25 -/
section
section
variable {w : World} {env : Env} {k N : Nat} {loc : Loc} {cells : Cls}
theorem Ev.withT {e : Expr} {d : D} (h : Ev w env k loc cells e d) {A : Around} {g₀ g : Heap} {s : Shared} {Q : Value → Shared → Prop} (hA : Low k A) (S : Stat w g₀) (hg : Le g₀ g) (Rl : Rel w env g s.heap loc cells)
    (hQ : ∀ v g' h' tk', s.toks ≤ tk' → Le g g' → Rel w env g' h' loc cells → Rep g' v d → Q v { s with heap := h', toks := tk' }) : wpAny (model PR w) A (eval e env) Q No s := by
  refine wpAny_mono (wpAny_toks (h A g₀ hA S g s (fun v s' => ∃ g' h' tk', s' = { s with heap := h', toks := tk' } ∧ Le g g' ∧ Rel w env g' h' loc cells ∧ Rep g' v d) hg Rl
    fun v g' h' tk' l' c' x y ⟨z, e1, e2⟩ => ⟨g', h', tk', rfl, x, e1 ▸ e2 ▸ y, z⟩)) ?_ fun _ _ q => q
  rintro v s' ⟨ht, g', h', tk', rfl, x, y, z⟩
  exact hQ v g' h' tk' ht x y z

/-- `p[:i]`, a new text -/
theorem EvT.upto {e u : Expr} {x out : Str} {n : Int} {p pos : Pos} {R : D → Nat → Cls → Prop} (he : Ev w env k loc cells e (.str x)) (hu : Ev w env k loc cells u (.int n)) (hout : ∀ t b, sliceMade x t Option.none (Option.some (n, b)) Option.none = .str out) (hz : out.length ≤ sizeLine)
    (hR : ∀ t, N ≤ t → R (.val (.str out t)) (t + 1) cells) : EvT w env k N loc cells (.Subscript e (.Slice Option.none (Option.some u) Option.none p) pos) R := by
  intro A g₀ hA S g s Q hg hN Rl hQ
  refine Subscript_ (he.withT hA S hg Rl ?_)
  rintro v g1 h1 tk1 ht1 hg1 R1 rv
  obtain ⟨t, rfl⟩ := Rep.inv rv
  refine wpAny_Slice ?_
  rw [evalPart_none]
  refine wpAny_pure ?_
  refine hu.withT hA (S.le (hg.trans hg1)) (Le.refl _) R1 ?_
  rintro v2 g3 h3 tk3 ht3 hg3 R3 rv2
  (first | obtain ⟨_, rfl⟩ := Rep.inv rv2 | cases rv2)
  rename_i b
  refine wpAny_pure ?_
  have R4 := R3.up (Le.push h3 { cls := .type "slice", data := .fields #[.none, .int n b, .none] })
  refine tail_any (ops := [_, _]) (typeIs_str _ x t) F.slot_str_getitem.lookup ?_ rfl
  refine wpAny_getItem_str_slice (l := Option.none) (u := Option.some (n, b)) (st := Option.none) ⟨_, Heap.get?_push_size _ rfl, rfl, rfl⟩ rfl ?_
  rw [hout]
  exact ⟨hz, hQ _ g3 _ (tk3 + 1) _ _ (hg1.trans hg3) R4 (.val _) (hR tk3 (Nat.le_trans hN (Nat.le_trans ht1 ht3)))⟩

/-- `x.rstrip(y)`, a new text -/
theorem EvT.rstrip {o a : Expr} {apos pos : Pos} {x y out : Str} {R : D → Nat → Cls → Prop} (ho : Ev w env k loc cells o (.str x)) (ha : Ev w env k loc cells a (.str y)) (hs : stripSame y.cps.contains false true x = false) (hout : PySem.stripped y.cps.contains false true x = out) (hz : out.length ≤ sizeLine)
    (hR : ∀ t, N ≤ t → R (.val (.str out t)) (t + 1) cells)
    (hbase : attributeBase o "rstrip" env (eval o env) = eval o env := by rfl)
    (hfew : ((((backTo pos (starEach [a] env)).all fun x => !x.1) && (backToKw pos (keywordEach [] env)).all fun x => x.1.isSome) && decide (([a] : List Expr).length + ([] : List Keyword).length + (if ([] : List Keyword).isEmpty = true then 0 else 1) < 30)) = true := by rfl)
    (hline : (apos.endLine == pos.line) = true := by rfl) (hst : starEach [a] env = [(false, eval a env)] := by rfl) :
    EvT w env k N loc cells (.Call (.Attribute o "rstrip" apos) [a] [] pos) R := by
  intro A g₀ hA S g s Q hg hN Rl hQ
  refine wpAny_Call_method_late hbase hfew hline rfl (ho.withT hA S hg Rl ?_)
  rintro v g1 h1 tk1 ht1 hg1 R1 rv
  obtain ⟨t, rfl⟩ := Rep.inv rv
  have hb' : backTo pos (starEach [a] env) = [(false, eval a env)] := by rw [hst]; rfl
  refine ⟨"str", "str.rstrip", F.plainAttrs_str, F.slot_str_rstrip, F.type_str_rstrip, typeIs_str _ _ _, (fun a e => by cases e), ?_⟩
  rw [hb']
  refine callWith_builtin rfl (evalArgs_plain (Calls.spliced_cons ?_))
  refine ha.withT hA (S.le (hg.trans hg1)) (Le.refl _) R1 ?_
  rintro v2 g2 h2 tk2 ht2 hg2 R2 rv2
  (first | obtain ⟨_, rfl⟩ := Rep.inv rv2 | cases rv2)
  rename_i u
  refine Calls.spliced_nil ?_
  refine call_gives F.slot_str_rstrip (typeIs_str _ x t) F.entry_str_rstrip (F.args_str_rstrip_2 _ _) (gives_str_rstrip_chars x y t u) ?_
  rw [if_neg (by rw [hs]; exact Bool.false_ne_true), hout]
  exact ⟨hz, hQ _ g2 _ (tk2 + 1) _ _ (hg1.trans hg2) R2 (.val _) (hR tk2 (Nat.le_trans hN (Nat.le_trans ht1 ht2)))⟩

/-- a call of a def, one plain argument -/
theorem EvT.call1 {f : Str} {fp pos : Pos} {e : Expr} {a : Addr} {d : D} {R : D → Nat → Cls → Prop} (hf : Ev w env k loc cells (.Name f fp) (.val (.ref a))) (hk : keepIn (KF w) (.ref a) = true) (he : Ev w env k loc cells e d) (hF : FnT w k N (.ref a) [d] cells R)
    (hst : starEach [e] env = (false, eval e env) :: starEach [] env := by rfl) (hplain : ∀ pos, (backTo pos (starEach [] env)).any (·.1) = false := by intro _; rfl) : EvT w env k N loc cells (.Call (.Name f fp) [e] [] pos) R := by
  intro A g₀ hA S g s Q hg hN Rl hQ
  refine wpAny_Call_NameR (hf.withT hA S hg Rl ?_)
  rintro v g1 h1 tk1 ht1 hg1 R1 rv
  (first | obtain ⟨_, rfl⟩ := Rep.inv rv | cases rv)
  refine callWith_K (S.le (hg.trans hg1)).X hk (wpAny_items_cons (he.withT hA (S.le (hg.trans hg1)) (Le.refl _) R1 ?_) hst) hst (hplain pos)
  rintro v2 g2 h2 tk2 ht2 hg2 R2 rv2
  refine wpAny_items_nil ⟨((S.le (hg.trans hg1)).le (hg2.trans R2.c.sub)).X, ?_⟩
  obtain ⟨C, kg⟩ := CRel.of R2
  refine hF A _ _ [v2] Q hA (S.le (((hg.trans hg1).trans hg2).trans kg)) C (.cons (rv2.le kg) .nil) (Nat.le_trans hN (Nat.le_trans ht1 ht2)) fun v g' h' tk' d c' kg' C' hc rv hR => ?_
  obtain ⟨R', k', up⟩ := R2.back kg' C' hc
  exact hQ v _ h' tk' c' d ((hg1.trans hg2).trans k') R' (up v d rv) hR
end
end
/-! W3 -/
section
set_option maxHeartbeats 1000000
section
variable {w : World} {env : Env} {k N : Nat} {loc : Loc} {cells : Cls} {x : Str} {d : D}
/-- what dirname finds, step by step -/
noncomputable def dirI (x : Str) : Int := Txt.rfind x "/" + 1
noncomputable def dirH (x : Str) : Str := ⟨((slicePicked x Option.none (Option.some (dirI x, 0)) Option.none).filterMap (x.cps[·]?)).toArray⟩
noncomputable def dirT (x : Str) : Bool := ((dirH x).length : Int) != 0 && dirH x != (if ((dirH x).length : Int) < 1 then Str.empty else if (((dirH x).length : Int) == 1 || ("/" : Str).length == 0) = true then ("/" : Str) else ⟨(List.replicate (dirH x).length ("/" : Str).cps).foldl (· ++ ·) #[]⟩)
noncomputable def dirS (x : Str) : Str := if dirT x then PySem.stripped ("/" : Str).cps.contains false true (dirH x) else dirH x
/-- the text is one that dirname shortens -/
structure DirOk (x : Str) : Prop where
  short : ((Option.map (·.1) (Option.none : Option (Int × Tok))).getD 1 == 1 && (slicePicked x Option.none (Option.some (dirI x, 0)) Option.none).length == x.length) = false
  len : (dirH x).length ≤ 900
  times : (if ((dirH x).length : Int) < 1 then Str.empty else if (((dirH x).length : Int) == 1 || ("/" : Str).length == 0) = true then ("/" : Str) else ⟨(List.replicate (dirH x).length ("/" : Str).cps).foldl (· ++ ·) #[]⟩ : Str).length ≤ 900
  strip : dirT x = true → stripSame ("/" : Str).cps.contains false true (dirH x) = false
  out : (PySem.stripped ("/" : Str).cps.contains false true (dirH x)).length ≤ 900
theorem B.len_str (hz : (x.length : Int) < 2 ^ 63) : BFn w k (.builtin "len") [.str x] (.int x.length) := by
  intro A g vs _ _ r
  obtain ⟨u, rfl, rx⟩ := one r; (first | obtain ⟨_, rfl⟩ := Rep.inv rx | cases rx)
  exact Pr.val (a := fun t => Value.int x.length (t + 1)) (fun t => t + 1 + 1) (fun s Q _ h => PySem.P.len_str (by (first | lia | omega)) h) fun _ _ _ => .int _ _
theorem F.dirname (h : IsT x d) (ok : DirOk x) : FnT w (k + 2) N (.ref 184) [d] cells (fun r tk c => (∃ t, r = .val (.str (dirS x) t) ∧ N ≤ t ∧ t < tk) ∧ c = cells) := by
  refine FnT.def (ds := [d]) ["p", "sep", "i", "head"] ["p"] (f := 184) (by exact rfl) (by with_unfolding_all rfl) (binds_plain rfl (binds1 fun u => by with_unfolding_all rfl)) (by decide) (by decide) (by decide) ?h
  intro env hs hg hb
  refine ExsT.cons (ExT.lift (Ex.assign (d := d) (Ev.ofC (EvC.call (a := 156) (ds := [d]) (by walk_at "mine g") (by first | rfl | kernel_rfl) (EvL.cons (by walk_at "mine n") EvL.nil) (F.fspath h))) (by walk_at "mine p") (kNe hs (by decide)) (R := fun f l c => f = .next ∧ l = ([("p", some d), ("sep", none), ("i", none), ("head", none)] : Loc) ∧ c = cells) ⟨rfl, rfl, rfl⟩) ?_)
  rintro fl l c tk htk ⟨rfl, rfl, rfl⟩
  refine ExsT.cons (ExT.lift (Ex.assign (d := .str "/") (Ev.ofC (EvC.call (a := 170) (ds := [d]) (by walk_at "mine g") (by first | rfl | kernel_rfl) (EvL.cons (by walk_at "mine n") EvL.nil) (F.getsep h))) (by walk_at "mine p") (kNe hs (by decide)) (R := fun f l c' => f = .next ∧ l = ([("p", some d), ("sep", some (.str "/")), ("i", none), ("head", none)] : Loc) ∧ c' = c) ⟨rfl, rfl, rfl⟩) ?_)
  rintro fl l c tk2 htk2 ⟨rfl, rfl, rfl⟩
  refine ExsT.cons (ExT.lift (Ex.assign (d := .int (dirI x)) (Ev.bin (a := .int (Txt.rfind x "/")) (b := .int 1) (Ev.meth (d := .str x) (ds := [.str "/"]) (h.ev (by walk_at "mine n")) Recv.str (EvL.cons (by walk_at "mine n") EvL.nil) M.rfind F.plainAttrs_str F.slot_str_rfind F.type_str_rfind) Ev.int Bin.add) (by walk_at "mine p") (kNe hs (by decide))
    (R := fun f l c' => f = .next ∧ l = ([("p", some d), ("sep", some (.str "/")), ("i", some (.int (dirI x))), ("head", none)] : Loc) ∧ c' = c) ⟨rfl, rfl, rfl⟩) ?_)
  rintro fl l c tk3 htk3 ⟨rfl, rfl, rfl⟩
  have hk3 : N ≤ tk3 := Nat.le_trans htk (Nat.le_trans htk2 htk3)
  refine ExsT.cons (ExT.assign (EvT.upto (x := x) (n := dirI x) (out := dirH x) (h.ev (by walk_at "mine n")) (by walk_at "mine n") (fun t b => ?_) (by rw [sizeLine_eq]; have := ok.len; (first | lia | omega)) (fun t ht => ⟨[("p", some d), ("sep", some (.str "/")), ("i", some (.int (dirI x))), ("head", some (.val (.str (dirH x) t)))], by walk_at "mine p", fun tk4 ht4 => ?_⟩)) (kNe hs (by decide)))
  · unfold sliceMade
    have e : slicePicked x Option.none (Option.some (dirI x, b)) Option.none = slicePicked x Option.none (Option.some (dirI x, 0)) Option.none := rfl
    rw [if_neg (by rw [e]; have := ok.short; rw [this]; exact Bool.false_ne_true)]
    rfl
  · refine ExsT.cons (ExT.ite (b := dirT x) (Tr.and2 (a := ((dirH x).length : Int) != 0) (Tr.val (Ev.wk (by walk_at "mine n")) (Tru.str (by have := ok.len; (first | lia | omega)))) (fun _ => Tr.cmp (a := .str (dirH x)) (Ev.wk (by walk_at "mine n")) (Ev.bin (a := .str "/") (b := .int (dirH x).length) (by walk_at "mine n") ?len (Bin.times (n := (dirH x).length) (by have := ok.len; show 1 * _ ≤ _; (first | lia | omega)) (by decide) (by have := ok.len; (first | lia | omega)) _ rfl (by rw [sizeLine_eq]; have := ok.times; (first | lia | omega)))) Cmp.nes)) (fun e => ?y) (fun e => ?n))
    case len => exact Ev.ofC (EvC.callB (ds := [.str (dirH x)]) (b := .builtin "len") trivial (by walk_at "mine b") (EvL.cons (Ev.wk (by walk_at "mine n")) EvL.nil) (BFn.fn (B.len_str (by have := ok.len; (first | lia | omega))) ⟨rfl, rfl⟩))
    case y =>
      refine ExsT.cons (ExT.assign (EvT.rstrip (x := dirH x) (y := "/") (Ev.wk (by walk_at "mine n")) (by walk_at "mine n") (ok.strip e) rfl (by rw [sizeLine_eq]; have := ok.out; (first | lia | omega)) (fun t2 ht2 => ⟨_, by walk_at "mine p", fun tk5 ht5 => ?_⟩)) (kNe hs (by decide)))
      refine ExsT.nil fun tk6 ht6 => ?_
      refine ExsT.cons (ExT.lift (Ex.ret (d := .val (.str (dirS x) t2)) (R := fun f l c' => f = .ret (.val (.str (dirS x) t2)) ∧ c' = c) ?_ ⟨rfl, rfl⟩) ?_)
      · unfold dirS; rw [e]; walk_at "mine n"
      · rintro fl l c' tk7 ht7 ⟨rfl, rfl⟩
        exact ⟨[], c', rfl, rfl, ⟨t2, rfl, Nat.le_trans hk3 (Nat.le_trans ht (Nat.le_trans (Nat.le_succ _) (Nat.le_trans ht4 ht2))), Nat.le_trans ht5 (Nat.le_trans ht6 ht7)⟩, rfl⟩
    case n =>
      refine ExsT.nil fun tk6 ht6 => ?_
      refine ExsT.cons (ExT.lift (Ex.ret (d := .val (.str (dirS x) t)) (R := fun f l c' => f = .ret (.val (.str (dirS x) t)) ∧ c' = c) ?_ ⟨rfl, rfl⟩) ?_)
      · unfold dirS; rw [e]; walk_at "mine n"
      · rintro fl l c' tk7 ht7 ⟨rfl, rfl⟩
        exact ⟨[], c', rfl, rfl, ⟨t, rfl, Nat.le_trans hk3 ht, Nat.le_trans ht4 (Nat.le_trans ht6 ht7)⟩, rfl⟩
end
end
/-! W4 -/
section
set_option maxHeartbeats 1000000
section
variable {w : World} {env : Env} {k N : Nat} {loc : Loc} {cells : Cls} {R : Post}
theorem Ex.try {body orelse : List Stmt} {h0 : ExceptHandler} {hs : List ExceptHandler} {pos : Pos} (h : Exs w env k loc cells body (Behind w env k orelse R)) : Ex w env k loc cells (.Try body (h0 :: hs) orelse [] pos) R := by
  intro A g₀ hA S g s Q hg Rl hQ
  refine wpAny_Try_except (wpAny_mono (h A g₀ hA S g s (fun f s' => match f with | .next => wpAny (model PR w) A (execs orelse env) Q No s' | f => Q f s') hg Rl ?_) (fun f s' q => q) (fun _ _ q => q.elim))
  rintro f g1 h1 tk1 l1 c1 hg1 R1 ⟨fl, hf, hB⟩
  cases f with
  | next => cases fl with
    | next => exact hB A g1 hA (S.le (hg.trans hg1)) g1 _ Q (Le.refl _) R1 fun a g' h' tk' l' c' x y z => hQ a g' h' tk' l' c' (hg1.trans x) y z
    | _ => exact hf.elim
  | brk => cases fl with
    | brk => exact hQ _ g1 h1 tk1 _ _ hg1 R1 ⟨_, hf, hB⟩
    | _ => exact hf.elim
  | cont => cases fl with
    | cont => exact hQ _ g1 h1 tk1 _ _ hg1 R1 ⟨_, hf, hB⟩
    | _ => exact hf.elim
  | ret v => cases fl with
    | ret d => exact hQ _ g1 h1 tk1 _ _ hg1 R1 ⟨_, hf, hB⟩
    | _ => exact hf.elim

theorem binds_star {f : FuncData} {a p : Str} {d : D} {ds : List D} (hn : ds.length ≤ sizeLine) (h : ∀ (u : Value) (us : List Value), us.length = ds.length → bindArgs f ⟨u :: us, []⟩ = (newTuple us >>= fun t => pure [(a, u), (p, t)])) :
    ∀ A g vs, Stat w g → RepAll g vs (d :: ds) → Pr w A g (bindArgs f ⟨vs, []⟩) (fun g' b => b.map (·.1) = [a, p] ∧ RepAll g' (b.map (·.2)) [d, .tup ds]) := by
  intro A g vs _ r
  obtain ⟨_, _, rfl, h1, r⟩ := RepAll.inv r
  · rw [h _ _ r.length]
    refine Pr.bind (pr_newTuple r hn) fun g' t hg' rt => Pr.pure fun g'' hg'' => ⟨rfl, .cons (h1.le (hg'.trans hg'')) (.cons (rt.le hg'') .nil)⟩
noncomputable def joinStep (path b : Str) : Str := if (Txt.startswith b "/" || !((path.length : Int) != 0)) = true then b else if Txt.endswith path "/" = true then path ++ b else path ++ (("/" : Str) ++ b)
noncomputable def joinS (a : Str) (ps : List Str) : Str := ps.foldl joinStep a
structure JoinFine (a : Str) (ps : List Str) : Prop where
  n : ps.length = 2 ∨ ps.length = 3 ∨ ps.length = 4
  path : ∀ i, i ≤ ps.length → (joinS a (ps.take i)).length ≤ 400
  part : ∀ p ∈ ps, p.length ≤ 400
theorem F.join {a : Str} {ps : List Str} (ok : JoinFine a ps) : Fn w (k + 2) (.ref 177) (.str a :: ps.map .str) cells (fun r c => r = .str (joinS a ps) ∧ c = cells) := by
  have hn : (ps.map D.str).length ≤ sizeLine := by rw [List.length_map, sizeLine_eq]; have := ok.n; (first | lia | omega)
  refine Fn.def (ds := [.str a, .tup (ps.map .str)]) ["a", "p", "sep", "path", "b"] ["a", "p"] (f := 177) (by exact rfl) (by with_unfolding_all rfl) (binds_star hn fun u us hu => ?b) (by decide) (by decide) (by decide) ?h
  case b =>
    rw [List.length_map] at hu
    rcases ok.n with e | e | e <;> rw [e] at hu
    · obtain ⟨x, r, rfl, h1⟩ := cons1 hu
      obtain ⟨y, r, rfl, h2⟩ := cons1 h1
      rw [cons0 h2]
      with_unfolding_all rfl
    · obtain ⟨x, r, rfl, h1⟩ := cons1 hu
      obtain ⟨y, r, rfl, h2⟩ := cons1 h1
      obtain ⟨z, r, rfl, h3⟩ := cons1 h2
      rw [cons0 h3]
      with_unfolding_all rfl
    · obtain ⟨x, r, rfl, h1⟩ := cons1 hu
      obtain ⟨y, r, rfl, h2⟩ := cons1 h1
      obtain ⟨z, r, rfl, h3⟩ := cons1 h2
      obtain ⟨t, r, rfl, h4⟩ := cons1 h3
      rw [cons0 h4]
      with_unfolding_all rfl
  intro env hs hg hb
  have hI : ∀ {x : Str}, IsT x (.str x) := fun {x} => .inl rfl
  refine Exs.cons (Ex.assign (d := .str a) (Ev.ofC (EvC.call (a := 156) (ds := [.str a]) (by walk_at "mine g") (by first | rfl | kernel_rfl) (EvL.cons (by walk_at "mine n") EvL.nil) (F.fspath hI))) (by walk_at "mine p") (kNe hs (by decide)) ?_)
  refine Exs.cons (Ex.assign (d := .str "/") (Ev.ofC (EvC.call (a := 170) (ds := [.str a]) (by walk_at "mine g") (by first | rfl | kernel_rfl) (EvL.cons (by walk_at "mine n") EvL.nil) (F.getsep hI))) (by walk_at "mine p") (kNe hs (by decide)) ?_)
  refine Exs.cons (Ex.assign (d := .str a) (by walk_at "mine n") (by walk_at "mine p") (kNe hs (by decide)) ?_)
  refine Exs.cons (Ex.try ?_)
  refine Exs.cons (Ex.for (fun i l c => c = cells ∧ ∃ od, l = ([("a", some (.str a)), ("p", some (.tup (ps.map .str))), ("sep", some (.str "/")), ("path", some (.str (joinS a (ps.take i)))), ("b", od)] : Loc)) (ItE.tuple (ds := ps.map .str) (by walk_at "mine n")) ⟨rfl, none, rfl⟩ ?turn ?done)
  case turn =>
    rintro i d l c hd ⟨rfl, od, rfl⟩ hc
    rw [List.getElem?_map] at hd
    obtain ⟨b, hb1, rfl⟩ := Option.map_eq_some_iff.mp hd
    have hi : i < ps.length := (List.getElem?_eq_some_iff.mp hb1).1
    have hpl := ok.path i (Nat.le_of_lt hi)
    have hbl := ok.part b (List.mem_of_getElem? hb1)
    have step : joinS a (ps.take (i + 1)) = joinStep (joinS a (ps.take i)) b := by
      unfold joinS; rw [List.take_add_one, hb1, List.foldl_append]; rfl
    refine ⟨_, As.name (by walk_at "mine p") (kNe hs (by decide)), ?_⟩
    refine Exs.cons (Ex.assign (d := .str b) (Ev.ofC (EvC.call (a := 156) (ds := [.str b]) (by walk_at "mine g") (by first | rfl | kernel_rfl) (EvL.cons (by walk_at "mine n") EvL.nil) (F.fspath hI))) (by walk_at "mine p") (kNe hs (by decide)) ?_)
    refine Exs.cons (Ex.ite (Tr.or2 (a := Txt.startswith b "/") (Tr.val (d := .bool (Txt.startswith b "/")) (Ev.meth (d := .str b) (ds := [.str "/"]) (by walk_at "mine n") Recv.str (EvL.cons (by walk_at "mine n") EvL.nil) M.startswith F.plainAttrs_str F.slot_str_startswith F.type_str_startswith) Tru.bool)
      (fun _ => Tr.not (Tr.val (by walk_at "mine n") (Tru.str (by (first | lia | omega)))))) (fun e => ?y) (fun e => ?n))
    case y =>
      refine Exs.cons (Ex.assign (d := .str b) (by walk_at "mine n") (by walk_at "mine p") (kNe hs (by decide)) ?_)
      refine Exs.nil (Exs.nil ⟨rfl, rfl, some (.str b), ?_⟩)
      rw [step]; unfold joinStep; rw [if_pos e]; all_goals rfl
    case n =>
      refine Exs.cons (Ex.ite (Tr.val (d := .bool (Txt.endswith (joinS a (ps.take i)) "/")) (Ev.meth (d := .str (joinS a (ps.take i))) (ds := [.str "/"]) (by walk_at "mine n") Recv.str (EvL.cons (by walk_at "mine n") EvL.nil) M.endswith F.plainAttrs_str F.slot_str_endswith F.type_str_endswith) Tru.bool) (fun e2 => ?y2) (fun e2 => ?n2))
      case y2 =>
        refine Exs.cons (Ex.aug (a := .str (joinS a (ps.take i))) (b := .str b) (d := .str (joinS a (ps.take i) ++ b)) (by walk_at "mine m") (by walk_at "mine n") (Inp.cat (by rw [sizeLine_eq]; (first | lia | omega))) (by walk_at "mine p") (kNe hs (by decide)) ?_)
        refine Exs.nil (Exs.nil (Exs.nil ⟨rfl, rfl, some (.str b), ?_⟩))
        rw [step]; unfold joinStep; rw [if_neg (by rw [e]; exact Bool.false_ne_true), if_pos e2]; all_goals rfl
      case n2 =>
        refine Exs.cons (Ex.aug (a := .str (joinS a (ps.take i))) (b := .str (("/" : Str) ++ b)) (d := .str (joinS a (ps.take i) ++ (("/" : Str) ++ b))) (by walk_at "mine m") (Ev.bin (a := .str "/") (b := .str b) (by walk_at "mine n") (by walk_at "mine n") (Bin.cat (by rw [sizeLine_eq]; show 1 + _ ≤ _; (first | lia | omega)))) (Inp.cat ?sz) (by walk_at "mine p") (kNe hs (by decide)) ?_)
        case sz =>
          have e3 : ((("/" : Str) ++ b).length) = 1 + b.length := by
            show (("/" : Str).cps ++ b.cps).size = _
            rw [Array.size_append]; rfl
          rw [sizeLine_eq, e3]; (first | lia | omega)
        refine Exs.nil (Exs.nil (Exs.nil ⟨rfl, rfl, some (.str b), ?_⟩))
        rw [step]; unfold joinStep; rw [if_neg (by rw [e]; exact Bool.false_ne_true), if_neg (by rw [e2]; exact Bool.false_ne_true)]; all_goals rfl
  case done =>
    rintro l c hc ⟨rfl, od, rfl⟩
    rw [List.length_map, List.take_length]
    refine Exs.nil (Exs.nil ?_)
    refine Exs.cons (Ex.ret (d := .str (joinS a ps)) (by walk_at "mine n") ?_)
    exact ⟨[], c, rfl, rfl, rfl, rfl⟩
end
end
/-! W5 -/
section
set_option maxHeartbeats 1000000
/-! the heap -/
noncomputable def sd (lt : D → D → Bool) (new : D) (start : Nat) : Nat → Nat → List D → List D
  | 0, pos, ds => ds.set pos new
  | f + 1, pos, ds => if start < pos then (match ds[(pos - 1) / 2]? with
    | some par => if lt new par then sd lt new start f ((pos - 1) / 2) (ds.set pos par) else ds.set pos new
    | none => ds.set pos new) else ds.set pos new
noncomputable def siftdown (lt : D → D → Bool) (ds : List D) (start pos : Nat) : List D := match ds[pos]? with
  | some new => sd lt new start pos pos ds
  | none => ds
/-- more fuel than places is no matter -/
theorem sd_fuel {lt : D → D → Bool} {new : D} {start : Nat} : ∀ (f f' pos : Nat) (ds : List D), pos ≤ f → pos ≤ f' → sd lt new start f pos ds = sd lt new start f' pos ds
  | 0, 0, pos, ds, _, _ => rfl
  | 0, f' + 1, pos, ds, h, _ => by
    obtain rfl : pos = 0 := by (first | lia | omega)
    rw [sd, sd, if_neg (by (first | lia | omega))]
  | f + 1, 0, pos, ds, _, h => by
    obtain rfl : pos = 0 := by (first | lia | omega)
    rw [sd, sd, if_neg (by (first | lia | omega))]
  | f + 1, f' + 1, pos, ds, h, h' => by
    rw [sd, sd]
    by_cases q : start < pos
    · rw [if_pos q, if_pos q]
      cases ds[(pos - 1) / 2]? with
      | none => rfl
      | some par =>
        dsimp only
        rw [sd_fuel f f' _ _ (by (first | lia | omega)) (by (first | lia | omega))]
    · rw [if_neg q, if_neg q]
theorem half (pos : Nat) (h : 0 < pos) : (((pos : Int) - 1).fdiv (2 ^ (1 : Int).toNat)) = (((pos - 1) / 2 : Nat) : Int) := by
  have e : ((pos : Int) - 1) = ((pos - 1 : Nat) : Int) := by (first | lia | omega)
  rw [e]
  show Int.fdiv ((pos - 1 : Nat) : Int) 2 = _
  rw [Int.fdiv_eq_ediv_of_nonneg _ (by decide)]
  rfl

structure Ord (w : World) (k : Nat) (P : D → Prop) (lt : D → D → Bool) : Prop where
  cmp : ∀ x y, P x → P y → Cmp w k .Lt x y (lt x y)
section
variable {w : World} {env : Env} {k N : Nat} {loc : Loc} {cells : Cls} {P : D → Prop} {lt : D → D → Bool}
theorem memMid {pre post : Cls} {p : Addr × C} : p ∈ pre ++ p :: post := List.mem_append_right _ (.head _)
theorem F.siftdown {a : Addr} {ds : List D} {pre post : Cls} {start pos : Nat} (O : Ord w k P lt) (hP : ∀ d ∈ ds, P d) (hpos : pos < ds.length) (hlen : ds.length < 1000000) :
    Fn w (k + 1) (.ref 70) [.val (.ref a), .int start, .int pos] (pre ++ (a, .lst ds) :: post) (fun r c => r = .none ∧ c = pre ++ (a, .lst (Mine.siftdown lt ds start pos)) :: post) := by
  refine Fn.def (ds := [.val (.ref a), .int start, .int pos]) ["heap", "startpos", "pos", "newitem", "parentpos", "parent"] ["heap", "startpos", "pos"] (f := 70) (by exact rfl) (by with_unfolding_all rfl) (binds_plain rfl (binds3 fun u v x => by with_unfolding_all rfl)) (by decide) (by decide) (by decide) ?h
  intro env hs hg hb
  have hnew : ds[pos]? = some ds[pos] := by simp [hpos]
  have hPn : P ds[pos] := hP _ (List.getElem_mem hpos)
  have hres : Mine.siftdown lt ds start pos = sd lt ds[pos] start pos pos ds := by unfold Mine.siftdown; rw [hnew]
  refine Exs.cons (Ex.assign (d := ds[pos]) (Ev.item (n := (pos : Int)) (ds := ds) (by walk_at "mine n") (by walk_at "mine n") (.cell memMid) (by (first | lia | omega)) (by (first | lia | omega)) (by simpa using hnew)) (by walk_at "mine p") (kNe hs (by decide)) ?_)
  refine Exs.cons (Ex.mono (Ex.while (R := fun f l c => f = .next ∧ ∃ (q : Nat) (fs : List D) (o1 o2 : Option D), q < fs.length ∧ fs.length = ds.length ∧ fs.set q ds[pos] = Mine.siftdown lt ds start pos ∧ l = ([("heap", some (.val (.ref a))), ("startpos", some (.int start)), ("pos", some (.int q)), ("newitem", some ds[pos]), ("parentpos", o1), ("parent", o2)] : Loc) ∧ c = pre ++ (a, .lst fs) :: post) (fun n l c => ∃ (p : Nat) (es : List D) (o1 o2 : Option D), n = p ∧ p < es.length ∧ es.length = ds.length ∧ (∀ d ∈ es, P d) ∧ sd lt ds[pos] start p p es = Mine.siftdown lt ds start pos ∧
    l = ([("heap", some (.val (.ref a))), ("startpos", some (.int start)), ("pos", some (.int p)), ("newitem", some ds[pos]), ("parentpos", o1), ("parent", o2)] : Loc) ∧ c = pre ++ (a, .lst es) :: post) pos ⟨pos, ds, none, none, rfl, hpos, rfl, hP, hres.symm, rfl, rfl⟩ ?turn) ?after)
  case after =>
    rintro f l c ⟨rfl, q, fs, o1, o2, hq, hfl, he, rfl, rfl⟩
    refine Exs.cons (Ex.setItem (ds := fs) (j := (q : Int)) (d := ds[pos]) rfl (by walk_at "mine n") (by walk_at "mine n") (by walk_at "mine n") (by (first | lia | omega)) (by (first | lia | omega)) (by (first | lia | omega)) ?_)
    refine Exs.nil ⟨[], _, rfl, by simp, rfl, ?_⟩
    rw [← he]; rfl
  rintro p l c ⟨_, es, o1, o2, rfl, hp, hl, hPe, hsd, rfl, rfl⟩
  refine ⟨_, Tr.cmp (by walk_at "mine n") (by walk_at "mine n") Cmp.gt, fun e => ?_, fun e => ?_⟩
  · have hsp : start < p := by simpa using e
    have hpar : es[(p - 1) / 2]? = some es[(p - 1) / 2] := by
      have : (p - 1) / 2 < es.length := by (first | lia | omega)
      simp [this]
    have hPp : P es[(p - 1) / 2] := hPe _ (List.getElem_mem _)
    refine Exs.cons (Ex.assign (d := .int (((p - 1) / 2 : Nat) : Int)) (by rw [← half p (by (first | lia | omega))]; exact Ev.bin (a := .int ((p : Int) - 1)) (b := .int 1) (Ev.bin (a := .int p) (b := .int 1) (by walk_at "mine n") Ev.int Bin.sub) Ev.int (Bin.shr (by decide))) (by walk_at "mine p") (kNe hs (by decide)) ?_)
    refine Exs.cons (Ex.assign (d := es[(p - 1) / 2]) (Ev.item (n := (((p - 1) / 2 : Nat) : Int)) (ds := es) (by walk_at "mine n") (by walk_at "mine n") (.cell memMid) (by (first | lia | omega)) (by (first | lia | omega)) (by rw [Int.toNat_natCast]; exact hpar)) (by walk_at "mine p") (kNe hs (by decide)) ?_)
    refine Exs.cons (Ex.ite (Tr.cmp (by walk_at "mine n") (by walk_at "mine n") (O.cmp _ _ hPn hPp)) (fun e2 => ?_) (fun e2 => ?_))
    · refine Exs.cons (Ex.setItem (ds := es) (j := (p : Int)) (d := es[(p - 1) / 2]) rfl (by walk_at "mine n") (by walk_at "mine n") (by walk_at "mine n") (by (first | lia | omega)) (by (first | lia | omega)) (by (first | lia | omega)) ?_)
      refine Exs.cons (Ex.assign (d := .int (((p - 1) / 2 : Nat) : Int)) (by walk_at "mine n") (by walk_at "mine p") (kNe hs (by decide)) ?_)
      refine Exs.cons (Ex.cont ⟨(p - 1) / 2, by (first | lia | omega), (p - 1) / 2, es.set p es[(p - 1) / 2], _, _, rfl, by simp; (first | lia | omega), by simp [hl], fun d hd => ?_, ?_, rfl, rfl⟩)
      · rcases List.mem_or_eq_of_mem_set hd with h | rfl
        · exact hPe d h
        · exact hPp
      · rw [← hsd]
        obtain ⟨q, rfl⟩ : ∃ q, p = q + 1 := ⟨p - 1, by (first | lia | omega)⟩
        conv => rhs; rw [sd, if_pos hsp, hpar]
        dsimp only
        rw [if_pos e2]
        exact sd_fuel _ _ _ _ (Nat.le_refl _) (by (first | lia | omega))
    · refine Exs.nil (Exs.cons (Ex.brk ⟨rfl, p, es, _, _, hp, hl, ?_, rfl, rfl⟩))
      rw [← hsd]
      obtain ⟨q, rfl⟩ : ∃ q, p = q + 1 := ⟨p - 1, by (first | lia | omega)⟩
      conv => rhs; rw [sd, if_pos hsp, hpar]
      dsimp only
      rw [if_neg (by rw [e2]; exact Bool.false_ne_true)]
  · have hsp : ¬ start < p := by simpa using e
    refine ⟨rfl, p, es, _, _, hp, hl, ?_, rfl, rfl⟩
    rw [← hsd]
    cases p with
    | zero => rfl
    | succ q => rw [sd, if_neg hsp]
end
end
/-! W6 -/
section
set_option maxHeartbeats 1000000
noncomputable def childOf (lt : D → D → Bool) (ds : List D) (pos : Nat) : Nat :=
  if 2 * pos + 1 + 1 < ds.length then (match ds[2 * pos + 1]?, ds[2 * pos + 1 + 1]? with
    | some x, some y => if lt x y then 2 * pos + 1 else 2 * pos + 1 + 1
    | _, _ => 2 * pos + 1) else 2 * pos + 1
noncomputable def su (lt : D → D → Bool) : Nat → Nat → List D → Nat × List D
  | 0, pos, ds => (pos, ds)
  | f + 1, pos, ds => if 2 * pos + 1 < ds.length then (match ds[childOf lt ds pos]? with
    | some x => su lt f (childOf lt ds pos) (ds.set pos x)
    | none => (pos, ds)) else (pos, ds)
theorem childOf_cases (lt : D → D → Bool) (ds : List D) (pos : Nat) (h : 2 * pos + 1 < ds.length) : pos < childOf lt ds pos ∧ childOf lt ds pos < ds.length := by
  unfold childOf
  split
  · split
    · split <;> (first | lia | omega)
    · (first | lia | omega)
  · (first | lia | omega)
theorem su_fuel {lt : D → D → Bool} : ∀ (f f' pos : Nat) (ds : List D), ds.length - pos ≤ f → ds.length - pos ≤ f' → su lt f pos ds = su lt f' pos ds
  | 0, 0, pos, ds, _, _ => rfl
  | 0, f' + 1, pos, ds, h, _ => by rw [su, su, if_neg (by (first | lia | omega))]
  | f + 1, 0, pos, ds, _, h => by rw [su, su, if_neg (by (first | lia | omega))]
  | f + 1, f' + 1, pos, ds, h, h' => by
    rw [su, su]
    by_cases q : 2 * pos + 1 < ds.length
    · rw [if_pos q, if_pos q]
      have c := childOf_cases lt ds pos q
      have e : ds[childOf lt ds pos]? = some ds[childOf lt ds pos] := by simp [c.2]
      rw [e]
      exact su_fuel f f' _ _ (by rw [List.length_set]; (first | lia | omega)) (by rw [List.length_set]; (first | lia | omega))
    · rw [if_neg q, if_neg q]
noncomputable def siftup (lt : D → D → Bool) (ds : List D) (pos : Nat) : List D := match ds[pos]? with
  | some new => siftdown lt ((su lt (ds.length - pos) pos ds).2.set (su lt (ds.length - pos) pos ds).1 new) pos (su lt (ds.length - pos) pos ds).1
  | none => ds
section
variable {w : World} {env : Env} {k N : Nat} {loc : Loc} {cells : Cls} {P : D → Prop} {lt : D → D → Bool}
theorem Fn.mono {f : Value} {args : List D} {R R' : D → Cls → Prop} (h : Fn w k f args cells R) (hR : ∀ d c, R d c → R' d c) : Fn w k f args cells R' :=
  fun A g s vs Q hA S C r hQ => h A g s vs Q hA S C r fun v g' h' tk' d c' a b e x y => hQ v g' h' tk' d c' a b e x (hR d c' y)
theorem F.siftup {a : Addr} {ds : List D} {pre post : Cls} {pos : Nat} (O : Ord w (k + 1) P lt) (O' : Ord w k P lt) (hP : ∀ d ∈ ds, P d) (hpos : pos < ds.length) (hlen : ds.length < 1000000) :
    Fn w (k + 2) (.ref 77) [.val (.ref a), .int pos] (pre ++ (a, .lst ds) :: post) (fun r c => r = .none ∧ c = pre ++ (a, .lst (Mine.siftup lt ds pos)) :: post) := by
  refine Fn.def (ds := [.val (.ref a), .int pos]) ["heap", "pos", "endpos", "startpos", "newitem", "childpos", "rightpos"] ["heap", "pos"] (f := 77) (by exact rfl) (by with_unfolding_all rfl) (binds_plain rfl (binds2 fun u v => by with_unfolding_all rfl)) (by decide) (by decide) (by decide) ?h
  intro env hs hg hb
  have hnew : ds[pos]? = some ds[pos] := by simp [hpos]
  have hPn : P ds[pos] := hP _ (List.getElem_mem hpos)
  have dbl : ∀ p : Nat, p < 1000000 → ∀ {loc : Loc} {cells : Cls} {e : Expr} {kd1 kd2 : Nat} {p1 p2 p3 p4 : Pos}, Ev w env (k + 1) loc cells e (.int p) → Ev w env (k + 1) loc cells (.BinOp (.BinOp (.Constant (.int 2) kd1 p1) .Mult e p2) .Add (.Constant (.int 1) kd2 p3) p4) (.int ((2 * p + 1 : Nat) : Int)) := fun p hp loc cells e kd1 kd2 p1 p2 p3 p4 he => by
    have : (((2 * p + 1 : Nat) : Int)) = 2 * (p : Int) + 1 := by push_cast; rfl
    rw [this]
    exact Ev.bin (a := .int (2 * (p : Int))) (b := .int 1) (Ev.bin (a := .int 2) (b := .int p) Ev.int he (Bin.mul (.of_left (by decide)))) Ev.int Bin.add
  refine Exs.cons (Ex.assign (d := .int ds.length) (Ev.len (ds := ds) (by walk_at "mine b") (by walk_at "mine n") (.cell memMid) (by (first | lia | omega))) (by walk_at "mine p") (kNe hs (by decide)) ?_)
  refine Exs.cons (Ex.assign (d := .int pos) (by walk_at "mine n") (by walk_at "mine p") (kNe hs (by decide)) ?_)
  refine Exs.cons (Ex.assign (d := ds[pos]) (Ev.item (n := (pos : Int)) (ds := ds) (by walk_at "mine n") (by walk_at "mine n") (.cell memMid) (by (first | lia | omega)) (by (first | lia | omega)) (by rw [Int.toNat_natCast]; exact hnew)) (by walk_at "mine p") (kNe hs (by decide)) ?_)
  refine Exs.cons (Ex.assign (d := .int ((2 * pos + 1 : Nat) : Int)) (dbl pos (by (first | lia | omega)) (by walk_at "mine n")) (by walk_at "mine p") (kNe hs (by decide)) ?_)
  refine Exs.cons (Ex.mono (Ex.while (R := fun f l c => f = .next ∧ ∃ (q : Nat) (fs : List D) (o1 o2 : Option D), q < fs.length ∧ fs.length = ds.length ∧ (∀ d ∈ fs, P d) ∧ su lt (ds.length - pos) pos ds = (q, fs) ∧ l = ([("heap", some (.val (.ref a))), ("pos", some (.int q)), ("endpos", some (.int ds.length)), ("startpos", some (.int pos)), ("newitem", some ds[pos]), ("childpos", o1), ("rightpos", o2)] : Loc) ∧ c = pre ++ (a, .lst fs) :: post)
    (fun n l c => ∃ (p : Nat) (es : List D) (o2 : Option D), n = ds.length - p ∧ p < es.length ∧ es.length = ds.length ∧ (∀ d ∈ es, P d) ∧ su lt (ds.length - p) p es = su lt (ds.length - pos) pos ds ∧
      l = ([("heap", some (.val (.ref a))), ("pos", some (.int p)), ("endpos", some (.int ds.length)), ("startpos", some (.int pos)), ("newitem", some ds[pos]), ("childpos", some (.int ((2 * p + 1 : Nat) : Int))), ("rightpos", o2)] : Loc) ∧ c = pre ++ (a, .lst es) :: post) (ds.length - pos) ⟨pos, ds, none, rfl, hpos, rfl, hP, rfl, rfl, rfl⟩ ?turn) ?after)
  case after =>
    rintro f l c ⟨rfl, q, fs, o1, o2, hq, hfl, hPf, he, rfl, rfl⟩
    refine Exs.cons (Ex.setItem (ds := fs) (j := (q : Int)) (d := ds[pos]) rfl (by walk_at "mine n") (by walk_at "mine n") (by walk_at "mine n") (by (first | lia | omega)) (by (first | lia | omega)) (by (first | lia | omega)) ?_)
    rw [Int.toNat_natCast]
    refine Exs.cons (Ex.exprC (EvC.call (a := 70) (ds := [.val (.ref a), .int pos, .int q]) (by walk_at "mine g") (by first | rfl | kernel_rfl) (EvL.cons (by walk_at "mine n") (EvL.cons (by walk_at "mine n") (EvL.cons (by walk_at "mine n") EvL.nil)))
      (Fn.mono (F.siftdown (pre := pre) (post := post) (ds := fs.set q ds[pos]) (start := pos) (pos := q) O' (fun d hd => ?_) (by simpa using hq) (by simp; (first | lia | omega))) ?_)) (by unfold interactive; rw [hs]; rfl))
    · rcases List.mem_or_eq_of_mem_set hd with h | rfl
      · exact hPf d h
      · exact hPn
    · rintro d c ⟨rfl, rfl⟩
      refine ⟨rfl, Exs.nil ⟨[], _, rfl, by simp, rfl, ?_⟩⟩
      unfold Mine.siftup
      rw [hnew, he]
      rfl
  case turn =>
    rintro n l c ⟨p, es, o2, rfl, hp, hl, hPe, hsu, rfl, rfl⟩
    refine ⟨_, Tr.cmp (by walk_at "mine n") (by walk_at "mine n") Cmp.lt, fun e => ?_, fun e => ?_⟩
    · have hc1 : 2 * p + 1 < ds.length := by have := of_decide_eq_true e; (first | lia | omega)
      have hc := childOf_cases lt es p (by (first | lia | omega))
      have hx : es[childOf lt es p]? = some es[childOf lt es p] := by simp [hc.2]
      have cst : (((2 * p + 1 : Nat) : Int) + 1) = ((2 * p + 1 + 1 : Nat) : Int) := by push_cast; rfl
      refine Exs.cons (Ex.assign (d := .int ((2 * p + 1 + 1 : Nat) : Int)) (by rw [← cst]; exact Ev.bin (a := .int ((2 * p + 1 : Nat) : Int)) (b := .int 1) (by walk_at "mine n") Ev.int Bin.add) (by walk_at "mine p") (kNe hs (by decide)) ?_)
      refine Exs.cons (Ex.mono (R := fun f l c => f = .next ∧ l = ([("heap", some (.val (.ref a))), ("pos", some (.int p)), ("endpos", some (.int ds.length)), ("startpos", some (.int pos)), ("newitem", some ds[pos]), ("childpos", some (.int (childOf lt es p : Nat))), ("rightpos", some (.int ((2 * p + 1 + 1 : Nat) : Int)))] : Loc) ∧ c = pre ++ (a, .lst es) :: post) ?_ ?_)
      · by_cases h2 : 2 * p + 1 + 1 < es.length
        · have x1 : es[2 * p + 1]? = some es[2 * p + 1] := by simp
          have x2 : es[2 * p + 1 + 1]? = some es[2 * p + 1 + 1] := by simp [h2]
          have dc : decide (((2 * p + 1 + 1 : Nat) : Int) < ((ds.length : Nat) : Int)) = true := decide_eq_true (by (first | lia | omega))
          refine Ex.ite (Tr.and2 (a := true) (by rw [← dc]; exact Tr.cmp (by walk_at "mine n") (by walk_at "mine n") Cmp.lt) (fun _ => Tr.not (Tr.cmp (Ev.item (n := ((2 * p + 1 : Nat) : Int)) (ds := es) (by walk_at "mine n") (by walk_at "mine n") (.cell memMid) (by (first | lia | omega)) (by (first | lia | omega)) (by rw [Int.toNat_natCast]; exact x1))
            (Ev.item (n := ((2 * p + 1 + 1 : Nat) : Int)) (ds := es) (by walk_at "mine n") (by walk_at "mine n") (.cell memMid) (by (first | lia | omega)) (by (first | lia | omega)) (by rw [Int.toNat_natCast]; exact x2)) (O.cmp _ _ (hPe _ (List.getElem_mem _)) (hPe _ (List.getElem_mem _)))))) (fun e3 => ?_) (fun e3 => ?_)
          · have e4 : childOf lt es p = 2 * p + 1 + 1 := by unfold childOf; rw [if_pos h2, x1, x2]; dsimp only; rw [if_neg (by simpa using e3)]
            refine Exs.cons (Ex.assign (d := .int ((2 * p + 1 + 1 : Nat) : Int)) (by walk_at "mine n") (by walk_at "mine p") (kNe hs (by decide)) ?_)
            exact Exs.nil ⟨rfl, by rw [e4]; all_goals rfl, rfl⟩
          · have e4 : childOf lt es p = 2 * p + 1 := by unfold childOf; rw [if_pos h2, x1, x2]; dsimp only; rw [if_pos (by simpa using e3)]
            exact Exs.nil ⟨rfl, by rw [e4]; all_goals rfl, rfl⟩
        · have dc : decide (((2 * p + 1 + 1 : Nat) : Int) < ((ds.length : Nat) : Int)) = false := decide_eq_false (by (first | lia | omega))
          have e4 : childOf lt es p = 2 * p + 1 := by unfold childOf; rw [if_neg h2]
          refine Ex.ite (Tr.and2 (a := false) (b := true) (by rw [← dc]; exact Tr.cmp (by walk_at "mine n") (by walk_at "mine n") Cmp.lt) (fun e => by cases e)) (fun e3 => by cases e3) (fun e3 => ?_)
          exact Exs.nil ⟨rfl, by rw [e4]; all_goals rfl, rfl⟩
      rintro f l c ⟨rfl, rfl, rfl⟩
      refine Exs.cons (Ex.setItem (ds := es) (j := (p : Int)) (d := es[childOf lt es p]) rfl (Ev.item (n := (childOf lt es p : Nat)) (ds := es) (by walk_at "mine n") (by walk_at "mine n") (.cell memMid) (by (first | lia | omega)) (by (first | lia | omega)) (by rw [Int.toNat_natCast]; exact hx)) (by walk_at "mine n") (by walk_at "mine n") (by (first | lia | omega)) (by (first | lia | omega)) (by (first | lia | omega)) ?_)
      refine Exs.cons (Ex.assign (d := .int (childOf lt es p : Nat)) (by walk_at "mine n") (by walk_at "mine p") (kNe hs (by decide)) ?_)
      refine Exs.cons (Ex.assign (d := .int ((2 * childOf lt es p + 1 : Nat) : Int)) (dbl _ (by (first | lia | omega)) (by walk_at "mine n")) (by walk_at "mine p") (kNe hs (by decide)) ?_)
      refine Exs.nil ⟨ds.length - childOf lt es p, by (first | lia | omega), childOf lt es p, es.set p es[childOf lt es p], _, rfl, by simp; (first | lia | omega), by simp [hl], fun d hd => ?_, ?_, rfl, rfl⟩
      · rcases List.mem_or_eq_of_mem_set hd with h | rfl
        · exact hPe d h
        · exact hPe _ (List.getElem_mem _)
      · rw [← hsu]
        obtain ⟨m, hm⟩ : ∃ m, ds.length - p = m + 1 := ⟨ds.length - p - 1, by (first | lia | omega)⟩
        conv => rhs; rw [hm, su, if_pos (by (first | lia | omega) : 2 * p + 1 < es.length), hx]
        dsimp only
        exact su_fuel _ _ _ _ (by rw [List.length_set]; (first | lia | omega)) (by rw [List.length_set]; (first | lia | omega))
    · have hc1 : ¬ 2 * p + 1 < es.length := by have := of_decide_eq_false e; (first | lia | omega)
      refine ⟨rfl, p, es, _, _, hp, hl, hPe, ?_, rfl, rfl⟩
      rw [← hsu]
      cases hq : ds.length - p with
      | zero => (first | lia | omega)
      | succ m => rw [su, if_neg hc1]
end
end
/-! W7 -/
section
set_option maxHeartbeats 1000000
theorem sd_length {lt : D → D → Bool} {new : D} {start : Nat} : ∀ (f pos : Nat) (ds : List D), (sd lt new start f pos ds).length = ds.length
  | 0, pos, ds => by rw [sd, List.length_set]
  | f + 1, pos, ds => by
    rw [sd]
    split
    · split
      · split
        · rw [sd_length f, List.length_set]
        · rw [List.length_set]
      · rw [List.length_set]
    · rw [List.length_set]
theorem sd_mem {lt : D → D → Bool} {new : D} {start : Nat} {P : D → Prop} (hn : P new) : ∀ (f pos : Nat) (ds : List D), (∀ d ∈ ds, P d) → ∀ d ∈ sd lt new start f pos ds, P d := by
  have set : ∀ {pos : Nat} {ds : List D} {x : D}, P x → (∀ d ∈ ds, P d) → ∀ d ∈ ds.set pos x, P d := fun hx h d hd => by
    rcases List.mem_or_eq_of_mem_set hd with q | rfl
    · exact h d q
    · exact hx
  intro f
  induction f with
  | zero => intro pos ds h d hd; rw [sd] at hd; exact set hn h d hd
  | succ f ih =>
    intro pos ds h d hd
    rw [sd] at hd
    split at hd
    · split at hd
      · rename_i par hp
        split at hd
        · exact ih _ _ (set (h _ (List.mem_of_getElem? hp)) h) d hd
        · exact set hn h d hd
      · exact set hn h d hd
    · exact set hn h d hd
theorem siftdown_length {lt : D → D → Bool} {ds : List D} {start pos : Nat} : (siftdown lt ds start pos).length = ds.length := by
  unfold siftdown; split
  · exact sd_length _ _ _
  · rfl
theorem siftdown_mem {lt : D → D → Bool} {ds : List D} {start pos : Nat} {P : D → Prop} (h : ∀ d ∈ ds, P d) : ∀ d ∈ siftdown lt ds start pos, P d := by
  unfold siftdown; split
  · rename_i new hn; exact sd_mem (h _ (List.mem_of_getElem? hn)) _ _ _ h
  · exact h
theorem su_length {lt : D → D → Bool} : ∀ (f pos : Nat) (ds : List D), (su lt f pos ds).2.length = ds.length
  | 0, pos, ds => rfl
  | f + 1, pos, ds => by
    rw [su]
    split
    · split
      · rw [su_length f, List.length_set]
      · rfl
    · rfl
theorem su_mem {lt : D → D → Bool} {P : D → Prop} : ∀ (f pos : Nat) (ds : List D), (∀ d ∈ ds, P d) → ∀ d ∈ (su lt f pos ds).2, P d := by
  intro f
  induction f with
  | zero => intro pos ds h; exact h
  | succ f ih =>
    intro pos ds h
    rw [su]
    split
    · split
      · rename_i x hx
        refine ih _ _ fun d hd => ?_
        rcases List.mem_or_eq_of_mem_set hd with q | rfl
        · exact h d q
        · exact h _ (List.mem_of_getElem? hx)
      · exact h
    · exact h
theorem siftup_length {lt : D → D → Bool} {ds : List D} {pos : Nat} : (siftup lt ds pos).length = ds.length := by
  unfold siftup; split
  · rw [siftdown_length, List.length_set, su_length]
  · rfl
theorem siftup_mem {lt : D → D → Bool} {ds : List D} {pos : Nat} {P : D → Prop} (h : ∀ d ∈ ds, P d) : ∀ d ∈ siftup lt ds pos, P d := by
  unfold siftup; split
  · rename_i new hn
    refine siftdown_mem fun d hd => ?_
    rcases List.mem_or_eq_of_mem_set hd with q | rfl
    · exact su_mem _ _ _ h d q
    · exact h _ (List.mem_of_getElem? hn)
  · exact h
/-- heapify's turns: n, n-1, .., 1 for the places n-1, .., 0 -/
noncomputable def hfy (lt : D → D → Bool) : Nat → List D → List D
  | 0, ds => ds
  | n + 1, ds => hfy lt n (siftup lt ds n)
section
variable {w : World} {env : Env} {k N : Nat} {loc : Loc} {cells : Cls} {P : D → Prop} {lt : D → D → Bool}
theorem EvC.meth0 {o : Expr} {name : Str} {apos pos : Pos} {T id : String} {d : D} {R : D → Cls → Prop} (ho : Ev w env k loc cells o d) (hr : Recv w cells d T) (hF : Fn w k (.builtin id) [d] cells R)
    (pa : PlainAttrs T) (sl : Slot T name id) (ty : typeOf (.builtin id) = pure (.type "method_descriptor"))
    (hbase : attributeBase o name env (eval o env) = eval o env := by rfl)
    (hline : (apos.endLine == pos.line) = true := by rfl) : EvC w env k loc cells (.Call (.Attribute o name apos) [] [] pos) R := by
  intro A g₀ hA S g s Q hg Rl hQ
  refine wpAny_Call_method_late hbase rfl hline rfl (Tri.use3 (ho A g₀ hA S) hg Rl ?_)
  rintro v g1 h1 tk1 hg1 R1 rv
  obtain ⟨hT, hD⟩ := hr env g1 { s with heap := h1, toks := tk1 } _ v R1 rv
  refine ⟨T, id, pa, sl, ty, hT, hD, callWith_builtin rfl (evalArgs_nil3 ?_)⟩
  refine Tri.call hF hA (S.le (hg.trans hg1)) (.cons rv .nil) g1 _ Q (Le.refl _) R1 ?_
  rintro v g3 h3 tk3 l3 c3 hg3 R3 ⟨d, rd, rfl, hR⟩
  exact hQ v g3 h3 tk3 _ c3 (hg1.trans hg3) R3 ⟨d, rd, rfl, hR⟩
theorem F.heapify {a : Addr} {ds : List D} {pre post : Cls} (O : Ord w (k + 1) P lt) (O' : Ord w k P lt) (hP : ∀ d ∈ ds, P d) (hlen : ds.length < 1000000) :
    Fn w (k + 3) (.ref 63) [.val (.ref a)] (pre ++ (a, .lst ds) :: post) (fun r c => r = .none ∧ c = pre ++ (a, .lst (hfy lt (ds.length / 2) ds)) :: post) := by
  refine Fn.def (ds := [.val (.ref a)]) ["x", "n", "i"] ["x"] (f := 63) (by exact rfl) (by with_unfolding_all rfl) (binds_plain rfl (binds1 fun u => by with_unfolding_all rfl)) (by decide) (by decide) (by decide) ?h
  intro env hs hg hb
  refine Exs.cons (Ex.assign (d := .int ds.length) (Ev.len (ds := ds) (by walk_at "mine b") (by walk_at "mine n") (.cell memMid) (by (first | lia | omega))) (by walk_at "mine p") (kNe hs (by decide)) ?_)
  have hdv : ((ds.length : Int)).fdiv 2 = ((ds.length / 2 : Nat) : Int) := by rw [Int.fdiv_eq_ediv_of_nonneg _ (by decide)]; rfl
  refine Exs.cons (Ex.for (fun i l c => ∃ (es : List D) (od : Option D), es.length = ds.length ∧ (∀ d ∈ es, P d) ∧ hfy lt (ds.length / 2 - i) es = hfy lt (ds.length / 2) ds ∧ l = ([("x", some (.val (.ref a))), ("n", some (.int ds.length)), ("i", od)] : Loc) ∧ c = pre ++ (a, .lst es) :: post)
    (ItE.revrange (n := ((ds.length / 2 : Nat) : Int)) (by walk_at "mine b") (by walk_at "mine b") (by rw [← hdv]; exact Ev.bin (a := .int ds.length) (b := .int 2) (by walk_at "mine n") Ev.int (Bin.div (by decide) (by decide))) (by (first | lia | omega)) (by (first | lia | omega))) ⟨ds, none, rfl, hP, rfl, rfl, rfl⟩ ?turn ?done)
  case turn =>
    rintro i d l c hd ⟨es, od, hl, hPe, he, rfl, rfl⟩ hc
    obtain ⟨hi, rfl⟩ := rng_get hd
    rw [Int.toNat_natCast] at hi
    have e1 : ((((ds.length / 2 : Nat) : Int) - 1) + (i : Int) * (-1)) = ((ds.length / 2 - 1 - i : Nat) : Int) := by (first | lia | omega)
    rw [e1]
    refine ⟨_, As.name (by walk_at "mine p") (kNe hs (by decide)), ?_⟩
    refine Exs.cons (Ex.exprC (EvC.call (a := 77) (ds := [.val (.ref a), .int (ds.length / 2 - 1 - i : Nat)]) (by walk_at "mine g") (by first | rfl | kernel_rfl) (EvL.cons (by walk_at "mine n") (EvL.cons (by walk_at "mine n") EvL.nil))
      (Fn.mono (F.siftup (pre := pre) (post := post) (ds := es) (pos := ds.length / 2 - 1 - i) O O' hPe (by (first | lia | omega)) (by (first | lia | omega))) ?_)) (by unfold interactive; rw [hs]; rfl))
    rintro d c ⟨rfl, rfl⟩
    refine ⟨rfl, Exs.nil ⟨by simp, Mine.siftup lt es (ds.length / 2 - 1 - i), _, by rw [siftup_length, hl], siftup_mem hPe, ?_, rfl, rfl⟩⟩
    rw [← he]
    obtain ⟨m, hm⟩ : ∃ m, ds.length / 2 - i = m + 1 := ⟨ds.length / 2 - i - 1, by (first | lia | omega)⟩
    have e2 : ds.length / 2 - (i + 1) = m := by (first | lia | omega)
    have e3 : ds.length / 2 - 1 - i = m := by (first | lia | omega)
    rw [e2, e3, hm, hfy]
  case done =>
    rintro l c hc ⟨es, od, hl, hPe, he, rfl, rfl⟩
    have hr : (rng (((ds.length / 2 : Nat) : Int) - 1) (-1) (((ds.length / 2 : Nat) : Int)).toNat).length = ds.length / 2 := by simp [rng]; (first | lia | omega)
    rw [hr, Nat.sub_self, hfy] at he
    refine Exs.nil ⟨[], _, rfl, by simp, rfl, ?_⟩
    rw [he]; rfl
theorem F.heappop {a : Addr} {ds : List D} {last : D} {pre post : Cls} (O : Ord w (k + 1) P lt) (O' : Ord w k P lt) (hP : ∀ d ∈ ds ++ [last], P d) (hlen : ds.length < 1000000) :
    Fn w (k + 3) (.ref 49) [.val (.ref a)] (pre ++ (a, .lst (ds ++ [last])) :: post) (fun r c => match ds with
      | [] => r = last ∧ c = pre ++ (a, .lst []) :: post
      | x :: rs => r = x ∧ c = pre ++ (a, .lst (Mine.siftup lt (last :: rs) 0)) :: post) := by
  refine Fn.def (ds := [.val (.ref a)]) ["heap", "lastelt", "returnitem"] ["heap"] (f := 49) (by exact rfl) (by with_unfolding_all rfl) (binds_plain rfl (binds1 fun u => by with_unfolding_all rfl)) (by decide) (by decide) (by decide) ?h
  intro env hs hg hb
  refine Exs.cons (Ex.assignC (EvC.meth0 (d := .val (.ref a)) (by walk_at "mine n") (Recv.lst memMid) (M.pop (a := a) (ds := ds) (d := last) (pre := pre) (post := post) rfl (by rw [sizeLine_eq]; (first | lia | omega)) ⟨_, by walk_at "mine p", ?_⟩) PySem.F.plainAttrs_list PySem.F.slot_list_pop PySem.F.type_list_pop) (kNe hs (by decide)))
  refine Exs.cons (Ex.ite (Tr.list (ds := ds) (by walk_at "mine n") (.cell memMid) (by (first | lia | omega))) (fun e => ?y) (fun e => ?n))
  case n =>
    have : ds = [] := by cases ds with | nil => rfl | cons _ _ => cases e
    subst this
    refine Exs.nil (Exs.cons (Ex.ret (d := last) (by walk_at "mine n") ?_))
    exact ⟨[], _, rfl, by simp, rfl, rfl⟩
  case y =>
    obtain ⟨x, rs, rfl⟩ : ∃ x rs, ds = x :: rs := by cases ds with | nil => cases e | cons x rs => exact ⟨x, rs, rfl⟩
    refine Exs.cons (Ex.assign (d := x) (Ev.item (n := 0) (ds := x :: rs) (by walk_at "mine n") Ev.int (.cell memMid) (by (first | lia | omega)) (by (first | lia | omega)) rfl) (by walk_at "mine p") (kNe hs (by decide)) ?_)
    refine Exs.cons (Ex.setItem (ds := x :: rs) (j := 0) (d := last) rfl (by walk_at "mine n") (by walk_at "mine n") Ev.int (by (first | lia | omega)) (by (first | lia | omega)) (by simp) ?_)
    refine Exs.cons (Ex.exprC (EvC.call (a := 77) (ds := [.val (.ref a), .int 0]) (by walk_at "mine g") (by first | rfl | kernel_rfl) (EvL.cons (by walk_at "mine n") (EvL.cons Ev.int EvL.nil))
      (Fn.mono (F.siftup (pre := pre) (post := post) (ds := last :: rs) (pos := 0) O O' (fun d hd => ?_) (by simp) (by simpa using hlen)) ?_)) (by unfold interactive; rw [hs]; rfl))
    · rcases List.mem_cons.mp hd with rfl | hd
      · exact hP _ (List.mem_append_right _ (.head _))
      · exact hP _ (List.mem_append_left _ (.tail _ hd))
    · rintro d c ⟨rfl, rfl⟩
      refine ⟨rfl, Exs.cons (Ex.ret (d := x) (by walk_at "mine n") ?_)⟩
      exact ⟨[], _, rfl, by simp, rfl, rfl⟩
theorem F.heapreplace {a : Addr} {x item : D} {rs : List D} {pre post : Cls} (O : Ord w (k + 1) P lt) (O' : Ord w k P lt) (hP : ∀ d ∈ x :: rs, P d) (hi : P item) (hlen : rs.length + 1 < 1000000) :
    Fn w (k + 3) (.ref 56) [.val (.ref a), item] (pre ++ (a, .lst (x :: rs)) :: post) (fun r c => r = x ∧ c = pre ++ (a, .lst (Mine.siftup lt (item :: rs) 0)) :: post) := by
  refine Fn.def (ds := [.val (.ref a), item]) ["heap", "item", "returnitem"] ["heap", "item"] (f := 56) (by exact rfl) (by with_unfolding_all rfl) (binds_plain rfl (binds2 fun u v => by with_unfolding_all rfl)) (by decide) (by decide) (by decide) ?h
  intro env hs hg hb
  refine Exs.cons (Ex.assign (d := x) (Ev.item (n := 0) (ds := x :: rs) (by walk_at "mine n") Ev.int (.cell memMid) (by (first | lia | omega)) (by (first | lia | omega)) rfl) (by walk_at "mine p") (kNe hs (by decide)) ?_)
  refine Exs.cons (Ex.setItem (ds := x :: rs) (j := 0) (d := item) rfl (by walk_at "mine n") (by walk_at "mine n") Ev.int (by (first | lia | omega)) (by (first | lia | omega)) (by simp) ?_)
  refine Exs.cons (Ex.exprC (EvC.call (a := 77) (ds := [.val (.ref a), .int 0]) (by walk_at "mine g") (by first | rfl | kernel_rfl) (EvL.cons (by walk_at "mine n") (EvL.cons Ev.int EvL.nil))
    (Fn.mono (F.siftup (pre := pre) (post := post) (ds := item :: rs) (pos := 0) O O' (fun d hd => ?_) (by simp) (by simpa using hlen)) ?_)) (by unfold interactive; rw [hs]; rfl))
  · rcases List.mem_cons.mp hd with rfl | hd
    · exact hi
    · exact hP _ (.tail _ hd)
  · rintro d c ⟨rfl, rfl⟩
    refine ⟨rfl, Exs.cons (Ex.ret (d := x) (by walk_at "mine n") ?_)⟩
    exact ⟨[], _, rfl, by simp, rfl, rfl⟩
end
end
/-! F26 -/
section
section
variable {w : World} {env : Env} {k N : Nat} {loc : Loc} {cells : Cls}
theorem ints_are {g : Heap} : ∀ {vs : List Value} {ns : List Int}, RepAll g vs (ns.map .int) → IntsAre vs ns
  | _, [], .nil => .nil
  | _, n :: ns, .cons h r => by cases h; exact .cons n _ (ints_are r)
theorem rep_ints {g : Heap} : ∀ {vs : List Value} {ns : List Int}, IntsAre vs ns → RepAll g vs (ns.map .int)
  | _, _, .nil => .nil
  | _, _, .cons n t r => .cons (.int n t) (rep_ints r)
theorem B.sum {ns : List Int} : BFn w k (.builtin "sum") [.lst (ns.map .int)] (.int ns.sum) := by
  intro A g vs hA _ r
  obtain ⟨u, rfl, rx⟩ := one r
  obtain ⟨⟨_, _⟩, rfl, hl, rr⟩ := Rep.inv rx
  · have hi := ints_are rr
    intro s Q hg hQ
    obtain ⟨xs, e⟩ := hi.allInts.items
    have hl' := isList_le hg hl
    rw [show (List.toArray _ : Array Value) = intItems xs from e] at hl'
    have hns : ns = xs.toList.map (·.1) := by rw [← hi.numsOf, ← nums_intItems, ← e]
    refine sum_intListG hA.handled hl' fun h' tk t' hk => ?_
    have e2 : preSum (numAt xs) xs.size = ns.sum := by rw [preSum_eq, List.take_of_length_le (by simp), hns]
    rw [e2]
    exact hQ _ h' tk hk fun _ _ _ => .int _ _
theorem B.max {ns : List Int} {M : Int} (hne : 0 < ns.length) (hM : M ∈ ns) (hle : ∀ x ∈ ns, x ≤ M) : BFn w k (.builtin "max") [.lst (ns.map .int)] (.int M) := by
  intro A g vs hA _ r
  obtain ⟨u, rfl, rx⟩ := one r
  obtain ⟨⟨_, _⟩, rfl, hl, rr⟩ := Rep.inv rx
  · have hi := ints_are rr
    intro s Q hg hQ
    obtain ⟨xs, e⟩ := hi.allInts.items
    have hl' := isList_le hg hl
    rw [show (List.toArray _ : Array Value) = intItems xs from e] at hl'
    have hns : ns = xs.toList.map (·.1) := by rw [← hi.numsOf, ← nums_intItems, ← e]
    have hsz : 0 < xs.size := by
      have h3 := hne; rw [hns, List.length_map, Array.length_toList] at h3; exact h3
    refine max_intList hA.handled hl' hsz fun v h' tk hv hk => ?_
    obtain ⟨t, rfl⟩ := intItems_at hv
    obtain ⟨h1, h2⟩ := argBest_gt (numAt xs) (xs.size - 1)
    have m1 : numAt xs (argBest (fun i j => decide (numAt xs i > numAt xs j)) (xs.size - 1)) ∈ ns := by
      rw [hns, numAt_eq]; exact getD_mem (by rw [List.length_map, Array.length_toList]; (first | lia | omega))
    have m2 : ∀ a ∈ ns, a ≤ numAt xs (argBest (fun i j => decide (numAt xs i > numAt xs j)) (xs.size - 1)) := fun a ha => by
      rw [hns] at ha
      obtain ⟨j, hj, rfl⟩ := mem_getD ha
      rw [List.length_map, Array.length_toList] at hj
      rw [← numAt_eq]; exact h2 j (by (first | lia | omega))
    have e3 : numAt xs (argBest (fun i j => decide (numAt xs i > numAt xs j)) (xs.size - 1)) = M := Int.le_antisymm (hle _ m1) (m2 _ hM)
    rw [e3]
    exact hQ _ h' tk hk fun _ _ _ => .int _ _
theorem B.min2 {a b : Int} : BFn w k (.builtin "min") [.int a, .int b] (.int (if b < a then b else a)) := by
  intro A g vs hA _ r
  obtain ⟨u, v, rfl, rx, ry⟩ := two r; (first | obtain ⟨_, rfl⟩ := Rep.inv rx | cases rx); (first | obtain ⟨_, rfl⟩ := Rep.inv ry | cases ry)
  rename_i t t2
  intro s Q hg hQ
  refine min_two_ints hA.handled fun h' tk hk => ?_
  by_cases c : b < a
  · rw [if_pos c]; exact hQ _ h' tk hk fun _ _ _ => by rw [if_pos c]; exact .int _ _
  · rw [if_neg c]; exact hQ _ h' tk hk fun _ _ _ => by rw [if_neg c]; exact .int _ _
theorem B.sorted {ns ms : List Int} (hp : ms.Perm ns) (hs : ms.Pairwise (· ≤ ·)) (h64 : ns.length < 64) : BFn w k (.builtin "sorted") [.lst (ns.map .int)] (.lst (ms.map .int)) := by
  intro A g vs hA _ r
  obtain ⟨u, rfl, rx⟩ := one r
  obtain ⟨⟨_, _⟩, rfl, hl, rr⟩ := Rep.inv rx
  · rename_i a us
    have hi := ints_are rr
    have hlen := IntsAre.length hi
    intro s Q hg hQ
    refine sorted_ints (isList_le hg hl) hi (by (first | lia | omega)) fun out ns' a1 a2 a3 => ?_
    have e : ns' = ms := ksm_same (a2.trans hp.symm) a3 hs
    subst e
    obtain ⟨e, he⟩ := sortedAll_at s.heap us out
    refine hQ _ _ s.toks (fun _ _ => sortedAll_old) fun g' hg' nw => .lst (vs := out.toList) ⟨_, nw _ _ ?_ he, rfl, e, by rw [Array.toArray_toList]⟩ (rep_ints a1)
    exact Heap.get?_none_of_le (Nat.le_succ _)
end
end
/-! F28 -/
section
section
variable {w : World} {env : Env} {k N : Nat} {loc loc' : Loc} {cells : Cls}
/-- a call of a def whose first argument is a written text, with a star behind: a token goes -/
theorem EvT.callS1 {f c : Str} {kd : Nat} {cp : Pos} {fp pos : Pos} {rest : List Expr} {a : Addr} {ds : List D} {R : D → Nat → Cls → Prop} {R0 : D → Cls → Prop} (hf : Ev w env k loc cells (.Name f fp) (.val (.ref a))) (hk : keepIn (KF w) (.ref a) = true)
    (ha : EvL w env k loc cells rest ds) (hF : Fn w k (.ref a) (.str c :: ds) cells R0) (hR : ∀ d c tk, N + 1 ≤ tk → R0 d c → R d tk c)
    (he : starEach (.Constant (.str c) kd cp :: rest) env = (false, eval (.Constant (.str c) kd cp) env) :: starEach rest env := by rfl) (hplain : ∀ pos, (backTo pos (starEach rest env)).any (·.1) = true := by intro _; rfl) :
    EvT w env k N loc cells (.Call (.Name f fp) (.Constant (.str c) kd cp :: rest) [] pos) R := by
  intro A g₀ hA S g s Q hg hN Rl hQ
  refine wpAny_Call_NameR (hf.withT hA S hg Rl ?_)
  rintro v g1 h1 tk1 ht1 hg1 R1 rv
  (first | obtain ⟨_, rfl⟩ := Rep.inv rv | cases rv)
  refine callWith_S2 (S.le (hg.trans hg1)).X hk ?_ he (hplain pos)
  refine wpAny_items_cons (Calls.Constant_str ?_) he
  refine wpAny_mono (wpAny_toks (ha A g1 pos hA (S.le (hg.trans hg1)) g1 { s with heap := h1, toks := tk1 + 1 } (fun vs s' => ∃ g' h' tk', s' = { s with heap := h', toks := tk' } ∧ Le g1 g' ∧ Rel w env g' h' loc cells ∧ RepAll g' vs ds) (Le.refl _) R1
    fun vs g' h' tk' l' c' x y ⟨z, e1, e2⟩ => ⟨g', h', tk', rfl, x, e1 ▸ e2 ▸ y, z⟩)) ?_ (fun _ _ q => q)
  rintro vs s2 ⟨hm, g2, h2, tk2, rfl, hg2, R2, rs⟩
  have hb : N + 1 ≤ tk2 := Nat.le_trans (Nat.succ_le_succ (Nat.le_trans hN ht1)) hm
  refine ⟨((S.le (hg.trans hg1)).le (hg2.trans R2.c.sub)).X, ?_⟩
  refine wpAny_mono (wpAny_toks (Tri.call (env := env) (loc := loc) hF hA (S.le ((hg.trans hg1).trans hg2)) (.cons (.str c tk1) rs) g2 { s with heap := h2, toks := tk2 } (fun v s' => ∃ g' h' tk' c' d, s' = { s with heap := h', toks := tk' } ∧ Le g2 g' ∧ Rel w env g' h' loc c' ∧ Rep g' v d ∧ R0 d c') (Le.refl _) R2
    fun v g' h' tk' l' c' x y ⟨d, rd, e1, hR⟩ => ⟨g', h', tk', c', d, rfl, x, e1 ▸ y, rd, hR⟩)) ?_ (fun _ _ q => q)
  rintro v s3 ⟨hm2, g3, h3, tk3, c3, d, rfl, hg3, R3, rd, hR0⟩
  exact hQ v g3 h3 tk3 c3 d ((hg1.trans hg2).trans hg3) R3 rd (hR d c3 tk3 (Nat.le_trans hb hm2) hR0)

/-- `list.append(f(x))` as a statement, the argument with its token -/
theorem ExT.appendT {o x : Expr} {apos cpos pos : Pos} {a : Addr} {ds : List D} {pre post : Cls} {R : PostT} (hc : cells = pre ++ (a, .lst ds) :: post) (ho : Ev w env k loc cells o (.val (.ref a)))
    (hx : EvT w env k N loc cells x (fun d tk c => c = cells ∧ ∀ tk', tk ≤ tk' → R .next tk' loc (pre ++ (a, .lst (ds ++ [d])) :: post))) (hz : ds.length ≤ sizeLine)
    (hi : interactive env = false) (hst : starEach [x] env = [(false, eval x env)] := by rfl)
    (hbase : attributeBase o "append" env (eval o env) = eval o env := by rfl)
    (hfew : ((((backTo cpos (starEach [x] env)).all fun x => !x.1) && (backToKw cpos (keywordEach [] env)).all fun x => x.1.isSome) && decide (([x] : List Expr).length + ([] : List Keyword).length + (if ([] : List Keyword).isEmpty = true then 0 else 1) < 30)) = true := by rfl)
    (hline : (apos.endLine == cpos.line) = true := by rfl) (hs : swapsWith (.Call (.Attribute o "append" apos) [x] [] cpos) none pos.line env = pure false := by rfl) :
    ExT w env k N loc cells (.Expr (.Call (.Attribute o "append" apos) [x] [] cpos) pos) R := by
  intro A g₀ hA S g s Q hg hN Rl hQ
  refine wpAny_Expr_any ?_ hi hs
  refine wpAny_Call_method_late hbase hfew hline rfl (ho.withT hA S hg Rl ?_)
  rintro v g1 h1 tk1 ht1 hg1 R1 rv
  (first | obtain ⟨_, rfl⟩ := Rep.inv rv | cases rv)
  subst hc
  have mem : (a, C.lst ds) ∈ pre ++ (a, .lst ds) :: post := List.mem_append_right _ (.head _)
  obtain ⟨hT, hD⟩ := Recv.lst mem env g1 { s with heap := h1, toks := tk1 } loc (.ref a) R1 (.val _)
  have hb' : backTo cpos (starEach [x] env) = [(false, eval x env)] := by rw [hst]; rfl
  refine ⟨"list", "list.append", PySem.F.plainAttrs_list, PySem.F.slot_list_append, PySem.F.type_list_append, hT, hD, ?_⟩
  rw [hb']
  refine callWith_builtin rfl (evalArgs_plain (Calls.spliced_cons ?_))
  refine hx A g1 hA (S.le (hg.trans hg1)) g1 _ _ (Le.refl _) (Nat.le_trans hN ht1) R1 ?_
  rintro u g2 h2 tk2 c2 d hg2 R2 ru ⟨rfl, hR⟩
  refine Calls.spliced_nil ?_
  obtain ⟨⟨vs, n, e, r⟩, _⟩ := R2.c.all (a, .lst ds) mem
  refine wpAny_list_append_plain (items := vs.toArray) ⟨n, e⟩ (fun h' ⟨n', e'⟩ hs => ?_) (by simpa [r.length] using hz)
  exact hQ .next g2 h' tk2 loc _ .next (hg1.trans hg2) (R2.setCell (c' := .lst (ds ++ [d])) ⟨vs ++ [u], n', by rw [e']; simp, RepAll.append (.cons ru .nil) r⟩ rfl hs) trivial (hR tk2 (Nat.le_refl _))
end
end
/-! W8 -/
section
set_option maxHeartbeats 1000000
/-! the sums and checks of the folders, in plain lists -/
noncomputable def iget : List Str → List Int → Str → Option Int
  | x :: ks, d :: ds, y => if x = y then some d else iget ks ds y
  | _, _, _ => none
noncomputable def iput : List Str → List Int → Str → Int → List Int
  | x :: ks, d :: ds, y, e => if x = y then e :: ds else d :: iput ks ds y e
  | _, _, _, e => [e]
theorem dget_int : ∀ (ks : List Str) (ds : List Int) (y : Str), dget ks (ds.map .int) y = (iget ks ds y).map .int
  | [], ds, y => by cases ds <;> rfl
  | x :: ks, [], y => rfl
  | x :: ks, d :: ds, y => by
    unfold iget
    rw [List.map_cons]
    unfold dget
    split
    · rfl
    · exact dget_int ks ds y
theorem dput_int : ∀ (ks : List Str) (ds : List Int) (y : Str) (e : Int), (dput ks (ds.map .int) y (.int e)).2 = (iput ks ds y e).map .int
  | [], ds, y, e => by cases ds <;> rfl
  | x :: ks, [], y, e => rfl
  | x :: ks, d :: ds, y, e => by
    unfold iput
    rw [List.map_cons]
    unfold dput
    split
    · rfl
    · rw [List.map_cons]; exact congrArg (D.int d :: ·) (dput_int ks ds y e)
structure Tab where
  names : List Str
  sums : List Int
  checks : List Int
noncomputable def Tab.step (T : Tab) (x : Str) (size : Int) : Tab :=
  ⟨if T.names.contains x then T.names else T.names ++ [x], iput T.names T.sums x ((iget T.names T.sums x).getD 0 + size), iput T.names T.checks x (Builtin.bitXor ((iget T.names T.checks x).getD 0) size)⟩
/-- the folders above a path, up to the root -/
noncomputable def chain : Nat → Str → List Str
  | 0, _ => []
  | n + 1, p => if p = "/" then [] else dirS p :: chain n (dirS p)
noncomputable def Tab.steps (T : Tab) (xs : List Str) (size : Int) : Tab := xs.foldl (fun T x => T.step x size) T
structure TokOk (tk : Nat) (ks wi : List (Str × Tok)) : Prop where
  k : ∀ p ∈ ks, 1 ≤ p.2 ∧ p.2 < tk
  w : ∀ p ∈ wi, 1 ≤ p.2 ∧ p.2 < tk
  ap : ∀ p ∈ ks, ∀ q ∈ wi, p.2 ≠ q.2
theorem TokOk.le {tk tk' : Nat} {ks wi : List (Str × Tok)} (h : TokOk tk ks wi) (k : tk ≤ tk') : TokOk tk' ks wi :=
  ⟨fun p hp => ⟨(h.k p hp).1, Nat.lt_of_lt_of_le (h.k p hp).2 k⟩, fun p hp => ⟨(h.w p hp).1, Nat.lt_of_lt_of_le (h.w p hp).2 k⟩, h.ap⟩
theorem TokOk.key {tk tk' : Nat} {ks wi : List (Str × Tok)} {x : Str} {t : Tok} (h : TokOk tk ks wi) (h1 : 1 ≤ tk) (ht : tk ≤ t) (ht' : t < tk') : TokOk tk' (kput ks x t) wi := by
  have h' := h.le (Nat.le_trans ht (Nat.le_of_lt ht'))
  unfold kput
  split
  · exact h'
  · refine ⟨fun p hp => ?_, h'.w, fun p hp q hq => ?_⟩
    · rcases List.mem_append.mp hp with hp | hp
      · exact h'.k p hp
      · rw [List.mem_singleton.mp hp]; exact ⟨Nat.le_trans h1 ht, ht'⟩
    · rcases List.mem_append.mp hp with hp | hp
      · exact h.ap p hp q hq
      · rw [List.mem_singleton.mp hp]
        exact fun e => absurd (h.w q hq).2 (Nat.not_lt.mpr (by show tk ≤ q.2; rw [← e]; exact ht))
theorem TokOk.within {tk tk' : Nat} {ks wi : List (Str × Tok)} {x : Str} {t : Tok} (h : TokOk tk ks wi) (h1 : 1 ≤ tk) (ht : tk ≤ t) (ht' : t < tk') : TokOk tk' ks (wi ++ [(x, t)]) := by
  have h' := h.le (Nat.le_trans ht (Nat.le_of_lt ht'))
  refine ⟨h'.k, fun p hp => ?_, fun p hp q hq => ?_⟩
  · rcases List.mem_append.mp hp with hp | hp
    · exact h'.w p hp
    · rw [List.mem_singleton.mp hp]; exact ⟨Nat.le_trans h1 ht, ht'⟩
  · rcases List.mem_append.mp hq with hq | hq
    · exact h.ap p hp q hq
    · rw [List.mem_singleton.mp hq]
      exact fun e => absurd (h.k p hp).2 (Nat.not_lt.mpr (by show tk ≤ p.2; rw [e]; exact ht))
end
/-! F29 -/
section
set_option maxHeartbeats 4000000 in
theorem Comp.use {x : Str} {p : Pos} {loc' : Addr → Loc} {w : World} {env : Env} {k : Nat} {loc : Loc} {cells0 cells : Cls} {fin : Fins} {elt target iter : Expr} {ifs : List Expr} {scope : Scope} {pos : Pos} {items : List D} (locIn : Loc) (InvL : Loc → Prop) (F : D → Option D)
    (hi : ItZ w env k loc cells0 cells fin target iter items) (hio : InnerOk env scope loc locIn) (hin : InvL locIn)
    (hcap : ∀ l, InvL l → ∀ p ∈ locIn, scope.names.lookup p.1 = some .free → p ∈ l)
    (turn : ∀ cenv c, (∀ p ∈ cells, p ∈ c) → cenv.scope.kind = .function → cenv.scope.names = nmOf scope.names → cenv.globals = mainGlobals → cenv.builtins = builtinsNs → ∀ l d, InvL l → d ∈ items → ∃ l1 b, As w cenv k l c target d l1 ∧ InvL l1 ∧ Tests w cenv k l1 c ifs b ∧
      (b = true → ∃ e, F d = some e ∧ Ev w cenv k l1 c elt e) ∧ (b = false → F d = none))
    (hnd' : (fin.map (·.1)).Nodup) (hsz : items.length + 1 ≤ sizeLine) (hp : ∀ a, Put x (.val (.ref a)) loc (loc' a)) (hkx : env.kindOf x ≠ some .free) (hs : ∀ x, foldedSetIterable iter env x = pure x := by intro _; rfl) :
    ∀ A g₀, Low k A → Stat w g₀ → ∀ g (s : Shared) (Q : Value → Shared → Prop), Le g₀ g → Rel w env g s.heap loc cells0 →
      (∀ a g' h' tk', Le g g' → Rel w env g' h' (loc' a) (fin ++ (a, .lst (items.filterMap F)) :: cells) → Q .none { s with heap := h', toks := tk' }) →
      wpAny (model PR w) A (comprehension (.ListComp elt [⟨target, iter, ifs, 0⟩] scope pos) scope env (firstIterPos [⟨target, iter, ifs, 0⟩] pos) (newList []) false (eval iter env) (some (assign (.Name x p) env))) Q No s := by
  intro A g₀ hA S g s Q hg Rl hQ
  obtain ⟨m₀, hn₀, hv₀⟩ := Rl.ns
  have hlook : ∀ p ∈ scope.names, p.2 = .free → (env.cells.lookup p.1).isSome = true := fun p hp e => by
    obtain ⟨h1, od, h2, _⟩ := hio.free p hp e
    have v := hv₀ _ h2
    unfold VarIs at v
    rw [h1] at v
    obtain ⟨c, _, hc, _⟩ := v
    rw [hc]; rfl
  refine wpAny_comprehension_free (g := ⟨target, iter, ifs, 0⟩) (gs := []) rfl hs (closureFor_pure hlook) hio.kind (fun x hx e => by rw [lookup_of_mem hio.nd hx, e]) ?_
  refine hi A g₀ hA S g s _ hg Rl ?_
  intro it own St g1 h1 tk1 hg1 R1 hown hap hfin HI hst
  have I := HI A hA
  refine wpAny_newObj_type ?_ (by show ([] : List Value).toArray.size ≤ sizeLine; simp)
  refine newEnvComp ?_
  intro cown h2 hcn hnd hcells hnsL hk2
  dsimp only at hcells hnsL hk2 ⊢
  generalize hacc : h1.objs.size = acc at hk2 hcells hnsL ⊢
  generalize hH : h1.push { cls := .type "list", data := .seq ([] : List Value).toArray } = H1 at hk2 hcells hnsL ⊢
  generalize hLL : H1.objs.size = L at hk2 hcells hnsL ⊢
  have sizeH : L = acc + 1 := by rw [← hLL, ← hH, Heap.size_push, hacc]
  have k12 : Le h1 h2 := (by rw [← hH] at hk2; exact (Le.push _ _).trans hk2)
  have accIs : h2.get? acc = some ({ cls := .type "list", data := .seq ([] : List Value).toArray } : Obj) := hk2 _ _ (by rw [← hH, ← hacc]; exact Heap.get?_push_size _ rfl)
  have fresh1 : ∀ a, acc ≤ a → h1.get? a = none := fun a ha => by
    cases e : h1.get? a with
    | none => rfl
    | some o => exact absurd (Heap.lt_size e) (by rw [hacc]; exact Nat.not_lt.mpr ha)
  have gf : ∀ a, acc ≤ a → g1.get? a = none := fun a ha => by
    cases e : g1.get? a with
    | none => rfl
    | some o => have := R1.c.sub _ _ e; rw [fresh1 a ha] at this; cases this
  have lt1 : ∀ {a : Nat} {o}, h1.get? a = some o → @LT.lt Nat _ a acc := fun e => by rw [← hacc]; exact Heap.lt_size e
  have cellsLt : ∀ p ∈ cells, @LT.lt Nat _ p.1 acc := fun p hp => let ⟨_, e⟩ := (R1.c.all p hp).1.some; lt1 e
  have ownLt : ∀ a ∈ own, @LT.lt Nat _ a acc := fun a ha => let ⟨_, e⟩ := I.data _ _ hst a ha; lt1 e
  have cownGt : ∀ p ∈ cown, @LT.lt Nat _ L p.2 := fun p hp => (hcells p hp).1
  -- the inner frame
  generalize hcenv : ({ scope := relabel scope env, locals := L, globals := env.globals, cells := cown ++ clos env.cells scope.names [], qual := env.qual, func := none, code := env.code, frame := env.frame, builtins := env.builtins } : Env) = cenv
  have cloc : cenv.locals = L := by rw [← hcenv]
  have ccells : cenv.cells = cown ++ clos env.cells scope.names [] := by rw [← hcenv]
  have cscope : cenv.scope = relabel scope env := by rw [← hcenv]
  have cnames : cenv.scope.names = nmOf scope.names := by rw [cscope]; exact relabel_names Rl.fk.kind fun p hp e => (hio.free p hp e).1
  have ckind : cenv.scope.kind = .function := by rw [cscope]; exact hio.kind
  have ckOf : ∀ x, cenv.kindOf x = (scope.names.lookup x).map fun kd => if kd == .free then .cell else kd := fun x => by unfold Env.kindOf; rw [cnames, nmOf_lookup]
  have cownNames : ∀ p ∈ cown, (p.1, NameKind.cell) ∈ scope.names := fun p hp => by
    have : p.1 ∈ (cellNames scope.names).reverse := hcn ▸ List.mem_map.mpr ⟨p, hp, rfl⟩
    obtain ⟨q, hq, e⟩ := List.mem_map.mp (List.mem_reverse.mp this)
    obtain ⟨q1, q2⟩ := List.mem_filter.mp hq
    obtain ⟨qa, qb⟩ := q
    have : qb = .cell := by simpa using q2
    subst this; subst e; exact q1
  -- a name's cell within
  have cfree : ∀ x, scope.names.lookup x = some .free → cenv.cells.lookup x = env.cells.lookup x := fun x e => by
    have hm := mem_of_lookup e
    rw [ccells, lookup_append, clos_lookup hio.nd hm (hlook _ hm rfl)]
    have : cown.lookup x = none := by
      cases q : cown.lookup x with
      | none => rfl
      | some a =>
        have := lookup_of_mem hio.nd (cownNames _ (mem_of_lookup q))
        dsimp only at this
        rw [e] at this; cases this
    rw [this]; rfl
  have ccell : ∀ x, scope.names.lookup x = some .cell → ∃ a, cenv.cells.lookup x = some a ∧ (x, a) ∈ cown := fun x e => by
    have hm : x ∈ cown.map (·.1) := by
      rw [hcn]
      exact List.mem_reverse.mpr (List.mem_map.mpr ⟨(x, .cell), List.mem_filter.mpr ⟨mem_of_lookup e, by simp⟩, rfl⟩)
    have : (cown.lookup x).isSome = true := isSome_lookup hm
    obtain ⟨a, ha⟩ := Option.isSome_iff_exists.mp this
    exact ⟨a, by rw [ccells, lookup_append, ha]; rfl, mem_of_lookup ha⟩
  -- which cells are the inner frame's
  have cAt : ∀ x a, CellAt cenv x a → (scope.names.lookup x = some .cell ∧ (x, a) ∈ cown) ∨ (scope.names.lookup x = some .free ∧ CellAt env x a) := fun x a ⟨h1, h2⟩ => by
    rw [ckOf] at h1
    cases q : scope.names.lookup x with
    | none => rw [q] at h1; cases h1
    | some kd =>
      rw [q] at h1
      cases kd with
      | cell =>
        obtain ⟨b, e1, e2⟩ := ccell x q
        rw [h2] at e1; cases e1
        exact .inl ⟨rfl, e2⟩
      | free => exact .inr ⟨rfl, (hio.free _ (mem_of_lookup q) rfl).1, by rw [← cfree x q]; exact h2⟩
      | _ => cases h1
  let hid : List Addr := ownOf cenv ++ muts ((acc, C.lst []) :: cells) ++ own
  have hidO : ∀ a ∈ hid, g1.get? a = none := fun a ha => by
    rcases List.mem_append.mp ha with ha | ha
    · rcases List.mem_append.mp ha with ha | ha
      · have cn : (cenv.scope.names.map (·.1)).Nodup := by
          rw [cnames]; unfold nmOf; rw [List.map_map]
          have : ((fun p : Str × NameKind => p.1) ∘ fun p => if (p.2 == NameKind.free) = true then (p.1, NameKind.cell) else p) = (·.1) := by
            funext p; dsimp only [Function.comp]; split <;> rfl
          rw [this]; exact hio.nd
        rcases mem_ownOf ha cn with rfl | ⟨x, hx⟩
        · rw [cloc]; exact gf _ (by (first | lia | omega))
        · rcases cAt x a hx with ⟨_, h⟩ | ⟨_, h⟩
          · exact gf _ (by have := cownGt _ h; dsimp only at this; (first | lia | omega))
          · exact (R1.own x a h).1
      · obtain ⟨p, hp, m, rfl⟩ := mem_muts ha
        rcases List.mem_cons.mp hp with rfl | hp
        · exact gf _ (Nat.le_refl _)
        · exact (R1.c.all p hp).2 m
    · exact hown a ha
  have kgi : Le g1 (hideAll h2 hid) := le_hideAll (R1.c.sub.trans k12) hidO
  have hidN : ∀ a ∈ hid, (hideAll h2 hid).get? a = none := fun a ha => hideAll_none _ ha
  have hidK : ∀ a o, h2.get? a = some o → a ∉ hid → (hideAll h2 hid).get? a = some o := fun a o e n => hideAll_get _ e n
  have ownHid : ∀ a ∈ own, a ∈ hid := fun a ha => List.mem_append_right _ ha
  have cownOf : ∀ {x a}, CellAt cenv x a → a ∈ hid := fun h => List.mem_append_left _ (List.mem_append_left _ h.mem)
  generalize hgi : hideAll h2 hid = gi at kgi hidN hidK
  have giSub : Le gi h2 := hgi ▸ hideAll_le _ _
  have cn : (cenv.scope.names.map (·.1)).Nodup := by
    rw [cnames]; unfold nmOf; rw [List.map_map]
    have : ((fun p : Str × NameKind => p.1) ∘ fun p => if (p.2 == NameKind.free) = true then (p.1, NameKind.cell) else p) = (·.1) := by
      funext p; dsimp only [Function.comp]; split <;> rfl
    rw [this]; exact hio.nd
  have Ri : Rel w cenv gi h2 locIn ((acc, .lst []) :: cells) := by
    refine ⟨⟨giSub, fun p hp => ?_, ?_⟩, ⟨ckind, by rw [← hcenv]; exact Rl.fk.glob, by rw [← hcenv]; exact Rl.fk.bltn, cn, hio.dbg⟩, ?_, ?_, ⟨_, cloc ▸ hnsL, fun p hp => ?_⟩, fun x a hx => ?_, fun x y a hx hy => ?_, hio.names⟩
    · rcases List.mem_cons.mp hp with rfl | hp
      · exact ⟨⟨[], 0, accIs, .nil⟩, fun _ => hidN _ (List.mem_append_left _ (List.mem_append_right _ (mem_muts' (.head _) rfl)))⟩
      · exact ⟨(R1.c.all p hp).1.up kgi fun o e => k12 _ o e, fun m => hidN _ (List.mem_append_left _ (List.mem_append_right _ (mem_muts' (.tail _ hp) m)))⟩
    · rw [List.map_cons, List.nodup_cons]
      refine ⟨fun hm => ?_, R1.c.nodup⟩
      obtain ⟨p, hp, e⟩ := List.mem_map.mp hm
      exact absurd (cellsLt p hp) (by rw [e]; exact Nat.lt_irrefl _)
    · exact hidN _ (List.mem_append_left _ (List.mem_append_left _ (.head _)))
    · rw [cloc]
      intro hm
      rw [List.map_cons, List.mem_cons] at hm
      rcases hm with e | hm
      · exact Nat.ne_of_gt (show acc < L by (first | lia | omega)) e
      · obtain ⟨p, hp, e⟩ := List.mem_map.mp hm
        have := cellsLt p hp
        rw [e] at this; (first | lia | omega)
    · unfold VarIs
      rw [ckOf]
      rcases hio.ent p hp with ⟨e1, e2⟩ | ⟨e1, e2⟩ | ⟨e1, e2⟩
      · rw [e1, e2]; exact trivial
      · rw [e1, e2]
        obtain ⟨a, h1, h2⟩ := ccell p.1 e1
        exact ⟨a, none, h1, (hcells _ h2).2, trivial⟩
      · rw [e1]
        show ∃ c ov, cenv.cells.lookup p.1 = some c ∧ h2.IsCell c ov ∧ RepO gi ov p.2
        rw [cfree p.1 e1]
        obtain ⟨m1, _, hv1⟩ := R1.ns
        have v := hv1 p e2
        unfold VarIs at v
        rw [(hio.free _ (mem_of_lookup e1) rfl).1] at v
        obtain ⟨c, ov, a, b, r⟩ := v
        exact ⟨c, ov, a, isCell_le k12 b, r.le kgi⟩
    · refine ⟨hidN _ (cownOf hx), ?_, ?_, ?_⟩
      · rw [cloc]
        rcases cAt x a hx with ⟨_, h⟩ | ⟨_, h⟩
        · intro e; have := cownGt _ h; dsimp only at this; rw [e] at this; exact Nat.lt_irrefl _ this
        · intro e
          obtain ⟨_, _, _, ov, o, q, _⟩ := R1.own x a h
          have := lt1 q
          rw [e] at this; (first | lia | omega)
      · intro hm
        rw [List.map_cons, List.mem_cons] at hm
        rcases cAt x a hx with ⟨_, h⟩ | ⟨_, h⟩
        · have h9 := cownGt _ h
          dsimp only at h9
          rcases hm with e | hm
          · rw [e] at h9; (first | lia | omega)
          · obtain ⟨p, hp, e⟩ := List.mem_map.mp hm
            have := cellsLt p hp
            rw [e] at this; (first | lia | omega)
        · obtain ⟨_, _, h3, ov, o, q, _⟩ := R1.own x a h
          rcases hm with e | hm
          · have := lt1 q; rw [e] at this; exact Nat.lt_irrefl _ this
          · exact h3 hm
      · rcases cAt x a hx with ⟨_, h⟩ | ⟨_, h⟩
        · exact ⟨none, (hcells _ h).2⟩
        · obtain ⟨_, _, _, ov, q⟩ := R1.own x a h
          exact ⟨ov, isCell_le k12 q⟩
    · rcases cAt x a hx with ⟨_, h⟩ | ⟨_, h⟩ <;> rcases cAt y a hy with ⟨_, h'⟩ | ⟨_, h'⟩
      · have : ∀ {l : List (Str × Addr)}, (l.map (·.2)).Nodup → (x, a) ∈ l → (y, a) ∈ l → x = y := by
          intro l
          induction l with
          | nil => intro _ h; cases h
          | cons p l ih =>
            intro nd m1 m2
            rw [List.map_cons, List.nodup_cons] at nd
            rcases List.mem_cons.mp m1 with e1 | m1
            · rcases List.mem_cons.mp m2 with e2 | m2
              · rw [← e2] at e1; cases e1; rfl
              · exact absurd (List.mem_map.mpr ⟨_, m2, by rw [← e1]⟩) nd.1
            · rcases List.mem_cons.mp m2 with e2 | m2
              · exact absurd (List.mem_map.mpr ⟨_, m1, by rw [← e2]⟩) nd.1
              · exact ih nd.2 m1 m2
        exact this hnd h h'
      · obtain ⟨_, _, _, ov, o, q, _⟩ := R1.own y a h'
        have := lt1 q; have := cownGt _ h; dsimp only at this; (first | lia | omega)
      · obtain ⟨_, _, _, ov, o, q, _⟩ := R1.own x a h
        have := lt1 q; have := cownGt _ h'; dsimp only at this; (first | lia | omega)
      · exact R1.inj x y a h h'
  have apIn : ∀ ys, Apart cenv ((acc, .lst ys) :: cells) own := fun ys a ha => by
    have := ownLt a ha
    refine ⟨fun hm => ?_, fun hm => ?_⟩
    · rcases mem_ownOf hm cn with e | ⟨x, hx⟩
      · rw [e, cloc] at this; (first | lia | omega)
      · rcases cAt x a hx with ⟨_, h⟩ | ⟨_, h⟩
        · have := cownGt _ h; dsimp only at this; (first | lia | omega)
        · exact (hap a ha).1 h.mem
    · rw [List.map_cons, List.mem_cons] at hm
      rcases hm with e | hm
      · rw [e] at this; exact Nat.lt_irrefl _ this
      · exact (hap a ha).2 hm
  have S1 : Stat w gi := S.le ((hg.trans hg1).trans kgi)
  have It := I.le kgi
  have hst2 : St 0 h2 := I.stay _ _ _ hst (fun a _ o e => k12 a o e) (R1.c.sub.trans k12)
  have gl : cenv.globals = mainGlobals := by rw [← hcenv]; exact Rl.fk.glob
  have bl : cenv.builtins = builtinsNs := by rw [← hcenv]; exact Rl.fk.bltn
  rw [cloc.symm]
  -- the loop
  have loop : ∀ s₃ : Shared, (∃ tk3, s₃ = { s with heap := h2, toks := tk3 }) → codeAny (model PR w) A (.compLoop (.ListComp elt [⟨target, iter, ifs, 0⟩] scope pos) 0 it (.ref acc) cenv) (compPost (model PR w) A No (some (assign (.Name x p) env)) Q (.ref acc) cenv.locals) s₃ := by
    rintro s₃ ⟨tk3, rfl⟩
    refine compLoopL (fun n s' => E5 fun i g' h' tk' l => A8 (s' = { s with heap := h', toks := tk' }) (Le gi g') ((∀ a ∈ own, g'.get? a = none)) (Rel w cenv g' h' l ((acc, .lst ((items.take i).filterMap F)) :: cells)) (InvL l) (St i h') (i ≤ items.length) (n = items.length - i)) ?_ items.length
      ⟨0, gi, h2, tk3, locIn, rfl, Le.refl _, (fun a ha => hidN a (ownHid a ha)), by simpa using Ri, hin, hst2, Nat.zero_le _, rfl⟩
    rintro n s' ⟨i, g2, h3, tk4, l2, rfl, hg2, hown2, R2, hI2, hst3, hile, rfl⟩
    cases hd : items[i]? with
    | none =>
      have hl : i = items.length := Nat.le_antisymm hile (by simpa using hd)
      subst hl
      refine wpAny_mono (It.done { s with heap := h3, toks := tk4 } (fun s₁ => ∃ h' tk', s₁ = { s with heap := h', toks := tk' } ∧ Kept own h3 h' ∧ ∀ a ∈ fin.map (·.1), ∀ o, h3.get? a = some o → h'.get? a = some o) hst3 (hg2.trans R2.c.sub) fun h' tk' hk hf => ⟨h', tk', rfl, hk, hf⟩) ?_ (fun _ _ q => q)
      intro r s₁ hr
      cases r with
      | some v => exact hr.elim
      | none =>
        obtain ⟨h', tk', rfl, hk, hfk⟩ := hr
        rw [List.take_length] at R2
        obtain ⟨R3, _⟩ := R2.drawn hown2 (apIn _) hk
        have out : ∀ a o, h1.get? a = some o → a ∉ hid → g2.get? a = some o := fun a o e n => hg2 _ _ (hidK a o (k12 a o e) n)
        have notHid : ∀ a ∈ ownOf env, (∀ x, ¬ (scope.names.lookup x = some .free ∧ CellAt env x a)) → a ∉ hid := fun a ha hno hm => by
          have halt : @LT.lt Nat _ a acc := by obtain ⟨_, o, e⟩ := R1.owned (List.mem_append_left _ ha); exact lt1 e
          rcases List.mem_append.mp hm with hm | hm
          · rcases List.mem_append.mp hm with hm | hm
            · rcases mem_ownOf hm cn with e | ⟨x, hx⟩
              · rw [e, cloc] at halt; (first | lia | omega)
              · rcases cAt x a hx with ⟨_, h⟩ | h
                · have := cownGt _ h; dsimp only at this; (first | lia | omega)
                · exact hno x h
            · obtain ⟨p, hp, _, rfl⟩ := mem_muts hm
              rcases List.mem_cons.mp hp with rfl | hp
              · exact Nat.lt_irrefl _ halt
              · rcases mem_ownOf ha R1.fk.names with e | ⟨x, hx⟩
                · exact R1.notL (e ▸ List.mem_map.mpr ⟨p, hp, rfl⟩)
                · exact (R1.own x _ hx).2.2.1 (List.mem_map.mpr ⟨p, hp, rfl⟩)
          · exact (hap a hm).1 ha
        have capt : ∀ x a, scope.names.lookup x = some .free → CellAt env x a → ∃ od, (x, od) ∈ loc ∧ (x, od) ∈ l2 ∧ CellAt cenv x a := fun x a e h => by
          obtain ⟨_, od, h2', h3'⟩ := hio.free _ (mem_of_lookup e) rfl
          exact ⟨od, h2', hcap l2 hI2 _ h3' e, by rw [ckOf, e]; rfl, by rw [cfree x e]; exact h.2⟩
        have kA : ∀ x a, CellAt env x a → (∃ o, h1.get? a = some o ∧ g2.get? a = some o) ∨ ∃ od, (x, od) ∈ loc ∧ (x, od) ∈ l2 ∧ CellAt cenv x a := fun x a hx => by
          by_cases q : scope.names.lookup x = some .free
          · exact .inr (capt x a q hx)
          · obtain ⟨_, o, e⟩ := R1.owned (List.mem_append_left _ hx.mem)
            refine .inl ⟨o, e, out a o e (notHid a hx.mem fun y ⟨h5, h6⟩ => ?_)⟩
            exact q (R1.inj y x a h6 hx ▸ h5)
        have kL : ∃ o, h1.get? env.locals = some o ∧ g2.get? env.locals = some o := by
          obtain ⟨_, o, e⟩ := R1.owned (List.mem_append_left (muts cells) (.head _ : env.locals ∈ ownOf env))
          exact ⟨o, e, out _ o e (notHid _ (.head _) fun y ⟨_, h6⟩ => (R1.own y _ h6).2.1 rfl)⟩
        have kO : ∀ a ∈ ownOf env, (∃ o, h1.get? a = some o ∧ g2.get? a = some o) ∨ (∃ x od, CellAt env x a ∧ (x, od) ∈ loc ∧ (x, od) ∈ l2 ∧ CellAt cenv x a) := fun a ha => by
          rcases mem_ownOf ha R1.fk.names with rfl | ⟨x, hx⟩
          · exact .inl kL
          · rcases kA x a hx with h | ⟨od, h5, h6, h7⟩
            · exact .inl h
            · exact .inr ⟨x, od, hx, h5, h6, h7⟩
        have off : ∀ p ∈ ((acc, C.lst (items.filterMap F)) :: cells : Cls), p.1 ∉ ownOf env := fun p hp ha => by
          have halt : @LT.lt Nat _ p.1 acc := by obtain ⟨_, o, e⟩ := R1.owned (List.mem_append_left _ ha); exact lt1 e
          rcases List.mem_cons.mp hp with rfl | hp
          · exact Nat.lt_irrefl _ halt
          · rcases mem_ownOf ha R1.fk.names with e | ⟨x, hx⟩
            · exact R1.notL (e ▸ List.mem_map.mpr ⟨p, hp, rfl⟩)
            · exact (R1.own x _ hx).2.2.1 (List.mem_map.mpr ⟨p, hp, rfl⟩)
        obtain ⟨R4, k4, _⟩ := Rel.backComp R1 R3 (kgi.trans hg2) kO kA kL off
        obtain ⟨mm, hnn, _⟩ := R3.ns
        have Lf : cenv.locals ∉ ownOf env := fun ha => by
          have halt : @LT.lt Nat _ cenv.locals acc := by obtain ⟨_, o, e⟩ := R1.owned (List.mem_append_left _ ha); exact lt1 e
          rw [cloc] at halt; (first | lia | omega)
        have gL : (hideAll g2 (ownOf env)).get? cenv.locals = none := by
          cases q : (hideAll g2 (ownOf env)).get? cenv.locals with
          | none => rfl
          | some o => have := hideAll_le _ _ _ _ q; rw [R3.newL] at this; cases this
        have R6 : Rel w env (hideAll g2 (ownOf env)) h' loc (fin ++ (acc, .lst (items.filterMap F)) :: cells) := by
          refine Rel.addFins hnd' (fun p hp => ?_) (fun p hp => ?_) R4
          · obtain ⟨h5, h6⟩ := hfin p hp
            refine (h6 _ h3 k4 hst3).up (Le.refl _) fun o e1 => ?_
            exact hfk p.1 (List.mem_map.mpr ⟨p, hp, rfl⟩) o e1
          · obtain ⟨h5, _⟩ := hfin p hp
            refine ⟨?_, (hap _ h5).1, (apIn (items.filterMap F) _ h5).2⟩
            cases q : (hideAll g2 (ownOf env)).get? p.1 with
            | none => rfl
            | some o => have := hideAll_le _ _ _ _ q; rw [hown2 _ h5] at this; cases this
        have nL : cenv.locals ∉ (fin ++ (acc, C.lst (items.filterMap F)) :: cells : Cls).map (·.1) := by
          rw [List.map_append, List.mem_append, not_or]
          refine ⟨fun hm => ?_, R3.notL⟩
          obtain ⟨p, hp, e⟩ := List.mem_map.mp hm
          have := ownLt _ (hfin p hp).1
          rw [e, cloc] at this; (first | lia | omega)
        obtain ⟨o, eo⟩ : ∃ o, h'.get? cenv.locals = some o := by
          obtain ⟨_, o, e⟩ := R3.owned (List.mem_append_left _ (.head _)); exact ⟨o, e⟩
        have R7 := Rel.addCell (c := .it o) R6 eo gL Lf nL
        show wpAny (model PR w) A (assign (.Name x p) env (.ref acc)) (fun _ s'' => ∃ m, s''.heap.Ns cenv.locals m ∧ ∀ h', Heap.SameBut cenv.locals s''.heap h' → Q .none { s'' with heap := h' }) No _
        refine As.name (p := p) (hp acc) hkx A (hideAll g2 (ownOf env)) (.ref acc) hA (S.le ((hg.trans hg1).trans k4)) (.val _) _ { s with heap := h', toks := tk' } _ (Le.refl _) R7 ?_
        rintro _ g8 h8 tk8 l8 c8 hg8 R8 ⟨rfl, rfl⟩
        have e8 : h8.get? cenv.locals = some o := (R8.c.all _ (.head _)).1
        have g8L : g8.get? cenv.locals = none := (R8.c.all _ (.head _)).2 rfl
        refine ⟨mm, (let ⟨o', es, ep, q1, q2⟩ := hnn; ⟨o', es, ep, by rw [e8, ← eo, q1], q2⟩), fun h'' hsb => ?_⟩
        have R9 := (Rel.dropCells (ex := [_]) R8).sameBut hsb g8L Lf nL
        exact hQ acc _ h'' tk8 (hg1.trans (k4.trans hg8)) R9
    | some d =>
      have hlt : i < items.length := (List.getElem?_eq_some_iff.mp hd).1
      have tk : (items.take (i + 1)).filterMap F = (items.take i).filterMap F ++ (F d).toList := by
        rw [List.take_add_one, hd, List.filterMap_append]
        cases q : F d <;> simp [q]
      refine wpAny_mono (It.next i d { s with heap := h3, toks := tk4 } (fun v s₂ => ∃ h' tk', s₂ = { s with heap := h', toks := tk' } ∧ Kept own h3 h' ∧ (∀ g', Le gi g' → NewIn h3 h' g' → Rep g' v d) ∧ St (i + 1) h') hd hst3 (hg2.trans R2.c.sub)
        fun v h' tk' x y z => ⟨h', tk', rfl, x, y, z⟩) ?_ (fun _ _ q => q)
      intro r s₁ hr
      cases r with
      | none => exact hr.elim
      | some v =>
        refine wpAny_mono hr ?_ (fun _ _ q => q)
        rintro _ s₂ ⟨h4, tk5, rfl, hk4, hrep, hst4⟩
        obtain ⟨R4a, _, _, _⟩ := R2.drawn hown2 (apIn _) hk4
        obtain ⟨oc, oc1, oc2, R4b⟩ := Rel.addOwn (own := own) (fun a ha => It.data _ _ hst4 a ha) (fun a ha => ⟨hown2 a ha, (apIn ((items.take i).filterMap F) a ha).1, (apIn ((items.take i).filterMap F) a ha).2⟩) R4a
        have R4 := R4b.top (Le.refl _)
        have kg4 := R4b.le_top (Le.refl _)
        have nw4 : NewIn h3 h4 (Mine.top cenv (oc ++ (acc, .lst ((items.take i).filterMap F)) :: cells) h4) := fun b o e1 e2 => hideAll_get _ e2 fun hm => by
          rcases List.mem_append.mp hm with hm | hm
          · obtain ⟨_, o', e⟩ := R2.owned (List.mem_append_left _ hm); rw [e1] at e; cases e
          · obtain ⟨p, hp, m, rfl⟩ := mem_muts hm
            rcases List.mem_append.mp hp with hp | hp
            · obtain ⟨h, _⟩ := oc1 p hp
              obtain ⟨o', e⟩ := It.data _ _ hst3 _ h
              rw [e1] at e; cases e
            · obtain ⟨_, o', e⟩ := R2.owned (List.mem_append_right _ (mem_muts' hp m)); rw [e1] at e; cases e
        have S4 : Stat w (Mine.top cenv (oc ++ (acc, .lst ((items.take i).filterMap F)) :: cells) h4) := S1.le (hg2.trans kg4)
        obtain ⟨l3, b, hAs, hI3, hT, hb1, hb2⟩ := turn cenv (oc ++ (acc, .lst ((items.take i).filterMap F)) :: cells) (fun p hp => List.mem_append_right _ (.tail _ hp)) ckind cnames gl bl l2 d hI2 (List.mem_of_getElem? hd)
        generalize Mine.top cenv (oc ++ (acc, .lst ((items.take i).filterMap F)) :: cells) h4 = g4 at R4 kg4 nw4 S4
        refine hAs A g4 v hA S4 (hrep _ (hg2.trans kg4) nw4) g4 { s with heap := h4, toks := tk5 } _ (Le.refl _) R4 ?_
        rintro _ g5 h5 tk6 l5 c5 hg5 R5 ⟨rfl, rfl⟩
        refine Tri.use3 (hT.tri hA (S4.le hg5)) (Le.refl _) R5 ?_
        rintro b' g6 h6 tk7 hg6 R6 rfl
        -- the turn's end
        have back : ∀ g9 h9 tk9 ys', Le g4 g9 → ys' = (items.take (i + 1)).filterMap F → Rel w cenv g9 h9 l5 (oc ++ (acc, .lst ys') :: cells) → ∃ m, m < items.length - i ∧ E5 fun i' g' h' tk' l => A8 (({ s with heap := h9, toks := tk9 } : Shared) = { s with heap := h', toks := tk' }) (Le gi g') ((∀ a ∈ own, g'.get? a = none)) (Rel w cenv g' h' l ((acc, .lst ((items.take i').filterMap F)) :: cells)) (InvL l) (St i' h') (i' ≤ items.length) (m = items.length - i') := by
          rintro g9 h9 tk9 ys' k9 rfl R9
          have same : ∀ a ∈ own, ∀ o, h4.get? a = some o → h9.get? a = some o := fun a ha o e => by
            obtain ⟨p, hp, e1⟩ := List.mem_map.mp (oc2 a ha)
            obtain ⟨_, o', e2⟩ := oc1 p hp
            have c1 := (R4b.c.all p (List.mem_append_left _ hp)).1
            have c2 := (R9.c.all p (List.mem_append_left _ hp)).1
            rw [e2, e1] at c1 c2
            have c1' : h4.get? a = some o' := c1
            rw [e] at c1'; cases c1'
            exact c2
          have hown9 : ∀ a ∈ own, g9.get? a = none := fun a ha => by
            obtain ⟨p, hp, e1⟩ := List.mem_map.mp (oc2 a ha)
            obtain ⟨_, o', e2⟩ := oc1 p hp
            rw [← e1]
            exact (R9.c.all p (List.mem_append_left _ hp)).2 (by rw [e2]; rfl)
          have R10 := Rel.dropCells R9
          have kg10 : Le gi g9 := hg2.trans (kg4.trans k9)
          exact ⟨items.length - (i + 1), by (first | lia | omega), i + 1, g9, h9, tk9, l5, rfl, kg10, hown9, R10, hI3, It.stay _ _ _ hst4 same (kg10.trans R10.c.sub), hlt, rfl⟩
        cases b' with
        | false =>
          simp only [Bool.false_eq_true, if_false]
          exact back g6 h6 tk7 _ (hg5.trans hg6) (by rw [tk, hb2 rfl]; simp) R6
        | true =>
          simp only [if_true]
          obtain ⟨e, hF, hE⟩ := hb1 rfl
          refine Tri.use3 (hE A g6 hA (S4.le (hg5.trans hg6))) (Le.refl _) R6 ?_
          rintro x g7 h7 tk8 hg7 R7 rx
          have hc := R7.c.all (acc, .lst ((items.take i).filterMap F)) (List.mem_append_right _ (.head _))
          obtain ⟨⟨vs, nn, ho, hr⟩, ga⟩ := hc
          have hln : vs.length ≤ items.length := by
            rw [hr.length]
            exact Nat.le_trans (List.length_filterMap_le _ _) (by rw [List.length_take]; (first | lia | omega))
          refine wpAny_list_append_plain ⟨nn, ho⟩ (fun h8 hp8 hs8 => ?_) (by rw [List.size_toArray]; (first | lia | omega))
          obtain ⟨n8, e8⟩ := hp8
          have R8 := Rel.setCell (pre := oc) (c' := .lst ((items.take i).filterMap F ++ [e])) R7 ⟨vs ++ [x], n8, by rw [e8]; simp, RepAll.append (.cons rx .nil) hr⟩ rfl hs8
          exact back g7 h8 tk8 _ ((hg5.trans hg6).trans hg7) (by rw [tk, hF]; rfl) R8
  refine codeAny_compStart_list (loop _ ⟨tk1, rfl⟩) ?_
  exact wpAny_mono (It.self 0 { s with heap := h2, toks := tk1 } (fun v s' => v = it ∧ s' = { s with heap := h2, toks := tk1 }) hst2 (kgi.trans giSub |> fun _ => giSub) ⟨rfl, rfl⟩) (fun v s' ⟨e1, e2⟩ => by rw [e1, e2]; exact loop _ ⟨tk1, rfl⟩) (fun _ _ q => q.elim)

theorem Ex.assignComp {x : Str} {p : Pos} {spos : Pos} {loc' : Addr → Loc} {w : World} {env : Env} {k : Nat} {loc : Loc} {cells0 cells : Cls} {fin : Fins} {elt target iter : Expr} {ifs : List Expr} {scope : Scope} {pos : Pos} {items : List D} {P : Post} (locIn : Loc) (InvL : Loc → Prop) (F : D → Option D)
    (hi : ItZ w env k loc cells0 cells fin target iter items) (hio : InnerOk env scope loc locIn) (hin : InvL locIn)
    (hcap : ∀ l, InvL l → ∀ p ∈ locIn, scope.names.lookup p.1 = some .free → p ∈ l)
    (turn : ∀ cenv c, (∀ p ∈ cells, p ∈ c) → cenv.scope.kind = .function → cenv.scope.names = nmOf scope.names → cenv.globals = mainGlobals → cenv.builtins = builtinsNs → ∀ l d, InvL l → d ∈ items → ∃ l1 b, As w cenv k l c target d l1 ∧ InvL l1 ∧ Tests w cenv k l1 c ifs b ∧
      (b = true → ∃ e, F d = some e ∧ Ev w cenv k l1 c elt e) ∧ (b = false → F d = none))
    (hnd' : (fin.map (·.1)).Nodup) (hsz : items.length + 1 ≤ sizeLine) (hp : ∀ a, Put x (.val (.ref a)) loc (loc' a)) (hkx : env.kindOf x ≠ some .free)
    (hP : ∀ a, P .next (loc' a) (fin ++ (a, .lst (items.filterMap F)) :: cells))
    (hsw : swapsWith (.ListComp elt [⟨target, iter, ifs, 0⟩] scope pos) (some (.Name x p)) spos.line env = pure true) (hs : ∀ x, foldedSetIterable iter env x = pure x := by intro _; rfl) :
    Ex w env k loc cells0 (.Assign [.Name x p] (.ListComp elt [⟨target, iter, ifs, 0⟩] scope pos) spos) P := by
  intro A g₀ hA S g s Q hg Rl hQ
  rw [exec_Assign_Name_used x p _ spos hsw]
  refine wpAny_bind (wpAny_standAt (wpAny_bind ?_))
  unfold evalThenUse
  refine wpAny_bind (Comp.use locIn InvL F hi hio hin hcap turn hnd' hsz hp hkx hs A g₀ hA S g _ _ hg Rl fun a g' h' tk' x y => ?_)
  refine wpAny_pure (wpAny_pure ?_)
  exact hQ _ g' h' tk' _ _ x y ⟨.next, trivial, hP a⟩
end
/-! H1 -/
section
set_option maxHeartbeats 1000000
/-! the heap, in plain lists -/
structure SWO (lt : D → D → Bool) (P : D → Prop) : Prop where
  asymm : ∀ x y, P x → P y → lt x y = true → lt y x = false
  neg : ∀ x y z, P x → P y → P z → lt x y = false → lt y z = false → lt x z = false
noncomputable def Hp (lt : D → D → Bool) (pos q : Nat) (ds : List D) : Prop := ∀ i, 0 < i → i ≠ q → (i - 1) / 2 ≠ q → pos ≤ (i - 1) / 2 → ∀ x y, ds[i]? = some x → ds[(i - 1) / 2]? = some y → lt x y = false
noncomputable def Gp (lt : D → D → Bool) (pos q : Nat) (ds : List D) : Prop := 0 < q → pos ≤ (q - 1) / 2 → ∀ c, (c = 2 * q + 1 ∨ c = 2 * q + 2) → ∀ x y, ds[c]? = some x → ds[(q - 1) / 2]? = some y → lt x y = false
noncomputable def Heap1 (lt : D → D → Bool) (pos : Nat) (ds : List D) : Prop := ∀ i, 0 < i → pos ≤ (i - 1) / 2 → ∀ x y, ds[i]? = some x → ds[(i - 1) / 2]? = some y → lt x y = false
inductive Below (pos : Nat) : Nat → Prop
  | refl : Below pos pos
  | l {q : Nat} : Below pos q → Below pos (2 * q + 1)
  | r {q : Nat} : Below pos q → Below pos (2 * q + 2)
theorem Below.le {pos q : Nat} (h : Below pos q) : pos ≤ q := by induction h <;> (first | lia | omega)
theorem Below.up {pos q : Nat} (h : Below pos q) (hl : pos < q) : Below pos ((q - 1) / 2) := by
  cases h with
  | refl => (first | lia | omega)
  | @l q h => rw [show (2 * q + 1 - 1) / 2 = q by (first | lia | omega)]; exact h
  | @r q h => rw [show (2 * q + 2 - 1) / 2 = q by (first | lia | omega)]; exact h
section
variable {lt : D → D → Bool} {P : D → Prop} {pos : Nat} {new : D}
theorem getP {ds : List D} (hP : ∀ d ∈ ds, P d) {i : Nat} {x : D} (h : ds[i]? = some x) : P x := hP _ (List.mem_of_getElem? h)
theorem set_at {ds : List D} {q : Nat} {new x : D} {i : Nat} (h : (ds.set q new)[i]? = some x) : (i = q ∧ x = new) ∨ (i ≠ q ∧ ds[i]? = some x) := by
  rw [List.getElem?_set] at h
  split at h
  · rename_i e
    split at h
    · exact .inl ⟨e.symm, (Option.some.inj h).symm⟩
    · cases h
  · rename_i e
    exact .inr ⟨fun q => e q.symm, h⟩
theorem place {ds : List D} {q : Nat} (h : Hp lt pos q ds) (hc : ∀ c, (c = 2 * q + 1 ∨ c = 2 * q + 2) → ∀ x, ds[c]? = some x → lt x new = false)
    (hu : pos < q → ∀ y, ds[(q - 1) / 2]? = some y → lt new y = false) : Heap1 lt pos (ds.set q new) := by
  intro i hi hp x y hx hy
  rcases set_at hx with ⟨e, rfl⟩ | ⟨e, hx⟩
  · subst e
    rcases set_at hy with ⟨e2, _⟩ | ⟨e2, hy⟩
    · (first | lia | omega)
    · exact hu (by (first | lia | omega)) y hy
  · rcases set_at hy with ⟨e2, e3⟩ | ⟨e2, hy⟩
    · rw [e3]; exact hc i (by (first | lia | omega)) x hx
    · exact h i hi e e2 hp x y hx hy
theorem SWO.irrefl (O : SWO lt P) {x : D} (h : P x) : lt x x = false := by
  cases e : lt x x with
  | false => rfl
  | true => rw [O.asymm x x h h e] at e; cases e
theorem sd_heap (O : SWO lt P) : ∀ (f q : Nat) (ds : List D), (∀ d ∈ ds, P d) → P new → q < ds.length → Below pos q → q ≤ f → Hp lt pos q ds → Gp lt pos q ds →
    (∀ c, (c = 2 * q + 1 ∨ c = 2 * q + 2) → ∀ x, ds[c]? = some x → lt x new = false) → Heap1 lt pos (sd lt new pos f q ds) := by
  intro f
  induction f with
  | zero =>
    intro q ds hP hn hq hb hf h g hc
    rw [sd]
    exact place h hc (fun hl => by (first | lia | omega))
  | succ f ih =>
    intro q ds hP hn hq hb hf h g hc
    rw [sd]
    by_cases hl : pos < q
    · rw [if_pos hl]
      have hpl : (q - 1) / 2 < ds.length := by (first | lia | omega)
      have hpar : ds[(q - 1) / 2]? = some ds[(q - 1) / 2] := by simp [hpl]
      rw [hpar]
      dsimp only
      have Pp := getP hP hpar
      cases e : lt new ds[(q - 1) / 2] with
      | false =>
        rw [if_neg Bool.false_ne_true]
        exact place h hc fun _ y hy => by rw [hpar] at hy; cases hy; exact e
      | true =>
        rw [if_pos rfl]
        have hup := hb.up hl
        have hup' := hup.le
        have e' := O.asymm _ _ hn Pp e
        refine ih _ _ (fun d hd => ?_) hn (by rw [List.length_set]; exact hpl) hup (by (first | lia | omega)) ?_ ?_ ?_
        · rcases List.mem_or_eq_of_mem_set hd with hd | rfl
          · exact hP d hd
          · exact Pp
        · -- Hp
          intro i hi i1 i2 i3 x y hx hy
          rcases set_at hx with ⟨e1, rfl⟩ | ⟨e1, hx⟩
          · subst e1; (first | lia | omega)
          · rcases set_at hy with ⟨e2, rfl⟩ | ⟨e2, hy⟩
            · exact g (by (first | lia | omega)) hup' i (by (first | lia | omega)) x _ hx hpar
            · exact h i hi e1 e2 i3 x y hx hy
        · -- Gp
          intro i1 i2 c hc' x y hx hy
          rcases set_at hy with ⟨e2, _⟩ | ⟨e2, hy⟩
          · (first | lia | omega)
          · rcases set_at hx with ⟨e1, rfl⟩ | ⟨e1, hx⟩
            · exact h _ i1 (by (first | lia | omega)) (by (first | lia | omega)) i2 _ y hpar hy
            · have h1 : lt x ds[(q - 1) / 2] = false := by
                refine h c (by (first | lia | omega)) e1 (by (first | lia | omega)) (by (first | lia | omega)) x _ hx ?_
                rw [show (c - 1) / 2 = (q - 1) / 2 by (first | lia | omega)]; exact hpar
              have h2 : lt ds[(q - 1) / 2] y = false := h _ i1 (by (first | lia | omega)) (by (first | lia | omega)) i2 _ y hpar hy
              exact O.neg _ _ _ (getP hP hx) Pp (getP hP hy) h1 h2
        · intro c hc' x hx
          rcases set_at hx with ⟨e1, rfl⟩ | ⟨e1, hx⟩
          · exact e'
          · have h1 : lt x ds[(q - 1) / 2] = false := by
              refine h c (by (first | lia | omega)) e1 (by (first | lia | omega)) (by (first | lia | omega)) x _ hx ?_
              rw [show (c - 1) / 2 = (q - 1) / 2 by (first | lia | omega)]; exact hpar
            exact O.neg _ _ _ (getP hP hx) Pp hn h1 e'
    · rw [if_neg hl]
      exact place h hc (fun hl' => absurd hl' hl)
theorem hole_swap {ds : List D} {i j : Nat} {x : D} (hij : i ≠ j) (hi : i < ds.length) (hx : ds[j]? = some x) : ((ds.set i x).set j new).Perm (ds.set i new) := by
  have hj : j < ds.length := (List.getElem?_eq_some_iff.mp hx).1
  have hx' : ds[j] = x := (List.getElem?_eq_some_iff.mp hx).2
  have := List.set_set_perm (as := ds.set i new) (i := i) (j := j) (by simpa using hi) (by simpa using hj)
  have e1 : (ds.set i new)[j]'(by simpa using hj) = x := by rw [List.getElem_set_ne hij]; exact hx'
  have e2 : (ds.set i new)[i]'(by simpa using hi) = new := by simp
  rw [e1, e2, List.set_set] at this
  exact this
theorem sd_perm : ∀ (f q : Nat) (ds : List D), q < ds.length → (sd lt new pos f q ds).Perm (ds.set q new) := by
  intro f
  induction f with
  | zero => intro q ds _; rw [sd]
  | succ f ih =>
    intro q ds hq
    rw [sd]
    split
    · split
      · rename_i hl par hpar
        split
        · exact (ih _ _ (by rw [List.length_set]; (first | lia | omega))).trans (hole_swap (by (first | lia | omega)) hq hpar)
        · exact .refl _
      · exact .refl _
    · exact .refl _
theorem set_self {ds : List D} {q : Nat} {x : D} (h : ds[q]? = some x) : ds.set q x = ds := by
  obtain ⟨h1, rfl⟩ := List.getElem?_eq_some_iff.mp h
  exact List.set_getElem_self _
theorem siftdown_perm {ds : List D} {q : Nat} : (siftdown lt ds pos q).Perm ds := by
  unfold siftdown
  split
  · rename_i new hn
    have := sd_perm (lt := lt) (new := new) (pos := pos) q q ds (List.getElem?_eq_some_iff.mp hn).1
    rw [set_self hn] at this
    exact this
  · exact .refl _
theorem childOf_is {ds : List D} {q : Nat} (h : 2 * q + 1 < ds.length) : childOf lt ds q = 2 * q + 1 ∨ childOf lt ds q = 2 * q + 2 := by
  unfold childOf
  split
  · split
    · split
      · exact .inl rfl
      · exact .inr rfl
    · exact .inl rfl
  · exact .inl rfl
theorem childOf_min (O : SWO lt P) {ds : List D} (hP : ∀ d ∈ ds, P d) {q : Nat} {x z : D} {i : Nat} (hx : ds[childOf lt ds q]? = some x) (hz : ds[i]? = some z) (hi : i = 2 * q + 1 ∨ i = 2 * q + 2) (hne : i ≠ childOf lt ds q) : lt z x = false := by
  unfold childOf at hx hne
  split at hx
  · rename_i h2
    rw [if_pos h2] at hne
    have x1 : ds[2 * q + 1]? = some ds[2 * q + 1] := by simp
    have x2 : ds[2 * q + 1 + 1]? = some ds[2 * q + 1 + 1] := by simp [h2]
    rw [x1, x2] at hx hne
    dsimp only at hx hne
    cases e : lt ds[2 * q + 1] ds[2 * q + 1 + 1] with
    | true =>
      rw [e] at hx hne
      rw [if_pos rfl] at hx hne
      rw [x1] at hx; cases hx
      obtain rfl : i = 2 * q + 1 + 1 := by (first | lia | omega)
      rw [x2] at hz; cases hz
      exact O.asymm _ _ (getP hP x1) (getP hP x2) e
    | false =>
      rw [e] at hx hne
      rw [if_neg Bool.false_ne_true] at hx hne
      rw [x2] at hx; cases hx
      obtain rfl : i = 2 * q + 1 := by (first | lia | omega)
      rw [x1] at hz; cases hz
      exact e
  · rename_i h2
    rw [if_neg h2] at hne
    obtain rfl : i = 2 * q + 2 := by (first | lia | omega)
    have := (List.getElem?_eq_some_iff.mp hz).1
    (first | lia | omega)
theorem su_spec (O : SWO lt P) : ∀ (f q : Nat) (ds : List D), (∀ d ∈ ds, P d) → q < ds.length → ds.length - q ≤ f → Below pos q → Hp lt pos q ds → Gp lt pos q ds →
    (su lt f q ds).1 < ds.length ∧ Below pos (su lt f q ds).1 ∧ Hp lt pos (su lt f q ds).1 (su lt f q ds).2 ∧ Gp lt pos (su lt f q ds).1 (su lt f q ds).2 ∧ ds.length ≤ 2 * (su lt f q ds).1 + 1 ∧ ∀ new, ((su lt f q ds).2.set (su lt f q ds).1 new).Perm (ds.set q new) := by
  intro f
  induction f with
  | zero => intro q ds _ hq hf; (first | lia | omega)
  | succ f ih =>
    intro q ds hP hq hf hb h g
    rw [su]
    by_cases hc : 2 * q + 1 < ds.length
    · rw [if_pos hc]
      obtain ⟨c1, c2⟩ := childOf_cases lt ds q hc
      have cis := childOf_is (lt := lt) (ds := ds) hc
      have hx : ds[childOf lt ds q]? = some ds[childOf lt ds q] := by simp [c2]
      have mn := fun i z => childOf_min (z := z) (i := i) O hP hx
      generalize childOf lt ds q = c at *
      rw [hx]
      dsimp only
      have hb' : Below pos c := by
        rcases cis with rfl | rfl
        · exact hb.l
        · exact hb.r
      have := hb.le
      obtain ⟨r1, r2, r3, r4, r5, r6⟩ := ih c (ds.set q ds[c]) (fun d hd => by
          rcases List.mem_or_eq_of_mem_set hd with hd | rfl
          · exact hP d hd
          · exact getP hP hx) (by simpa using c2) (by rw [List.length_set]; (first | lia | omega)) hb' (by
          intro i hi i1 i2 i3 x y hx' hy'
          rcases set_at hx' with ⟨e1, rfl⟩ | ⟨e1, hx'⟩
          · subst e1
            rcases set_at hy' with ⟨e2, _⟩ | ⟨e2, hy'⟩
            · (first | lia | omega)
            · exact g hi i3 c cis _ y hx hy'
          · rcases set_at hy' with ⟨e2, rfl⟩ | ⟨e2, hy'⟩
            · exact mn i x hx' (by (first | lia | omega)) i1
            · exact h i hi e1 e2 i3 x y hx' hy') (by
          intro i1 i2 d hd x y hx' hy'
          have ep : (c - 1) / 2 = q := by (first | lia | omega)
          rcases set_at hy' with ⟨e2, rfl⟩ | ⟨e2, hy'⟩
          · rcases set_at hx' with ⟨e1, _⟩ | ⟨e1, hx'⟩
            · (first | lia | omega)
            · refine h d (by (first | lia | omega)) e1 (by (first | lia | omega)) (by (first | lia | omega)) x _ hx' ?_
              rw [show (d - 1) / 2 = c by (first | lia | omega)]; exact hx
          · exact absurd ep e2)
      rw [List.length_set] at r1 r5
      exact ⟨r1, r2, r3, r4, r5, fun new => (r6 new).trans (hole_swap (by (first | lia | omega)) hq hx)⟩
    · rw [if_neg hc]
      exact ⟨hq, hb, h, g, by (first | lia | omega), fun new => .refl _⟩
theorem siftup_perm {ds : List D} : (siftup lt ds pos).Perm ds := by
  unfold siftup
  split
  · rename_i new hn
    have hq := (List.getElem?_eq_some_iff.mp hn).1
    refine siftdown_perm.trans ?_
    -- the order is of no matter here
    have key : ∀ (f q : Nat) (ds : List D), q < ds.length → ((su lt f q ds).2.set (su lt f q ds).1 new).Perm (ds.set q new) := by
      intro f
      induction f with
      | zero => intro q ds _; rw [su]
      | succ f ih =>
        intro q ds hq
        rw [su]
        split
        · rename_i hc
          obtain ⟨c1, c2⟩ := childOf_cases lt ds q hc
          split
          · rename_i x hx
            exact (ih _ _ (by simpa using c2)).trans (hole_swap (by (first | lia | omega)) hq hx)
          · exact .refl _
        · exact .refl _
    have := key (ds.length - pos) pos ds hq
    rw [set_self hn] at this
    exact this
  · exact .refl _
theorem siftup_heap (O : SWO lt P) {ds : List D} (hP : ∀ d ∈ ds, P d) (hq : pos < ds.length) (h : Heap1 lt (pos + 1) ds) : Heap1 lt pos (siftup lt ds pos) := by
  have hn : ds[pos]? = some ds[pos] := by simp [hq]
  unfold siftup
  rw [hn]
  dsimp only
  obtain ⟨r1, r2, r3, r4, r5, r6⟩ := su_spec (pos := pos) O (ds.length - pos) pos ds hP hq (Nat.le_refl _) .refl (fun i hi i1 i2 i3 x y hx hy => h i hi (by (first | lia | omega)) x y hx hy) (fun i1 i2 => by (first | lia | omega))
  have hm := su_mem (lt := lt) (P := P) (ds.length - pos) pos ds hP
  have hl := su_length (lt := lt) (ds.length - pos) pos ds
  generalize su lt (ds.length - pos) pos ds = r at *
  obtain ⟨q, fs⟩ := r
  dsimp only at *
  have hPn := getP hP hn
  have hs : (fs.set q ds[pos])[q]? = some ds[pos] := by rw [List.getElem?_set]; simp [hl, r1]
  unfold siftdown
  rw [hs]
  dsimp only
  have ms : ∀ d ∈ fs.set q ds[pos], P d := fun d hd => by
    rcases List.mem_or_eq_of_mem_set hd with hd | rfl
    · exact hm d hd
    · exact hPn
  refine sd_heap O q q _ ms hPn (by rw [List.length_set, hl]; exact r1) r2 (Nat.le_refl _) ?_ ?_ ?_
  · intro i hi i1 i2 i3 x y hx hy
    rcases set_at hx with ⟨e, _⟩ | ⟨_, hx⟩
    · exact absurd e i1
    rcases set_at hy with ⟨e, _⟩ | ⟨_, hy⟩
    · exact absurd e i2
    exact r3 i hi i1 i2 i3 x y hx hy
  · intro i1 i2 c hc x y hx hy
    rcases set_at hx with ⟨e, _⟩ | ⟨_, hx⟩
    · (first | lia | omega)
    have := (List.getElem?_eq_some_iff.mp hx).1
    (first | lia | omega)
  · intro c hc x hx
    have := (List.getElem?_eq_some_iff.mp hx).1
    rw [List.length_set] at this
    (first | lia | omega)
theorem hfy_mem {n : Nat} : ∀ {ds : List D}, (∀ d ∈ ds, P d) → ∀ d ∈ hfy lt n ds, P d := by
  induction n with
  | zero => intro ds h; exact h
  | succ n ih => intro ds h; rw [hfy]; exact ih (siftup_mem h)
theorem hfy_perm {n : Nat} : ∀ {ds : List D}, (hfy lt n ds).Perm ds := by
  induction n with
  | zero => intro ds; exact .refl _
  | succ n ih => intro ds; rw [hfy]; exact ih.trans siftup_perm
theorem hfy_heap (O : SWO lt P) {n : Nat} : ∀ {ds : List D}, (∀ d ∈ ds, P d) → n ≤ ds.length → Heap1 lt n ds → Heap1 lt 0 (hfy lt n ds) := by
  induction n with
  | zero => intro ds h _ hh; exact hh
  | succ n ih =>
    intro ds h hn hh
    rw [hfy]
    exact ih (siftup_mem h) (by rw [siftup_length]; (first | lia | omega)) (siftup_heap O h (by (first | lia | omega)) hh)
theorem heapify_ok (O : SWO lt P) {ds : List D} (h : ∀ d ∈ ds, P d) : Heap1 lt 0 (hfy lt (ds.length / 2) ds) ∧ (hfy lt (ds.length / 2) ds).Perm ds :=
  ⟨hfy_heap O h (by (first | lia | omega)) (fun i hi hp x y hx hy => by have := (List.getElem?_eq_some_iff.mp hx).1; (first | lia | omega)), hfy_perm⟩
theorem heap_root (O : SWO lt P) {ds : List D} (hP : ∀ d ∈ ds, P d) (h : Heap1 lt 0 ds) {x : D} (hx : ds[0]? = some x) : ∀ (i : Nat) (y : D), ds[i]? = some y → lt y x = false := by
  intro i
  induction i using Nat.strongRecOn with
  | _ i ih =>
    intro y hy
    by_cases e : i = 0
    · subst e; rw [hx] at hy; cases hy; exact O.irrefl (getP hP hx)
    · have hl := (List.getElem?_eq_some_iff.mp hy).1
      have hp : ds[(i - 1) / 2]? = some (ds[(i - 1) / 2]'(by (first | lia | omega))) := by simp
      exact O.neg _ _ _ (getP hP hy) (getP hP hp) (getP hP hx) (h i (by (first | lia | omega)) (Nat.zero_le _) y _ hy hp) (ih _ (by (first | lia | omega)) _ hp)
theorem heap_pop {x last : D} {rs : List D} (h : Heap1 lt 0 (x :: rs ++ [last])) : Heap1 lt 1 (last :: rs) := by
  intro i hi hp a b ha hb
  obtain ⟨j, rfl⟩ : ∃ j, i = j + 1 := ⟨i - 1, by (first | lia | omega)⟩
  obtain ⟨m, hm⟩ : ∃ m, (j + 1 - 1) / 2 = m + 1 := ⟨(j + 1 - 1) / 2 - 1, by (first | lia | omega)⟩
  rw [List.getElem?_cons_succ] at ha
  rw [hm, List.getElem?_cons_succ] at hb
  have la := (List.getElem?_eq_some_iff.mp ha).1
  have lb := (List.getElem?_eq_some_iff.mp hb).1
  refine h (j + 1) hi (Nat.zero_le _) a b ?_ ?_
  · rw [List.cons_append, List.getElem?_cons_succ, List.getElem?_append_left la]; exact ha
  · rw [hm, List.cons_append, List.getElem?_cons_succ, List.getElem?_append_left lb]; exact hb
end
end
/-! F30 -/
section
set_option maxHeartbeats 1000000
/-! map: what the library lacks -/
theorem owner_map : Manifest.owners.lookup (String.ofList ['p', 'a', 'm'].reverse) = some Manifest.sig_map := by kernel_rfl
theorem slot_map_next : Slot "map" "__next__" "map.__next__" :=
  .of (owner := "map") (n := "__next__") (by rw [typeLookup_type, builtinLookup_eq_fast]; kernel_rfl) (by decide +kernel) (by decide +kernel) (by decide +kernel)
    (by first | exact .inl (by decide +kernel) | exact .inr (by decide +kernel)) (by rw [isSubtype_type]; kernel_rfl)
theorem slot_map_iter : Slot "map" "__iter__" "map.__iter__" :=
  .of (owner := "map") (n := "__iter__") (by rw [typeLookup_type, builtinLookup_eq_fast]; kernel_rfl) (by decide +kernel) (by decide +kernel) (by decide +kernel)
    (by first | exact .inl (by decide +kernel) | exact .inr (by decide +kernel)) (by rw [isSubtype_type]; kernel_rfl)
theorem slot_map_init : Slot "map" "__init__" "object.__init__" :=
  .of (owner := "object") (n := "__init__") (by rw [typeLookup_type, builtinLookup_eq_fast]; kernel_rfl) (by decide +kernel) (by decide +kernel) (by decide +kernel)
    (by first | exact .inl (by decide +kernel) | exact .inr (by decide +kernel)) (by rw [isSubtype_type]; kernel_rfl)
theorem entry_map_next : entryFor table "map.__next__" = some Builtin.«map.__next__» := entryFor_of_tree (by kernel_rfl)
theorem entry_map_new : entryFor table "map.__new__" = some Builtin.«map.__new__» := entryFor_of_tree (by kernel_rfl)
theorem entry_map_iter : entryFor table "map.__iter__" = some Builtin.«dict_keyiterator.__iter__» :=
  entryFor_alias (id' := "dict_keyiterator.__iter__") (by kernel_rfl) (by first | rfl | decide +kernel | (unfold String.splitOn; simp +decide [String.splitOnAux])) (by decide +kernel) (by kernel_rfl)
theorem args_map_next_1 (a : Value) : argsOk "map.__next__" ⟨[a], []⟩ := by
  unfold argsOk; rw [signature?_of (id := "map.__next__") (n := ['_', '_', 't', 'x', 'e', 'n', '_', '_']) (o := ['p', 'a', 'm']) (by kernel_rfl) owner_map]; kernel_rfl
theorem args_map_iter_1 (a : Value) : argsOk "map.__iter__" ⟨[a], []⟩ := by
  unfold argsOk; rw [signature?_of (id := "map.__iter__") (n := ['_', '_', 'r', 'e', 't', 'i', '_', '_']) (o := ['p', 'a', 'm']) (by kernel_rfl) owner_map]; kernel_rfl
theorem mro_map : mroOf (.type "map") = pure [.type "map", .type "object"] := by rw [mroOf_type]; kernel_rfl
theorem lookup_map_new : typeLookup (.type "map") "__new__" = pure (some (.builtin "map.__new__")) := by rw [typeLookup_type, builtinLookup_eq_fast]; kernel_rfl
theorem called_map : TypeCalled "map" "map.__new__" "object.__init__" :=
  ⟨by decide +kernel, by decide +kernel, ⟨_, _, mro_map⟩, madeBy_type mro_map lookup_map_new (by decide +kernel), by decide +kernel, by rw [isSubtype_type]; kernel_rfl, slot_map_init⟩
theorem typeCall_map_2 (a b : Value) : checkTypeCall "map" ⟨[a, b], []⟩ = pure () := by kernel_rfl
theorem newCall_map_2 (a b : Value) : checkBuiltinCall "map.__new__" ⟨[.type "map", a, b], []⟩ = pure () := by kernel_rfl
theorem sub_map : isSubtype (.type "map") (.type "map") = pure true := by rw [isSubtype_type]; kernel_rfl
theorem map_no_len : typeLookup (.type "map") "__len__" = pure none := by rw [typeLookup_type, builtinLookup_eq_fast]; kernel_rfl
theorem map_no_hint : typeLookup (.type "map") "__length_hint__" = pure none := by rw [typeLookup_type, builtinLookup_eq_fast]; kernel_rfl

noncomputable abbrev IsMap (h : Heap) (m TI : Addr) (f : Value) : Prop := h.get? m = some { cls := .type "map", data := .fields #[.ref TI, f] }
noncomputable abbrev IsOne (h : Heap) (T : Addr) (a : Value) : Prop := h.get? T = some { cls := .type "tuple", data := .seq #[a] }
noncomputable abbrev mpH1 (h : Heap) (l : Addr) : Heap := h.push { cls := .type "list_iterator", data := .fields #[.ref l, .int 0 0] }
noncomputable abbrev mpH2 (h : Heap) (l : Addr) : Heap := (mpH1 h l).push { cls := .type "tuple", data := .seq #[.ref h.objs.size] }
noncomputable abbrev mpH3 (h : Heap) (l : Addr) (f : Value) : Heap := (mpH2 h l).push { cls := .type "map", data := .fields #[.ref (mpH1 h l).objs.size, f] }
theorem meets_map_new (f : Value) (l : Addr) (xs : Array Value) :
    Meets (Builtin.«map.__new__» ⟨[.type "map", f, .ref l], []⟩) (fun _ R s => s.heap.IsList l xs ∧
      R (.ok (.ret (.ref (mpH2 s.heap l).objs.size))) { s with heap := mpH3 s.heap l f }) :=
  .of_wp fun prog w A R s h => by
    obtain ⟨hp, g, d, tk, os⟩ := s; obtain ⟨hl1, h⟩ := h
    have hsub := sub_map
    have hL1 : Heap.IsList (Shared.heap ⟨hp, g, d, tk, os⟩) l xs := hl1
    wp_walk using wpAny_pyIter_list hL1
    exact ⟨_, rfl, h⟩
section
variable {w : World} {A : Around} {s : Shared}
theorem call_map {f : Value} {l : Addr} {xs : Array Value} {Q : Value → Shared → Prop} (hl : s.heap.IsList l xs)
    (h : Q (.ref (mpH2 s.heap l).objs.size) { s with heap := mpH3 s.heap l f }) : wpAny (model PR w) A (call (.type "map") [f, .ref l]) Q No s := by
  refine callType_new called_map (by decide) (typeCall_map_2 _ _) (newCall_map_2 _ _) (fun obj => F.args_object_init_3 obj _ _) entry_map_new
    (meets_map_new f l xs) ⟨hl, ⟨_, Heap.get?_push_size _ rfl, rfl⟩, h⟩
theorem map_next_item {m TI it l : Addr} {k : Nat} {f v : Value} {xs : Array Value} {Q : Value → Shared → Prop} (hm : IsMap s.heap m TI f) (hTI : IsOne s.heap TI (.ref it)) (hit : s.heap.IsListIter it l k) (hl : s.heap.IsList l xs) (hx : xs[k]? = some v) (h1 : m ≠ it)
    (hc : ∀ h', h'.IsListIter it l (k + 1) → Heap.SameBut it s.heap h' → wpAny (model PR w) A (call f [v]) (fun r s' => Q r s') No { s with heap := h' }) :
    wpAny (model PR w) A (Builtin.«map.__next__» ⟨[.ref m], []⟩) (fun fin s' => ∃ v, fin = .done (.ret v) ∧ Q v s') No s := by
  show wpAny _ _ (field (.ref m) 0 >>= _) _ _ _
  refine wpAny_bind (wpAny_field hm rfl (x := .ref TI) rfl ?_)
  refine wpAny_bind (wpAny_seqItems hTI rfl ?_)
  refine wpAny_bind ?_
  refine wpAny_bind ?_
  refine wpAny_bind (wpAny_holding ?_)
  refine wpAny_nextOf_list_item hit hl hx fun h' h1' hs => ?_
  refine wpAny_pure (wpAny_pure ?_)
  refine wpAny_bind ?_
  refine wpAny_field (hs.extBut _ _ h1 hm) rfl (x := f) rfl ?_
  refine wpAny_bind (wpAny_holding (wpAny_mono (hc h' h1' hs) (fun r s' q => ?_) fun _ _ q => q))
  exact wpAny_bind (wpAny_letGo (wpAny_pure ⟨r, rfl, q⟩))
theorem map_next_end {m TI it l : Addr} {k : Nat} {f : Value} {xs : Array Value} {Q : PySem.Fin → Shared → Prop} {E : Value → Shared → Prop} (hh : A.handled = none) (hm : IsMap s.heap m TI f) (hTI : IsOne s.heap TI (.ref it)) (hit : s.heap.IsListIter it l k) (hl : s.heap.IsList l xs) (hx : xs[k]? = none)
    (hE : ∀ h' e, Heap.ExtBut it s.heap h' → (∃ o, h'.get? e = some o ∧ o.cls = .type "StopIteration") → E (.ref e) { s with heap := h' }) :
    wpAny (model PR w) A (Builtin.«map.__next__» ⟨[.ref m], []⟩) Q E s := by
  show wpAny _ _ (field (.ref m) 0 >>= _) _ _ _
  refine wpAny_bind (wpAny_field hm rfl (x := .ref TI) rfl ?_)
  refine wpAny_bind (wpAny_seqItems hTI rfl ?_)
  refine wpAny_bind ?_
  refine wpAny_bind ?_
  refine wpAny_bind (wpAny_holding ?_)
  exact wpAny_nextOf_list_end hh hit hl hx hE
theorem pyNext_map_item {m TI it l : Addr} {k : Nat} {f v : Value} {xs : Array Value} {Q : Option Value → Shared → Prop} (hm : IsMap s.heap m TI f) (hTI : IsOne s.heap TI (.ref it)) (hit : s.heap.IsListIter it l k) (hl : s.heap.IsList l xs) (hx : xs[k]? = some v) (h1 : m ≠ it)
    (hc : ∀ h', h'.IsListIter it l (k + 1) → Heap.SameBut it s.heap h' → wpAny (model PR w) A.in1 (call f [v]) (fun r s' => Q (some r) s') No { s with heap := h' }) :
    wpAny (model PR w) A (pyNext (.ref m)) Q No s := by
  have hT : s.TypeIs (.ref m) "map" := ⟨_, hm, rfl⟩
  unfold pyNext
  refine wpAny_bind (wpAny_attempt (wpAny_callSpecial?_slot (name := Str.ofString "__next__") hT slot_map_next
    (wpAny_call_entry slot_map_next hT entry_map_next (wpAny_mono (map_next_item hm hTI hit hl hx h1 fun h' a b => hc h' a b) (fun fin s' ⟨v, e, q⟩ => ⟨v, e, wpAny_pure q⟩) fun _ _ q => q.elim) (args_map_next_1 _))))
theorem pyNext_map_end {m TI it l : Addr} {k : Nat} {f : Value} {xs : Array Value} {Q : Option Value → Shared → Prop} {E : Value → Shared → Prop} (hh : A.handled = none) (hm : IsMap s.heap m TI f) (hTI : IsOne s.heap TI (.ref it)) (hit : s.heap.IsListIter it l k) (hl : s.heap.IsList l xs) (hx : xs[k]? = none)
    (hQ : ∀ h', Heap.ExtBut it s.heap h' → Q none { s with heap := h' }) : wpAny (model PR w) A (pyNext (.ref m)) Q E s := by
  have hT : s.TypeIs (.ref m) "map" := ⟨_, hm, rfl⟩
  unfold pyNext
  refine wpAny_bind (wpAny_attempt (wpAny_callSpecial?_slot (name := Str.ofString "__next__") hT slot_map_next
    (wpAny_call_entry slot_map_next hT entry_map_next (map_next_end hh hm hTI hit hl hx fun h' e hk he => ?_) (args_map_next_1 _))))
  obtain ⟨o, ho, hc⟩ := he
  refine wpAny_bind (wpAny_isInstance (T := "StopIteration") (b := true) ⟨o, ho, hc⟩ isSubtype_stop ?_)
  exact wpAny_pure (hQ _ hk)
theorem pyIter_map {m TI : Addr} {f : Value} {Q : Value → Shared → Prop} {E : Value → Shared → Prop} (hm : IsMap s.heap m TI f) (h : Q (.ref m) s) : wpAny (model PR w) A (pyIter (.ref m)) Q E s := by
  have hT : s.TypeIs (.ref m) "map" := ⟨_, hm, rfl⟩
  refine wpAny_pyIter_slot hT slot_map_iter (wpAny_call_entry slot_map_iter hT entry_map_iter ?_ (args_map_iter_1 _))
  show wpAny _ _ (ret (.ref m)) _ _ s
  exact wpAny_pure ⟨_, rfl, "map", _, hT, slot_map_next.lookup, h⟩
/-- a def whose answer is the argument itself, and which changes nothing -/
noncomputable def IdFn (w : World) (k : Nat) (f : Value) (vs : List Value) : Prop := ∀ v ∈ vs, Fn w k f [.val v] [] (fun r _ => r = .val v)
noncomputable abbrev MSt (g₀ : Heap) (m TI it l : Addr) (f : Value) (vs : List Value) (i : Nat) (s : Shared) : Prop :=
  IsMap s.heap m TI f ∧ IsOne s.heap TI (.ref it) ∧ s.heap.IsListIter it l i ∧ s.heap.IsList l vs.toArray ∧ Le g₀ s.heap
theorem map_walks {k : Nat} {m TI it l : Addr} {f : Value} {vs : List Value} {g₀ : Heap} {N : Nat} (hA : Low (k + 1) A) (S : Stat w g₀) (hN : g₀.objs.size ≤ N) (hm : m < N) (hTI : TI < N) (hit : it < N) (hl : l < N) (hF : IdFn w k f vs) (n1 : m ≠ it) (n2 : TI ≠ it) (n3 : l ≠ it) (gi : g₀.get? it = none) :
    WalksS PR w A (m) (List.range N) [it] (fun a b => b = a) vs.length (fun i v => vs[i]? = some v) (MSt g₀ m TI it l f vs) where
  sub := fun b hb => by rw [List.mem_singleton.mp hb]; exact List.mem_range.mpr hit
  grefl := fun _ => rfl
  gtrans := fun _ _ _ h1 h2 => h2.trans h1
  frame := fun i s h' tk ⟨a1, a2, ⟨o, a3, q3⟩, ⟨o4, a4, q4⟩, a5⟩ _ hk => ⟨hk _ (List.mem_range.mpr hm) _ a1, hk _ (List.mem_range.mpr hTI) _ a2, ⟨o, hk _ (List.mem_range.mpr hit) _ a3, q3⟩, ⟨o4, hk _ (List.mem_range.mpr hl) _ a4, q4⟩,
    fun b o e => hk b (List.mem_range.mpr (Nat.lt_of_lt_of_le (Heap.lt_size e) hN)) _ (a5 _ _ e)⟩
  item := fun i s Q E hi ⟨a1, a2, a3, a4, a5⟩ hQ => by
    have hx : vs.toArray[i]? = some vs[i] := by simp [hi]
    refine wpAny_mono (E := No) (pyNext_map_item a1 a2 a3 a4 hx n1 fun h' b1 b2 => ?_) (fun _ _ q => q) (fun _ _ q => q.elim)
    have kg : Le g₀ h' := fun b o e => (b2.2 b (fun q => by rw [q, gi] at e; cases e)).trans (a5 b o e)
    refine wpAny_mono (wpAny_toks (hF vs[i] (List.getElem_mem hi) A.in1 h' { s with heap := h' } [vs[i]] (fun v s' => ∃ h2 tk2, s' = { s with heap := h2, toks := tk2 } ∧ Le h' h2 ∧ v = vs[i]) hA.in1 (S.le kg) ⟨Le.refl _, (fun p hp => by cases hp), List.nodup_nil⟩ (.cons (.val _) .nil)
      fun v g' h2 tk2 d c' x1 x2 _ x4 x5 => ⟨h2, tk2, rfl, x1.trans x2.sub, ?_⟩)) ?_ (fun _ _ q => q.elim)
    · subst x5; cases x4; rfl
    · rintro r s' ⟨ht, h2, tk2, rfl, hk, rfl⟩
      have up : ∀ b o, b ≠ it → s.heap.get? b = some o → h2.get? b = some o := fun b o hb e => hk _ _ ((b2.2 b hb).trans e)
      refine hQ _ _ (by simp [hi]) ⟨up _ _ n1 a1, up _ _ n2 a2, ?_, ?_, kg.trans hk⟩ ⟨fun b o hb e => up b o (fun q => hb (by simp [q])) e, rfl, rfl, rfl, ht⟩
      · obtain ⟨o, e, q⟩ := b1; exact ⟨o, hk _ _ e, q⟩
      · obtain ⟨o, e, q⟩ := a4; exact ⟨o, up _ _ n3 e, q⟩
  done := fun s Q E ⟨a1, a2, a3, a4, a5⟩ hQ => pyNext_map_end hA.handled a1 a2 a3 a4 (by simp) fun h' hk => hQ _ ⟨fun b o hb e => hk b o (fun q => hb (by simp [q])) e, rfl, rfl, rfl, Nat.le_refl _⟩
  self := fun i s Q E ⟨a1, _⟩ h => pyIter_map a1 h
end
section
variable {prog : Program} {w : World} {A : Around} {E : Value → Shared → Prop} {s : Shared} {I : Addr} {fp wr : List Addr} {G : Array GenState → Array GenState → Prop} {n : Nat} {P : Nat → Value → Prop} {St : Nat → Shared → Prop}
/-- any iterator of a type without a length and without a hint of it (the library says it of generators) -/
theorem collect_it {T : String} {Q : List Value → Shared → Prop} (no_len : typeLookup (.type T) "__len__" = pure none) (no_hint : typeLookup (.type T) "__length_hint__" = pure none) (h2 : (Value.type T == Value.type "list") = false) (h3 : (Value.type T == Value.type "tuple") = false)
    (W : WalksS prog w A.in1 I fp wr G n P St) (hT : ∀ i s, St i s → s.TypeIs (.ref I) T) (hst : St 0 s) (hfp : ∀ b ∈ fp, b < s.heap.objs.size) (hI : I ∈ fp)
    (hQ : ∀ s' acc, Moved wr G s s' → ItemsOf P acc n → Q acc.toList s') (hn : n ≤ sizeLine) : wpAny (model prog w) A (collect (.ref I)) Q E s := by
  have hSf : s.heap.objs.size ∉ fp := fun hm => Nat.lt_irrefl _ (hfp _ hm)
  have hSI : s.heap.objs.size ≠ I := fun e => hSf (e ▸ hI)
  unfold collect
  refine wpAny_bind (wpAny_runValue (codeAny_builtin F.entry_proto_collect ?_))
  rw [Around.under_plainId F.plain_proto_collect _]
  show wpAny _ A.in1 (newList [] >>= fun l => again (.builtin "list.__iadd__" ⟨[l, .ref I], []⟩)) _ _ s
  refine wpAny_bind (wpAny_newObj_type ?_)
  refine wpAny_pure ⟨plainId_quiet F.plain_list_iadd _, codeAny_builtin F.entry_list_iadd ?_⟩
  rw [Around.under_plainId F.plain_list_iadd _]
  have hst₁ := W.frame 0 s (s.heap.push { cls := .type "list", data := .seq ([] : List Value).toArray }) s.toks hst (Nat.le_refl _) fun b _ o e => Heap.get?_push_of_some _ e
  show wpAny _ A.in1 (Builtin.List.listExtendWith (.ref s.heap.objs.size) (.ref I) (.ref s.heap.objs.size)) _ _ _
  unfold Builtin.List.listExtendWith
  refine wpAny_bind (wpAny_typeOf (hT 0 _ hst₁) ?_)
  have h1 : Builtin.List.listSameRef (.ref s.heap.objs.size) (.ref I) = false := by simp [Builtin.List.listSameRef, hSI]
  simp only [h1, h2, h3, Bool.or_false, Bool.false_eq_true, if_false]
  refine wpAny_bind (W.self 0 _ _ _ hst₁ ?_)
  refine wpAny_bind (wpAny_holding ?_)
  unfold Builtin.List.listLengthHint
  refine wpAny_bind (wpAny_specialOf (hT 0 _ hst₁) no_len ?_)
  show wpAny _ A.in1 (specialOf (Value.ref I) (Str.ofString "__length_hint__") >>= _) _ _ _
  refine wpAny_bind (wpAny_specialOf (hT 0 _ hst₁) no_hint ?_)
  refine wpAny_pure ?_
  show wpAny _ A.in1 (rule "list.extend.makes-room" >>= fun _ => Builtin.List.listTouch (.ref s.heap.objs.size) >>= fun _ =>
    again (.builtin "list.extend.loop" ⟨[.ref s.heap.objs.size, .ref I, .ref s.heap.objs.size], []⟩)) _ _ _
  refine wpAny_bind (wpAny_rule ?_)
  have hS₁ : (s.heap.push { cls := .type "list", data := .seq ([] : List Value).toArray }).get? s.heap.objs.size = some { cls := .type "list", data := .seq ([] : List Value).toArray } := Heap.get?_push_size _ rfl
  refine wpAny_bind ?_
  show wpAny _ A.in1 (updateSeq s.heap.objs.size (·.push .none) >>= fun _ => updateSeq s.heap.objs.size (·.pop)) _ _ _
  refine wpAny_bind (wpAny_updateSeq hS₁ rfl ?_)
  have hS₂ := Heap.get?_update_self (Obj.mapSeq (·.push Value.none)) hS₁ rfl
  refine wpAny_updateSeq hS₂ rfl ?_
  have hS₃ := Heap.get?_update_self (Obj.mapSeq (·.pop)) hS₂ rfl
  have oth : ∀ b o, b ≠ s.heap.objs.size → (s.heap.push { cls := .type "list", data := .seq ([] : List Value).toArray }).get? b = some o →
      (((s.heap.push { cls := .type "list", data := .seq ([] : List Value).toArray }).update s.heap.objs.size (Obj.mapSeq (·.push Value.none))).update s.heap.objs.size (Obj.mapSeq (·.pop))).get? b = some o :=
    fun b o hb e => (Heap.get?_update_other _ _ (Ne.symm hb)).trans ((Heap.get?_update_other _ _ (Ne.symm hb)).trans e)
  refine wpAny_pure ⟨plainId_quiet F.plain_extend_loop _, codeAny_extend_loopS W hn _ hSf _ n 0 _ _ _ rfl (Nat.zero_le _)
    (W.frame 0 ({ s with heap := s.heap.push { cls := .type "list", data := .seq ([] : List Value).toArray } } : Shared) _ s.toks hst₁ (Nat.le_refl _) fun b hb o e => oth b o (fun h => hSf (h ▸ hb)) e) hS₃ (ItemsOf.nil P) fun s' acc' c' hm hS' hacc => ?_⟩
  show wpAny _ A (load s.heap.objs.size >>= _) _ _ s'
  refine wpAny_bind (wpAny_load hS' ?_)
  refine wpAny_pure (hQ s' acc' (Moved.drop_new (o := { cls := .type "list", data := .seq ([] : List Value).toArray }) (tk := s.toks) (Moved.trans W.gtrans ((Moved.refl W.grefl).then_heap (by first | exact Nat.le_refl _ | exact Nat.le_succ _ | (first | lia | omega)) fun b o hb e => ?_) hm) (Nat.le_refl _)) hacc)
  exact oth b o (fun h => hb (h ▸ List.mem_cons_self)) e
theorem code_tuple_new_map {Q₁ : Value → Shared → Prop} (W : WalksS prog w A.in1.in1 I fp wr G n P St) (hT : ∀ i s, St i s → s.TypeIs (.ref I) "map") (hst : St 0 s) (hfp : ∀ b ∈ fp, b < s.heap.objs.size) (hI : I ∈ fp)
    (h : ∀ s' acc, Moved wr G s s' → ItemsOf P acc n → Q₁ (.ref s'.heap.objs.size) { s' with heap := s'.heap.push { cls := .type "tuple", data := .seq acc } }) (hsz : n ≤ sizeLine) :
    codeAny (model prog w) A (.call (.builtin "tuple.__new__") ⟨[.type "tuple", .ref I], []⟩) (wants Q₁ E) s := by
  refine codeAny_of_tree ?_
  show wpAny _ A.in1 (do checkBuiltinCall "tuple.__new__" ⟨[.type "tuple", .ref I], []⟩; again (.builtin "tuple.__new__" ⟨[.type "tuple", .ref I], []⟩)) _ _ s
  refine wpAny_bind (wpAny_of_eq (F.newCall_tuple_1 _) (wpAny_pure ⟨plainId_quiet F.plain_tuple_new _, codeAny_builtin F.entry_tuple_new ?_⟩))
  rw [Around.under_plainId F.plain_tuple_new _]
  have hsub := sub_tuple_self
  have hinit := init_tuple_lookup
  have hmh := madeHere_tuple
  have hTI := hT 0 s hst
  wp_walk using wpAny_typeOf hTI, collect_it (T := "map") (hn := hsz) map_no_len map_no_hint (by decide) (by decide) W hT hst hfp hI
  intro s' acc hm hacc
  show wpAny _ _ (Builtin.Tuple.tupleExact acc.toList.toArray >>= fun v => ret v) _ _ _
  unfold Builtin.Tuple.tupleExact
  refine wpAny_bind (wpAny_newObj_type ?_ (by show acc.toList.toArray.size ≤ sizeLine; simp only [Array.toArray_toList]; rw [hacc.1]; exact hsz))
  refine wpAny_pure ?_
  have e : acc.toList.toArray = acc := by simp
  rw [e]
  exact h s' acc hm hacc
theorem call_tuple_map {Q : Value → Shared → Prop} (W : WalksS prog w A.in1.in1.in1 I fp wr G n P St) (hT : ∀ i s, St i s → s.TypeIs (.ref I) "map") (hst : St 0 s) (hfp : ∀ b ∈ fp, b < s.heap.objs.size) (hI : I ∈ fp)
    (hQ : ∀ s' acc, Moved wr G s s' → ItemsOf P acc n → Q (.ref s'.heap.objs.size) { s' with heap := s'.heap.push { cls := .type "tuple", data := .seq acc } }) (hsz : n ≤ sizeLine) :
    wpAny (model prog w) A (call (.type "tuple") [.ref I]) Q E s := by
  refine callType_codes (Q₁ := fun obj s₁ => s₁.TypeIs obj "tuple" ∧ Q obj s₁) F.called_tuple (F.typeCall_tuple_1 _) F.entry_object_init
    (code_tuple_new_map (hsz := hsz) W hT hst hfp hI fun s' acc hm hacc => ⟨⟨_, Heap.get?_push_size _ rfl, rfl⟩, hQ s' acc hm hacc⟩) fun obj s₁ h₁ => ?_
  exact ⟨h₁.1, F.args_object_init_2 obj _, object_init_meets F.called_tuple.init.lookup F.called_tuple.made (by decide) prog w A.in1 _ s₁ ⟨h₁.1, rfl, h₁.2⟩⟩
end
end
/-! F31 -/
section
set_option maxHeartbeats 1000000
section
variable {w : World} {env : Env} {k : Nat} {loc : Loc} {cells : Cls}
theorem Low.in3 {k : Nat} {A : Around} (h : Low (k + 1) A) : Low k A.in1.in1.in1 :=
  ⟨h.handled, by have := h.depth; show A.depth + 10 * k < _; (first | lia | omega), by have := h.units; show A.units + 1 + 1 + 1 + 100 * k < _; (first | lia | omega)⟩
/-- tuple(map(f, x)) where f hands back its argument -/
theorem Ev.tupMap {f1 f2 : Str} {p1 p2 pos pos2 : Pos} {ef ex : Expr} {fv : Value} {ds : List D} (ht : Ev w env (k + 2) loc cells (.Name f1 p1) (.val (.type "tuple"))) (hm : Ev w env (k + 2) loc cells (.Name f2 p2) (.val (.type "map"))) (hf : Ev w env (k + 2) loc cells ef (.val fv)) (hx : Ev w env (k + 2) loc cells ex (.lst ds))
    (hF : ∀ g vs, RepAll g vs ds → IdFn w k fv vs) (hn : ds.length ≤ sizeLine)
    (he : starEach [ef, ex] env = [(false, eval ef env), (false, eval ex env)] := by rfl) (he2 : starEach [(.Call (.Name f2 p2) [ef, ex] [] pos)] env = [(false, eval (.Call (.Name f2 p2) [ef, ex] [] pos) env)] := by rfl) :
    Ev w env (k + 2) loc cells (.Call (.Name f1 p1) [.Call (.Name f2 p2) [ef, ex] [] pos] [] pos2) (.tup ds) := by
  intro A g₀ hA S g s Q hg Rl hQ
  refine wpAny_Call_NameR (Tri.use3 (ht A g₀ hA S) hg Rl ?_)
  rintro v g1 h1 tk1 hg1 R1 rv
  (first | obtain ⟨_, rfl⟩ := Rep.inv rv | cases rv)
  have hb2 : backTo pos2 (starEach [(.Call (.Name f2 p2) [ef, ex] [] pos)] env) = [(false, eval (.Call (.Name f2 p2) [ef, ex] [] pos) env)] := by rw [he2]; rfl
  rw [hb2]
  refine PyProof.Rows.callWith_type rfl (evalArgs_plain (Calls.spliced_cons ?_))
  refine wpAny_Call_NameR (Tri.use3 (hm A g₀ hA S) (hg.trans hg1) R1 ?_)
  rintro v g2 h2 tk2 hg2 R2 rv
  (first | obtain ⟨_, rfl⟩ := Rep.inv rv | cases rv)
  have hb' : backTo pos (starEach [ef, ex] env) = [(false, eval ef env), (false, eval ex env)] := by rw [he]; rfl
  rw [hb']
  refine PyProof.Rows.callWith_type rfl (evalArgs_plain (Calls.spliced_cons ?_))
  refine Tri.use3 (hf A g2 hA (S.le ((hg.trans hg1).trans hg2))) (Le.refl _) R2 ?_
  rintro v g3 h3 tk3 hg3 R3 rv
  cases rv
  refine Calls.spliced_cons ?_
  refine Tri.use3 (hx A g3 hA (S.le (((hg.trans hg1).trans hg2).trans hg3))) (Le.refl _) R3 ?_
  rintro v g4 h4 tk4 hg4 R4 rv
  obtain ⟨⟨_, _⟩, rfl, hl, rs⟩ := Rep.inv rv
  rename_i la vs
  refine Calls.spliced_nil ?_
  have hl4 : h4.IsList la vs.toArray := isList_le R4.c.sub hl
  refine call_map hl4 ?_
  refine Calls.spliced_nil ?_
  have S4 : Stat w h4 := S.le ((((hg.trans hg1).trans hg2).trans hg3).trans (hg4.trans R4.c.sub))
  have z1 : (mpH1 h4 la).objs.size = h4.objs.size + 1 := Heap.size_push ..
  have z2 : (mpH2 h4 la).objs.size = h4.objs.size + 2 := by rw [Heap.size_push, z1]
  have z3 : (mpH3 h4 la fv).objs.size = h4.objs.size + 3 := by rw [Heap.size_push, z2]
  have g1' : (mpH3 h4 la fv).get? (mpH2 h4 la).objs.size = some { cls := .type "map", data := .fields #[.ref (mpH1 h4 la).objs.size, fv] } := Heap.get?_push_size _ rfl
  have g2' : (mpH3 h4 la fv).get? (mpH1 h4 la).objs.size = some { cls := .type "tuple", data := .seq #[.ref h4.objs.size] } := Heap.get?_push_of_some _ (Heap.get?_push_size _ rfl)
  have g3' : (mpH3 h4 la fv).get? h4.objs.size = some { cls := .type "list_iterator", data := .fields #[.ref la, .int 0 0] } := Heap.get?_push_of_some _ (Heap.get?_push_of_some _ (Heap.get?_push_size _ rfl))
  have up : Le h4 (mpH3 h4 la fv) := ((Le.push _ _).trans (Le.push _ _)).trans (Le.push _ _)
  obtain ⟨lo, lo1, lo2⟩ := id hl4
  have llt : la < h4.objs.size := Heap.lt_size lo1
  have fresh : h4.get? h4.objs.size = none := fresh_none h4
  have b3 : (mpH3 h4 la fv).objs.size = (mpH2 h4 la).objs.size + 1 := by rw [z3, z2]
  have b2 : (mpH2 h4 la).objs.size = (mpH1 h4 la).objs.size + 1 := by rw [z2, z1]
  have n1 : h4.objs.size ≤ (mpH3 h4 la fv).objs.size := by (first | lia | omega)
  have n2 : (mpH2 h4 la).objs.size < (mpH3 h4 la fv).objs.size := by (first | lia | omega)
  have n3 : (mpH1 h4 la).objs.size < (mpH3 h4 la fv).objs.size := by (first | lia | omega)
  have n4 : h4.objs.size < (mpH3 h4 la fv).objs.size := by (first | lia | omega)
  have n5 : (mpH2 h4 la).objs.size ≠ h4.objs.size := by (first | lia | omega)
  have n6 : (mpH1 h4 la).objs.size ≠ h4.objs.size := by (first | lia | omega)
  refine call_tuple_map (G := fun a b => b = a) (n := vs.length) (P := fun i v => vs[i]? = some v) (fp := List.range (mpH3 h4 la fv).objs.size) (wr := [h4.objs.size])
    (St := MSt h4 (mpH2 h4 la).objs.size (mpH1 h4 la).objs.size h4.objs.size la fv vs)
    (map_walks (k := k) hA.in3 S4 n1 n2 n3 n4 (Nat.lt_of_lt_of_le llt n1) (hF g4 vs rs) n5 n6 (Nat.ne_of_lt llt) fresh)
    (fun i s a => ⟨_, a.1, rfl⟩) ⟨g1', g2', ⟨_, g3', rfl, rfl⟩, isList_le up hl4, up⟩ (fun b hb => List.mem_range.mp hb) (List.mem_range.mpr n2) (fun s' acc hm hacc => ?_) (by rw [rs.length]; exact hn)
  have eacc : acc = vs.toArray := by
    apply Array.ext_getElem?
    intro i
    by_cases hi : i < acc.size
    · have e1 : acc[i]? = some acc[i] := by simp [hi]
      rw [e1]
      have := hacc.2 i _ e1
      simpa using this.symm
    · have e1 : acc[i]? = none := by simp; (first | lia | omega)
      have e2 : vs.toArray[i]? = none := by have := hacc.1; simp; (first | lia | omega)
      rw [e1, e2]
  have hle : Le h4 (s'.heap.push { cls := .type "tuple", data := .seq acc }) := fun b o e => Heap.get?_push_of_some _ (hm.heap b o (fun hb => by rw [List.mem_singleton.mp hb, fresh] at e; cases e) (up b o e))
  have sfr : h4.get? s'.heap.objs.size = none := by
    cases e : h4.get? s'.heap.objs.size with
    | none => rfl
    | some o => exact absurd (Heap.lt_size (hm.heap _ o (fun hb => by rw [List.mem_singleton.mp hb, fresh] at e; cases e) (up _ o e))) (Nat.lt_irrefl _)
  have hs' : s' = ⟨s'.heap, s.gens, s.drawn, s'.toks, s.os⟩ := by
    obtain ⟨a, b, c, d, e⟩ := s'
    have q1 := hm.gens; have q2 := hm.drawn; have q3 := hm.os
    dsimp only at q1 q2 q3
    subst q1 q2 q3
    rfl
  have fin := hQ (.ref s'.heap.objs.size) (Mine.top env _ (s'.heap.push { cls := .type "tuple", data := .seq acc })) (s'.heap.push { cls := .type "tuple", data := .seq acc }) s'.toks _ _ ((((hg1.trans hg2).trans hg3).trans hg4).trans (R4.le_top hle)) (R4.top hle) ⟨?_, rfl, rfl⟩
  · rw [hs']; exact fin
  · subst eacc
    refine .tup (vs := vs) ⟨_, R4.newIn_top _ _ _ sfr (Heap.get?_push_size _ rfl), rfl, 0, rfl⟩ (rs.le (R4.le_top hle))
end
end
/-! F32 -/
section
set_option maxHeartbeats 1000000
/-! a set that holds True alone -/
noncomputable abbrev setLed (w : World) : Bool := !(w.params.followText "set-order")
noncomputable def setT (w : World) : SetTable := { mask := 7, place := #[1], dummies := #[], finger := 0, led := setLed w, moves := 0, plain := true }
noncomputable def setO (w : World) : Nat → Obj
  | 0 => { cls := .type "set", data := .set #[] 0 (.fresh 0 0 (setLed w)) }
  | _ + 1 => { cls := .type "set", data := .set #[(1, .bool true)] 1 (setT w) }
section
variable {w : World} {A : Around} {s : Shared} {a : Addr}
theorem newSet_plain {Q : Value → Shared → Prop} (h : Q (.ref s.heap.objs.size) { s with heap := s.heap.push (setO w 0) }) : wpAny (model PR w) A (newSet (.type "set")) Q No s := by
  unfold newSet
  refine wpAny_bind ?_
  unfold setsByText
  refine wpAny_bind (wpAny_askSetting (wpAny_pure ?_))
  refine wpAny_newObj_type ?_
  exact h
theorem pyHash_true {Q : Int → Shared → Prop} (h : Q 1 { s with toks := s.toks + 1 }) : wpAny (model PR w) A (pyHash (.bool true)) Q No s := by
  unfold pyHash
  have hv : [Value.bool true].any Value.onHeap = false := rfl
  refine wpAny_bind ?_
  rw [cRoomFor, if_neg (by rw [hv]; exact Bool.false_ne_true)]; refine wpAny_pure ?_
  refine wpAny_bind (wpAny_specialOf (PySem.typeIs_bool s true) PySem.F.slot_bool_hash.lookup ?_)
  show wpAny _ _ (if (some (Value.builtin "int.__hash__") == some Value.none) = true then _ else _) Q No s
  rw [if_neg (by rw [beq_builtin_none]; exact Bool.false_ne_true)]
  refine wpAny_bind (wpAny_specialOf (PySem.typeIs_bool s true) PySem.F.slot_bool_hash.lookup ?_)
  show wpAny _ _ (callSpecialIfBoundUnlessNone? (.bool true) "__hash__" _ >>= _) Q No s
  refine wpAny_bind (wpAny_callSpecialIfBoundUnlessNone?_slot (PySem.typeIs_bool s true) PySem.F.slot_bool_hash
    (wpAny_call_entry PySem.F.slot_bool_hash (PySem.typeIs_bool s true) PySem.F.entry_int_hash
      (show wpAny _ _ (do ret (← mkInt (rawHash 1))) _ _ s from wpAny_ret_mkInt ?_) (args_int_hash _)))
  show wpAny _ _ (if (decide (-(2 : Int) ^ 63 ≤ rawHash 1) && decide (rawHash 1 < 2 ^ 63)) = true then _ else _) Q No _
  rw [if_pos (by decide)]
  exact wpAny_pure h
theorem eqBool_true {Q : Bool → Shared → Prop} (h : Q true s) : wpAny (model PR w) A (eqBool (.bool true) (.bool true)) Q No s := by
  unfold eqBool
  refine wpAny_holding ?_
  rw [if_pos (by decide)]
  exact wpAny_bind (wpAny_rule (wpAny_pure h))
theorem setFits0 (w : World) : (SetTable.fresh 0 0 (setLed w)).fits 0 = true := rfl
theorem setFits1 (w : World) : (setT w).fits 1 = true := rfl
theorem layNew0 (w : World) : layNew (SetTable.fresh 0 0 (setLed w)) #[] 1 (.bool true) = (#[(1, .bool true)], setT w, false, false) := by
  generalize hb : setLed w = b
  unfold setT
  rw [hb]
  cases b <;> decide +kernel
theorem tooFull0 (w : World) : (setT w).tooFull = false := by
  unfold setT
  generalize setLed w = b
  cases b <;> decide +kernel
theorem set_add_true {n : Nat} {Q : Value → Shared → Prop} (ho : s.heap.get? a = some (setO w n)) (h : ∀ h' tk', h'.get? a = some (setO w (n + 1)) → Heap.SameBut a s.heap h' → Q .none { s with heap := h', toks := tk' }) :
    wpAny (model PR w) A (call (.builtin "set.add") [.ref a, .bool true]) Q No s := by
  have hT : s.TypeIs (.ref a) "set" := ⟨_, ho, by cases n <;> rfl⟩
  refine wpAny_call_entry PySem.F.slot_set_add hT PySem.F.entry_set_add ?_ (PySem.F.args_set_add_2 _ _)
  unfold Builtin.«set.add» Builtin.Frozenset.oneOther
  simp only [List.isEmpty_nil, bind_assoc]
  unfold Builtin.Frozenset.addrOf setAdd
  refine wpAny_bind (wpAny_pure ?_)
  try dsimp only
  refine wpAny_bind (wpAny_pure ?_)
  try dsimp only
  refine wpAny_bind ?_
  refine wpAny_holding ?_
  refine wpAny_bind (pyHash_true ?_)
  unfold setAddHashed
  refine wpAny_holding ?_
  unfold setAddHashedIn
  cases n with
  | zero =>
    refine wpAny_bind (wpAny_setState_of (es := #[]) (ep := 0) (t := .fresh 0 0 (setLed w)) (o := setO w 0) ho rfl (setFits0 w) ?_)
    dsimp only
    rw [if_pos (by decide +kernel)]
    refine wpAny_bind ?_
    unfold setAddByScan
    refine wpAny_bind (wpAny_rule ?_)
    refine wpAny_bind (m := setScan _ _ _ _ _) (wpAny_of_eq (a := ScanMet.absent) rfl ?_)
    dsimp only
    refine wpAny_bind (wpAny_pure ?_)
    rw [layNew0]
    dsimp only
    rw [if_pos (show (setT w).plain = true from rfl)]
    refine wpAny_bind (wpAny_of_eq (a := true) rfl ?_)
    simp only [if_true]
    refine wpAny_bind (wpAny_storeSet_of (o := setO w 0) (es := #[]) (ep := 0) (t := .fresh 0 0 (setLed w)) ho rfl ?_)
    rw [tooFull0]
    refine wpAny_pure ?_
    dsimp only
    refine wpAny_pure ?_
    exact wpAny_pure ⟨_, rfl, h _ _ (Heap.get?_update_self _ ho rfl) (Heap.SameBut.update ..)⟩
  | succ n =>
    refine wpAny_bind (wpAny_setState_of (es := #[(1, .bool true)]) (ep := 1) (t := setT w) (o := setO w (n + 1)) ho rfl (setFits1 w) ?_)
    dsimp only
    rw [if_pos (by decide +kernel)]
    refine wpAny_bind ?_
    unfold setAddByScan
    refine wpAny_bind (wpAny_rule ?_)
    refine wpAny_bind (m := setScan _ _ _ _ _) ?_
    show wpAny _ _ (setScanFrom a (.bool true) 1 true [(1, .bool true)] 0) _ _ _
    unfold setScanFrom
    rw [if_pos (by decide)]
    refine wpAny_bind (wpAny_setEpoch_of (es := #[(1, .bool true)]) (ep := 1) (t := setT w) (o := setO w (n + 1)) ho rfl (setFits1 w) ?_)
    refine wpAny_bind (eqBool_true ?_)
    simp only [Bool.and_self, if_true]
    refine wpAny_pure ?_
    dsimp only
    refine wpAny_pure ?_
    dsimp only
    refine wpAny_pure ?_
    exact wpAny_pure ⟨_, rfl, h _ _ ho (Heap.SameBut.refl ..)⟩
end
end
/-! F33 -/
section
set_option maxHeartbeats 1000000
theorem owner_set_iterator : Manifest.owners.lookup (String.ofList ['r', 'o', 't', 'a', 'r', 'e', 't', 'i', '_', 't', 'e', 's'].reverse) = some Manifest.sig_set_iterator := by kernel_rfl
theorem slot_set_iterator_next : Slot "set_iterator" "__next__" "set_iterator.__next__" :=
  .of (owner := "set_iterator") (n := "__next__") (by rw [typeLookup_type, builtinLookup_eq_fast]; kernel_rfl) (by decide +kernel) (by decide +kernel) (by decide +kernel)
    (by first | exact .inl (by decide +kernel) | exact .inr (by decide +kernel)) (by rw [isSubtype_type]; kernel_rfl)
theorem entry_set_iterator_next : entryFor table "set_iterator.__next__" = some Builtin.«set_iterator.__next__» := entryFor_of_tree (by kernel_rfl)
theorem entry_set_iter : entryFor table "set.__iter__" = some Builtin.«frozenset.__iter__» :=
  entryFor_alias (id' := "frozenset.__iter__") (by kernel_rfl) (by first | rfl | decide +kernel | (unfold String.splitOn; simp +decide [String.splitOnAux])) (by decide +kernel) (by kernel_rfl)
theorem args_set_iterator_next_1 (a : Value) : argsOk "set_iterator.__next__" ⟨[a], []⟩ := by
  unfold argsOk; rw [signature?_of (id := "set_iterator.__next__") (n := ['_', '_', 't', 'x', 'e', 'n', '_', '_']) (o := ['r', 'o', 't', 'a', 'r', 'e', 't', 'i', '_', 't', 'e', 's']) (by kernel_rfl) owner_set_iterator]; kernel_rfl
section
variable {w : World} {A : Around} {s : Shared} {a : Addr}
noncomputable abbrev IsSetIter (h : Heap) (it a : Addr) (slot i : Nat) : Prop := h.get? it = some { cls := .type "set_iterator", data := .fields #[rawInt slot, rawInt i, .ref a, rawInt 1, rawInt 1] }
theorem setState_one {Q : (Array (Int × Value) × Nat × SetTable) → Shared → Prop} (ho : s.heap.get? a = some (setO w 1)) (h : Q (#[(1, .bool true)], 1, setT w) s) : wpAny (model PR w) A (setState a) Q No s :=
  wpAny_setState_of ho rfl (setFits1 w) h
theorem pyIter_set {Q : Value → Shared → Prop} (ho : s.heap.get? a = some (setO w 1)) (h : ∀ h', IsSetIter h' s.heap.objs.size a 0 0 → Le s.heap h' → Q (.ref s.heap.objs.size) { s with heap := h' }) : wpAny (model PR w) A (pyIter (.ref a)) Q No s := by
  have hT : s.TypeIs (.ref a) "set" := ⟨_, ho, rfl⟩
  refine wpAny_pyIter_slot hT PySem.F.slot_set_iter (wpAny_call_entry PySem.F.slot_set_iter hT entry_set_iter ?_ (PySem.F.args_set_iter_1 _))
  unfold Builtin.«frozenset.__iter__» Builtin.Frozenset.slot0 slotArgs
  simp only [List.isEmpty_nil, Bool.not_true, Bool.false_eq_true, ↓reduceIte, bind_assoc, List.length_nil, bne_self_eq_false]
  unfold Builtin.Frozenset.addrOf Builtin.Frozenset.sizeOf setEntries setDrawn setEpoch setsByText
  refine wpAny_bind (wpAny_pure ?_)
  try dsimp only
  refine wpAny_bind (wpAny_pure ?_)
  refine wpAny_bind (wpAny_bind (wpAny_bind (setState_one ho (wpAny_pure (wpAny_pure ?_)))))
  refine wpAny_bind (wpAny_bind (setState_one ho ?_))
  refine wpAny_bind (wpAny_bind (wpAny_askSetting (wpAny_pure ?_)))
  refine wpAny_of_eq (a := false) (congrArg pure (by show (!w.params.followText "set-order" && _) = false; cases w.params.followText "set-order" <;> rfl)) ?_
  simp only [Bool.false_eq_true, if_false]
  refine wpAny_bind (wpAny_pure ?_)
  refine wpAny_bind (wpAny_bind (setState_one ho (wpAny_pure ?_)))
  unfold newFields
  refine wpAny_bind (wpAny_newObj_type ?_)
  refine wpAny_pure ⟨_, rfl, "set_iterator", _, ⟨_, Heap.get?_push_size _ rfl, rfl⟩, slot_set_iterator_next.lookup, ?_⟩
  exact h _ (Heap.get?_push_size _ rfl) (Le.push _ _)
noncomputable abbrev setSlot (w : World) : Nat := if w.params.followText "set-order" then 0 else 2
theorem setNext_item {Q : Option (Value × Nat) → Shared → Prop} (ho : s.heap.get? a = some (setO w 1)) (h : Q (some (.bool true, setSlot w)) s) : wpAny (model PR w) A (setNext a 0 0 1) Q No s := by
  unfold setNext
  refine wpAny_bind (setState_one ho ?_)
  unfold setWalk setsByText
  refine wpAny_bind (wpAny_bind (wpAny_askSetting (wpAny_pure ?_)))
  show wpAny _ _ (if w.params.followText "set-order" = true then _ else _) _ _ _
  unfold setSlot at h
  cases hb : w.params.followText "set-order" with
  | true =>
    rw [hb] at h
    simp only [if_true] at h ⊢
    simp only [bne_self_eq_false, Bool.false_eq_true, if_false]
    refine wpAny_bind (wpAny_bind (setState_one ho ?_))
    refine wpAny_bind (wpAny_bind (wpAny_askSetting (wpAny_pure ?_)))
    show wpAny _ _ (if w.params.followText "set-order" = true then _ else _) _ _ _
    rw [hb, if_pos rfl]
    refine wpAny_bind (wpAny_askSetting (wpAny_pure ?_))
    refine wpAny_pure ?_
    have e : (pickOrder (w.params.setOrder a 1) #[((1 : Int), Value.bool true)]) = #[(1, .bool true)] := by
      unfold pickOrder
      simp [pickOrder.go, Nat.mod_one]
    show Q (((pickOrder (w.params.setOrder a 1) #[((1 : Int), Value.bool true)])[0]?).map fun e => (e.2, 0)) s
    rw [e]
    exact h
  | false =>
    rw [hb] at h
    simp only [Bool.false_eq_true, if_false] at h ⊢
    have hl : setLed w = true := by unfold setLed; rw [hb]; rfl
    have e : setT w = { mask := 7, place := #[1], dummies := #[], finger := 0, led := true, moves := 0, plain := true } := by unfold setT; rw [hl]
    rw [e]
    refine wpAny_pure ?_
    exact h
theorem setNext_end {Q : Option (Value × Nat) → Shared → Prop} (ho : s.heap.get? a = some (setO w 1)) (h : Q none s) : wpAny (model PR w) A (setNext a (setSlot w) 1 1) Q No s := by
  unfold setNext
  refine wpAny_bind (setState_one ho ?_)
  unfold setWalk setsByText setSlot
  refine wpAny_bind (wpAny_bind (wpAny_askSetting (wpAny_pure ?_)))
  show wpAny _ _ (if w.params.followText "set-order" = true then _ else _) _ _ _
  cases hb : w.params.followText "set-order" with
  | true =>
    simp only [if_true]
    simp only [bne_self_eq_false, Bool.false_eq_true, if_false]
    refine wpAny_bind (wpAny_bind (setState_one ho ?_))
    refine wpAny_bind (wpAny_bind (wpAny_askSetting (wpAny_pure ?_)))
    show wpAny _ _ (if w.params.followText "set-order" = true then _ else _) _ _ _
    rw [hb, if_pos rfl]
    refine wpAny_bind (wpAny_askSetting (wpAny_pure ?_))
    refine wpAny_pure ?_
    have e : (pickOrder (w.params.setOrder a 1) #[((1 : Int), Value.bool true)]) = #[(1, .bool true)] := by
      unfold pickOrder
      simp [pickOrder.go, Nat.mod_one]
    show Q (((pickOrder (w.params.setOrder a 1) #[((1 : Int), Value.bool true)])[1]?).map fun e => (e.2, 0)) s
    rw [e]
    exact h
  | false =>
    simp only [Bool.false_eq_true, if_false]
    have hl : setLed w = true := by unfold setLed; rw [hb]; rfl
    have e : setT w = { mask := 7, place := #[1], dummies := #[], finger := 0, led := true, moves := 0, plain := true } := by unfold setT; rw [hl]
    rw [e]
    refine wpAny_pure ?_
    exact h
end
end
/-! F34 -/
section
set_option maxHeartbeats 1000000
section
variable {w : World} {A : Around} {s : Shared} {a it : Addr}
theorem fieldsOf_set {slot i : Nat} {Q : Array Value → Shared → Prop} (hit : IsSetIter s.heap it a slot i) (h : Q #[rawInt slot, rawInt i, .ref a, rawInt 1, rawInt 1] s) : wpAny (model PR w) A (fieldsOf (.ref it)) Q No s := by
  unfold fieldsOf
  refine wpAny_bind (wpAny_load hit ?_)
  exact wpAny_pure h
theorem set_next_item {Q : Value → Shared → Prop} (ho : s.heap.get? a = some (setO w 1)) (hit : IsSetIter s.heap it a 0 0)
    (h : ∀ h', IsSetIter h' it a (setSlot w) 1 → Heap.SameBut it s.heap h' → Q (.bool true) { s with heap := h' }) :
    wpAny (model PR w) A (Builtin.«set_iterator.__next__» ⟨[.ref it], []⟩) (fun fin s' => ∃ v, fin = .done (.ret v) ∧ Q v s') No s := by
  unfold Builtin.«set_iterator.__next__»
  refine wpAny_bind (m := slotArgs _ _ _) (wpAny_of_eq (a := (Value.ref it, [])) rfl ?_)
  dsimp only
  refine wpAny_bind (fieldsOf_set hit ?_)
  show wpAny _ _ (setEntries a >>= _) _ _ _
  unfold setEntries
  refine wpAny_bind (wpAny_bind (setState_one ho (wpAny_pure ?_)))
  show wpAny _ _ (setNext a 0 0 1 >>= _) _ _ _
  refine wpAny_bind (setNext_item ho ?_)
  dsimp only
  refine wpAny_bind (wpAny_setField_rec hit (by simp) fun h1 e1 hs1 => ?_)
  refine wpAny_bind (wpAny_setField_rec e1 (by simp) fun h2 e2 hs2 => ?_)
  exact wpAny_pure ⟨_, rfl, h h2 e2 (hs1.trans hs2)⟩
theorem set_next_end {Q : PySem.Fin → Shared → Prop} {E : Value → Shared → Prop} (hh : A.handled = none) (ho : s.heap.get? a = some (setO w 1)) (hit : IsSetIter s.heap it a (setSlot w) 1)
    (hE : ∀ h' e, Heap.ExtBut it s.heap h' → (∃ o, h'.get? e = some o ∧ o.cls = .type "StopIteration") → E (.ref e) { s with heap := h' }) :
    wpAny (model PR w) A (Builtin.«set_iterator.__next__» ⟨[.ref it], []⟩) Q E s := by
  have noE : ∀ {α : Type} {t : Sem α} {Q : α → Shared → Prop} {s : Shared}, wpAny (model PR w) A t Q No s → wpAny (model PR w) A t Q E s := fun h => wpAny_mono h (fun _ _ q => q) fun _ _ q => q.elim
  unfold Builtin.«set_iterator.__next__»
  refine wpAny_bind (m := slotArgs _ _ _) (wpAny_of_eq (a := (Value.ref it, [])) rfl ?_)
  dsimp only
  refine wpAny_bind (noE (fieldsOf_set hit ?_))
  show wpAny _ _ (setEntries a >>= _) _ _ _
  unfold setEntries
  refine wpAny_bind (wpAny_bind (noE (setState_one ho ?_)))
  refine wpAny_pure ?_
  show wpAny _ _ (setNext a (setSlot w) 1 1 >>= _) _ _ _
  refine wpAny_bind (noE (setNext_end ho ?_))
  dsimp only
  refine wpAny_bind (wpAny_setField_rec hit (by simp) fun h1 e1 hs1 => ?_)
  show wpAny _ _ (newExc (.type "StopIteration") [] >>= _) _ _ _
  refine wpAny_bind ?_
  simp only [newExc, newTuple]
  refine wpAny_bind (wpAny_newObj_type ?_ (by size_fits))
  refine wpAny_bind (m := firstArgMember _ _) (wpAny_of_eq (a := Value.none) (by first | rfl | (simp only [firstArgMember]; rfl)) ?_)
  refine wpAny_newObj_type ?_ (by size_fits)
  simp only [raiseNew]
  refine wpAny_bind (wpAny_handled ?_)
  first | rw [show A.in1.handled = none from hh] | rw [hh]
  refine wpAny_bind (wpAny_pure (wpAny_throw ?_))
  exact hE _ _ ((hs1.extBut.push _).push _) ⟨_, Heap.get?_push_size _ rfl, rfl⟩
theorem pyNext_set_item {Q : Option Value → Shared → Prop} (ho : s.heap.get? a = some (setO w 1)) (hit : IsSetIter s.heap it a 0 0)
    (h : ∀ h', IsSetIter h' it a (setSlot w) 1 → Heap.SameBut it s.heap h' → Q (some (.bool true)) { s with heap := h' }) : wpAny (model PR w) A (pyNext (.ref it)) Q No s := by
  have hT : s.TypeIs (.ref it) "set_iterator" := ⟨_, hit, rfl⟩
  unfold pyNext
  refine wpAny_bind (wpAny_attempt (wpAny_callSpecial?_slot (name := Str.ofString "__next__") hT slot_set_iterator_next
    (wpAny_call_entry slot_set_iterator_next hT entry_set_iterator_next (wpAny_mono (set_next_item (Q := fun v s' => wpAny (model PR w) A (pure (some v)) Q No s') ho hit fun h' x y => wpAny_pure (h h' x y)) (fun _ _ q => q) fun _ _ q => q.elim) (args_set_iterator_next_1 _))))
theorem pyNext_set_end {Q : Option Value → Shared → Prop} (hh : A.handled = none) (ho : s.heap.get? a = some (setO w 1)) (hit : IsSetIter s.heap it a (setSlot w) 1)
    (hQ : ∀ h', Heap.ExtBut it s.heap h' → Q none { s with heap := h' }) : wpAny (model PR w) A (pyNext (.ref it)) Q No s := by
  have hT : s.TypeIs (.ref it) "set_iterator" := ⟨_, hit, rfl⟩
  unfold pyNext
  refine wpAny_bind (wpAny_attempt (wpAny_callSpecial?_slot (name := Str.ofString "__next__") hT slot_set_iterator_next
    (wpAny_call_entry slot_set_iterator_next hT entry_set_iterator_next (set_next_end hh ho hit fun h' e hk he => ?_) (args_set_iterator_next_1 _))))
  obtain ⟨o, ho, hc⟩ := he
  refine wpAny_bind (wpAny_isInstance (T := "StopIteration") (b := true) ⟨o, ho, hc⟩ isSubtype_stop ?_)
  exact wpAny_pure (hQ _ hk)
theorem unpackItems_set {Q : List Value → Shared → Prop} (hh : A.handled = none) (ho : s.heap.get? a = some (setO w 1)) (hQ : ∀ h', Le s.heap h' → Q [.bool true] { s with heap := h' }) : wpAny (model PR w) A (unpackItems (.ref a) 1 none) Q No s := by
  have hT : s.TypeIs (.ref a) "set" := ⟨_, ho, rfl⟩
  have lt : a < s.heap.objs.size := Heap.lt_size ho
  have ne : a ≠ s.heap.objs.size := Nat.ne_of_lt lt
  unfold unpackItems
  refine wpAny_bind ?_
  unfold notIterableAtAll
  refine wpAny_bind (wpAny_specialOf hT PySem.F.slot_set_iter.lookup ?_)
  refine wpAny_pure ?_
  simp only [Bool.false_eq_true, if_false]
  refine wpAny_bind (wpAny_holding (pyIter_set ho fun h1 e1 k1 => ?_))
  refine wpAny_bind (wpAny_holding ?_)
  show wpAny _ _ (pyNext (.ref s.heap.objs.size) >>= _) _ _ _
  refine wpAny_bind (pyNext_set_item (k1 _ _ ho) e1 fun h2 e2 hs2 => ?_)
  dsimp only
  refine wpAny_bind (wpAny_holding (wpAny_pure (wpAny_pure ?_)))
  rw [if_neg (by decide)]
  refine wpAny_bind (wpAny_holding (pyNext_set_end hh ((hs2.2 _ ne).trans (k1 _ _ ho)) e2 fun h3 k3 => ?_))
  simp only [Option.isSome_none, Bool.false_eq_true, if_false]
  refine wpAny_pure (hQ h3 fun b o e => ?_)
  have nb : b ≠ s.heap.objs.size := Nat.ne_of_lt (Heap.lt_size e)
  exact k3 b o nb ((hs2.2 _ nb).trans (k1 _ _ e))
end
section
variable {w : World} {env : Env} {k : Nat} {loc loc' : Loc} {cells : Cls} {a : Addr}
/-- `x, = {True}` -/
theorem As.oneOfSet {t : Expr} {kk : Nat} {p : Pos} (hc : (a, C.it (setO w 1)) ∈ cells) (h : As w env k loc cells t (.bool true) loc') (hl : (assignEach [t] env) = [(false, assign t env)] := by rfl) : As w env k loc cells (.Tuple [t] kk p) (.val (.ref a)) loc' := by
  intro A g₀ v hA S r g s Q hg Rl hQ
  (first | obtain ⟨_, rfl⟩ := Rep.inv r | cases r)
  have ho : s.heap.get? a = some (setO w 1) := (Rl.c.all _ hc).1
  rw [arm_assign_Tuple]
  refine wpAny_bind (wpAny_standAt ?_)
  unfold unpack
  rw [hl]
  refine wpAny_bind (wpAny_holding ?_)
  show wpAny _ _ (unpackItems (.ref a) 1 none) _ _ _
  refine unpackItems_set hA.handled ho fun h' hk => ?_
  show wpAny _ _ (do holding _ (assign t env _); assignInOrder [] _) _ _ _
  refine wpAny_bind (wpAny_holding (h A (Mine.top env cells h') (.bool true) hA (S.le (hg.trans (Rl.le_top hk))) (.bool true) (Mine.top env cells h') { s with heap := h' } _ (Le.refl _) (Rl.top hk) ?_))
  rintro _ g2 h2 tk2 l2 c2 hg2 R2 ⟨rfl, rfl⟩
  exact wpAny_pure (hQ () g2 h2 tk2 _ _ ((Rl.le_top hk).trans hg2) R2 ⟨rfl, rfl⟩)
end
end
/-! F35 -/
section
section
variable {w : World} {A : Around} {R : Result → Shared → Prop} {s : Shared}
theorem compTurn_set (elt target iter : Expr) (scope : Scope) (pos : Pos) (it acc : Value) (env : Env) :
    compTurn (.SetComp elt [⟨target, iter, [], 0⟩] scope pos) 0 it acc env = (do
      standAt iter.pos
      match ← pyNext it with
      | none => pure (.done .next)
      | some v =>
        letOwnedTupleGo target it v
        assign target env v
        (do let v ← eval elt env; standAt elt.pos; let _ ← call (.builtin "set.add") [acc, v])
        again (.compLoop (.SetComp elt [⟨target, iter, [], 0⟩] scope pos) 0 it acc env)) := by rfl
theorem codeAny_compStart_set {elt target iter ifs rest scope pos it acc env}
    (h0 : codeAny (model PR w) A (.compLoop (.SetComp elt (⟨target, iter, ifs, 0⟩ :: rest) scope pos) 0 it acc env) R s)
    (h : wpAny (model PR w) A (pyIter it) (fun it' s' => codeAny (model PR w) A (.compLoop (.SetComp elt (⟨target, iter, ifs, 0⟩ :: rest) scope pos) 0 it' acc env) R s')
      (notedBy (model PR w) A env fun x s' => R (.error x) s') s) :
    codeAny (model PR w) A (.compStart (.SetComp elt (⟨target, iter, ifs, 0⟩ :: rest) scope pos) 0 it acc env) R s := by
  refine codeAny_of_tree ?_
  show wpAny _ _ ((compStart (.SetComp elt (⟨target, iter, ifs, 0⟩ :: rest) scope pos) 0 it acc env).onRaise (fun x => do noteFrame x env; standAt theWindowsPlace)) _ _ s
  refine wpAny_notedAt ?_
  unfold compStart
  show wpAny _ _ (ask >>= _) _ _ s
  refine wpAny_bind (wpAny_askSetting (wpAny_ite ?_))
  split
  · first
      | exact wpAny_bind (wpAny_pure (wpAny_pure (And.intro rfl h0)))
      | exact wpAny_pure (And.intro rfl h0)
  · first
      | exact wpAny_bind (wpAny_rule (wpAny_bind (wpAny_standAt (wpAny_bind (wpAny_mono h (fun it' s' h' => wpAny_pure (And.intro rfl h')) fun _ _ x => x)))))
      | (refine wpAny_bind (wpAny_rule ?_); show wpAny _ _ (standAt iter.pos >>= _) _ _ s; exact wpAny_bind (wpAny_standAt (wpAny_bind (wpAny_mono h (fun it' s' h' => wpAny_pure (And.intro rfl h')) fun _ _ x => x))))
theorem compLoopS {elt target iter : Expr} {scope : Scope} {pos : Pos} {it acc : Value} {env : Env} (I : Nat → Shared → Prop)
    (turn : ∀ n s, I n s → wpAny (model PR w) A (pyNext it) (fun r s₁ => match r with
      | none => R (.ok .next) s₁
      | some v => wpAny (model PR w) A (letOwnedTupleGo target it v) (fun _ s₁' => wpAny (model PR w) A (assign target env v) (fun _ s₂ =>
            wpAny (model PR w) A (eval elt env) (fun x s₄ => wpAny (model PR w) A (PySem.call (.builtin "set.add") [acc, x]) (fun _ s₅ => ∃ m, m < n ∧ I m s₅) No s₄) No s₂) No s₁') No s₁) No s) (n : Nat) (h : I n s) :
    codeAny (model PR w) A (.compLoop (.SetComp elt [⟨target, iter, [], 0⟩] scope pos) 0 it acc env) R s := by
  refine codeAny_loop rfl I (fun n s hI => ?_) n h
  show wpAny _ A ((compTurn (.SetComp elt [⟨target, iter, [], 0⟩] scope pos) 0 it acc env).onRaise (fun x => do noteFrame x env; theTreesLotGoes x)) _ _ s
  refine wpAny_noted (wpAny_mono (E := No) ?_ (fun _ _ q => q) (fun _ _ q => q.elim))
  rw [compTurn_set]
  refine wpAny_bind (wpAny_standAt (wpAny_bind (wpAny_mono (turn n s hI) (fun r s₁ h₁ => ?_) fun _ _ h' => h')))
  cases r with
  | none => exact wpAny_pure h₁
  | some v =>
    refine wpAny_bind (wpAny_mono h₁ (fun _ s₁' h₁' => ?_) fun _ _ h' => h')
    refine wpAny_bind (wpAny_mono h₁' (fun _ s₂ h₂ => ?_) fun _ _ h' => h')
    exact wpAny_bind (wpAny_bind (wpAny_mono h₂ (fun x s₄ h₄ => wpAny_bind (wpAny_standAt (wpAny_bind (wpAny_mono h₄ (fun _ s₅ h₅ => wpAny_pure (wpAny_pure ⟨rfl, h₅⟩)) fun _ _ h' => h')))) fun _ _ h' => h'))
end
set_option maxHeartbeats 4000000 in
theorem EvC.setComp {w : World} {env : Env} {k : Nat} {loc : Loc} {cells0 cells : Cls} {fin : Fins} {elt target iter : Expr} {scope : Scope} {pos : Pos} {items : List D} {R : D → Cls → Prop} (locIn : Loc) (InvL : Loc → Prop) 
    (hi : ItZ w env k loc cells0 cells fin target iter items) (hio : InnerOk env scope loc locIn) (hin : InvL locIn)
    (hcap : ∀ l, InvL l → ∀ p ∈ locIn, scope.names.lookup p.1 = some .free → p ∈ l)
    (turn : ∀ cenv c, (∀ p ∈ cells, p ∈ c) → cenv.scope.kind = .function → cenv.scope.names = nmOf scope.names → cenv.globals = mainGlobals → cenv.builtins = builtinsNs → ∀ l d, InvL l → d ∈ items → ∃ l1, As w cenv k l c target d l1 ∧ InvL l1 ∧ Ev w cenv k l1 c elt (.bool true))
    (hnd' : (fin.map (·.1)).Nodup) (hR : ∀ a, R (.val (.ref a)) (fin ++ (a, .it (setO w items.length)) :: cells)) (hs : ∀ x, foldedSetIterable iter env x = pure x := by intro _; rfl) :
    EvC w env k loc cells0 (.SetComp elt [⟨target, iter, [], 0⟩] scope pos) R := by
  intro A g₀ hA S g s Q hg Rl hQ
  obtain ⟨m₀, hn₀, hv₀⟩ := Rl.ns
  have hlook : ∀ p ∈ scope.names, p.2 = .free → (env.cells.lookup p.1).isSome = true := fun p hp e => by
    obtain ⟨h1, od, h2, _⟩ := hio.free p hp e
    have v := hv₀ _ h2
    unfold VarIs at v
    rw [h1] at v
    obtain ⟨c, _, hc, _⟩ := v
    rw [hc]; rfl
  show wpAny _ A (comprehension (.SetComp elt [⟨target, iter, [], 0⟩] scope pos) scope env (firstIterPos [⟨target, iter, [], 0⟩] pos) (newSet (.type "set")) false (eval iter env)) Q No s
  refine wpAny_comprehension_free (g := ⟨target, iter, [], 0⟩) (gs := []) rfl hs (closureFor_pure hlook) hio.kind (fun x hx e => by rw [lookup_of_mem hio.nd hx, e]) ?_
  refine hi A g₀ hA S g s _ hg Rl ?_
  intro it own St g1 h1 tk1 hg1 R1 hown hap hfin HI hst
  have I := HI A hA
  refine newSet_plain ?_
  refine newEnvComp ?_
  intro cown h2 hcn hnd hcells hnsL hk2
  dsimp only at hcells hnsL hk2 ⊢
  generalize hacc : h1.objs.size = acc at hk2 hcells hnsL ⊢
  generalize hH : h1.push (setO w 0) = H1 at hk2 hcells hnsL ⊢
  generalize hLL : H1.objs.size = L at hk2 hcells hnsL ⊢
  have sizeH : L = acc + 1 := by rw [← hLL, ← hH, Heap.size_push, hacc]
  have k12 : Le h1 h2 := (by rw [← hH] at hk2; exact (Le.push _ _).trans hk2)
  have accIs : h2.get? acc = some (setO w 0) := hk2 _ _ (by rw [← hH, ← hacc]; exact Heap.get?_push_size _ rfl)
  have fresh1 : ∀ a, acc ≤ a → h1.get? a = none := fun a ha => by
    cases e : h1.get? a with
    | none => rfl
    | some o => exact absurd (Heap.lt_size e) (by rw [hacc]; exact Nat.not_lt.mpr ha)
  have gf : ∀ a, acc ≤ a → g1.get? a = none := fun a ha => by
    cases e : g1.get? a with
    | none => rfl
    | some o => have := R1.c.sub _ _ e; rw [fresh1 a ha] at this; cases this
  have lt1 : ∀ {a : Nat} {o}, h1.get? a = some o → @LT.lt Nat _ a acc := fun e => by rw [← hacc]; exact Heap.lt_size e
  have cellsLt : ∀ p ∈ cells, @LT.lt Nat _ p.1 acc := fun p hp => let ⟨_, e⟩ := (R1.c.all p hp).1.some; lt1 e
  have ownLt : ∀ a ∈ own, @LT.lt Nat _ a acc := fun a ha => let ⟨_, e⟩ := I.data _ _ hst a ha; lt1 e
  have cownGt : ∀ p ∈ cown, @LT.lt Nat _ L p.2 := fun p hp => (hcells p hp).1
  -- the inner frame
  generalize hcenv : ({ scope := relabel scope env, locals := L, globals := env.globals, cells := cown ++ clos env.cells scope.names [], qual := env.qual, func := none, code := env.code, frame := env.frame, builtins := env.builtins } : Env) = cenv
  have cloc : cenv.locals = L := by rw [← hcenv]
  have ccells : cenv.cells = cown ++ clos env.cells scope.names [] := by rw [← hcenv]
  have cscope : cenv.scope = relabel scope env := by rw [← hcenv]
  have cnames : cenv.scope.names = nmOf scope.names := by rw [cscope]; exact relabel_names Rl.fk.kind fun p hp e => (hio.free p hp e).1
  have ckind : cenv.scope.kind = .function := by rw [cscope]; exact hio.kind
  have ckOf : ∀ x, cenv.kindOf x = (scope.names.lookup x).map fun kd => if kd == .free then .cell else kd := fun x => by unfold Env.kindOf; rw [cnames, nmOf_lookup]
  have cownNames : ∀ p ∈ cown, (p.1, NameKind.cell) ∈ scope.names := fun p hp => by
    have : p.1 ∈ (cellNames scope.names).reverse := hcn ▸ List.mem_map.mpr ⟨p, hp, rfl⟩
    obtain ⟨q, hq, e⟩ := List.mem_map.mp (List.mem_reverse.mp this)
    obtain ⟨q1, q2⟩ := List.mem_filter.mp hq
    obtain ⟨qa, qb⟩ := q
    have : qb = .cell := by simpa using q2
    subst this; subst e; exact q1
  -- a name's cell within
  have cfree : ∀ x, scope.names.lookup x = some .free → cenv.cells.lookup x = env.cells.lookup x := fun x e => by
    have hm := mem_of_lookup e
    rw [ccells, lookup_append, clos_lookup hio.nd hm (hlook _ hm rfl)]
    have : cown.lookup x = none := by
      cases q : cown.lookup x with
      | none => rfl
      | some a =>
        have := lookup_of_mem hio.nd (cownNames _ (mem_of_lookup q))
        dsimp only at this
        rw [e] at this; cases this
    rw [this]; rfl
  have ccell : ∀ x, scope.names.lookup x = some .cell → ∃ a, cenv.cells.lookup x = some a ∧ (x, a) ∈ cown := fun x e => by
    have hm : x ∈ cown.map (·.1) := by
      rw [hcn]
      exact List.mem_reverse.mpr (List.mem_map.mpr ⟨(x, .cell), List.mem_filter.mpr ⟨mem_of_lookup e, by simp⟩, rfl⟩)
    have : (cown.lookup x).isSome = true := isSome_lookup hm
    obtain ⟨a, ha⟩ := Option.isSome_iff_exists.mp this
    exact ⟨a, by rw [ccells, lookup_append, ha]; rfl, mem_of_lookup ha⟩
  -- which cells are the inner frame's
  have cAt : ∀ x a, CellAt cenv x a → (scope.names.lookup x = some .cell ∧ (x, a) ∈ cown) ∨ (scope.names.lookup x = some .free ∧ CellAt env x a) := fun x a ⟨h1, h2⟩ => by
    rw [ckOf] at h1
    cases q : scope.names.lookup x with
    | none => rw [q] at h1; cases h1
    | some kd =>
      rw [q] at h1
      cases kd with
      | cell =>
        obtain ⟨b, e1, e2⟩ := ccell x q
        rw [h2] at e1; cases e1
        exact .inl ⟨rfl, e2⟩
      | free => exact .inr ⟨rfl, (hio.free _ (mem_of_lookup q) rfl).1, by rw [← cfree x q]; exact h2⟩
      | _ => cases h1
  let hid : List Addr := ownOf cenv ++ muts ((acc, C.it (setO w 0)) :: cells) ++ own
  have hidO : ∀ a ∈ hid, g1.get? a = none := fun a ha => by
    rcases List.mem_append.mp ha with ha | ha
    · rcases List.mem_append.mp ha with ha | ha
      · have cn : (cenv.scope.names.map (·.1)).Nodup := by
          rw [cnames]; unfold nmOf; rw [List.map_map]
          have : ((fun p : Str × NameKind => p.1) ∘ fun p => if (p.2 == NameKind.free) = true then (p.1, NameKind.cell) else p) = (·.1) := by
            funext p; dsimp only [Function.comp]; split <;> rfl
          rw [this]; exact hio.nd
        rcases mem_ownOf ha cn with rfl | ⟨x, hx⟩
        · rw [cloc]; exact gf _ (by (first | lia | omega))
        · rcases cAt x a hx with ⟨_, h⟩ | ⟨_, h⟩
          · exact gf _ (by have := cownGt _ h; dsimp only at this; (first | lia | omega))
          · exact (R1.own x a h).1
      · obtain ⟨p, hp, m, rfl⟩ := mem_muts ha
        rcases List.mem_cons.mp hp with rfl | hp
        · exact gf _ (Nat.le_refl _)
        · exact (R1.c.all p hp).2 m
    · exact hown a ha
  have kgi : Le g1 (hideAll h2 hid) := le_hideAll (R1.c.sub.trans k12) hidO
  have hidN : ∀ a ∈ hid, (hideAll h2 hid).get? a = none := fun a ha => hideAll_none _ ha
  have hidK : ∀ a o, h2.get? a = some o → a ∉ hid → (hideAll h2 hid).get? a = some o := fun a o e n => hideAll_get _ e n
  have ownHid : ∀ a ∈ own, a ∈ hid := fun a ha => List.mem_append_right _ ha
  have cownOf : ∀ {x a}, CellAt cenv x a → a ∈ hid := fun h => List.mem_append_left _ (List.mem_append_left _ h.mem)
  generalize hgi : hideAll h2 hid = gi at kgi hidN hidK
  have giSub : Le gi h2 := hgi ▸ hideAll_le _ _
  have cn : (cenv.scope.names.map (·.1)).Nodup := by
    rw [cnames]; unfold nmOf; rw [List.map_map]
    have : ((fun p : Str × NameKind => p.1) ∘ fun p => if (p.2 == NameKind.free) = true then (p.1, NameKind.cell) else p) = (·.1) := by
      funext p; dsimp only [Function.comp]; split <;> rfl
    rw [this]; exact hio.nd
  have Ri : Rel w cenv gi h2 locIn ((acc, .it (setO w 0)) :: cells) := by
    refine ⟨⟨giSub, fun p hp => ?_, ?_⟩, ⟨ckind, by rw [← hcenv]; exact Rl.fk.glob, by rw [← hcenv]; exact Rl.fk.bltn, cn, hio.dbg⟩, ?_, ?_, ⟨_, cloc ▸ hnsL, fun p hp => ?_⟩, fun x a hx => ?_, fun x y a hx hy => ?_, hio.names⟩
    · rcases List.mem_cons.mp hp with rfl | hp
      · exact ⟨accIs, fun _ => hidN _ (List.mem_append_left _ (List.mem_append_right _ (mem_muts' (.head _) rfl)))⟩
      · exact ⟨(R1.c.all p hp).1.up kgi fun o e => k12 _ o e, fun m => hidN _ (List.mem_append_left _ (List.mem_append_right _ (mem_muts' (.tail _ hp) m)))⟩
    · rw [List.map_cons, List.nodup_cons]
      refine ⟨fun hm => ?_, R1.c.nodup⟩
      obtain ⟨p, hp, e⟩ := List.mem_map.mp hm
      exact absurd (cellsLt p hp) (by rw [e]; exact Nat.lt_irrefl _)
    · exact hidN _ (List.mem_append_left _ (List.mem_append_left _ (.head _)))
    · rw [cloc]
      intro hm
      rw [List.map_cons, List.mem_cons] at hm
      rcases hm with e | hm
      · exact Nat.ne_of_gt (show acc < L by (first | lia | omega)) e
      · obtain ⟨p, hp, e⟩ := List.mem_map.mp hm
        have := cellsLt p hp
        rw [e] at this; (first | lia | omega)
    · unfold VarIs
      rw [ckOf]
      rcases hio.ent p hp with ⟨e1, e2⟩ | ⟨e1, e2⟩ | ⟨e1, e2⟩
      · rw [e1, e2]; exact trivial
      · rw [e1, e2]
        obtain ⟨a, h1, h2⟩ := ccell p.1 e1
        exact ⟨a, none, h1, (hcells _ h2).2, trivial⟩
      · rw [e1]
        show ∃ c ov, cenv.cells.lookup p.1 = some c ∧ h2.IsCell c ov ∧ RepO gi ov p.2
        rw [cfree p.1 e1]
        obtain ⟨m1, _, hv1⟩ := R1.ns
        have v := hv1 p e2
        unfold VarIs at v
        rw [(hio.free _ (mem_of_lookup e1) rfl).1] at v
        obtain ⟨c, ov, a, b, r⟩ := v
        exact ⟨c, ov, a, isCell_le k12 b, r.le kgi⟩
    · refine ⟨hidN _ (cownOf hx), ?_, ?_, ?_⟩
      · rw [cloc]
        rcases cAt x a hx with ⟨_, h⟩ | ⟨_, h⟩
        · intro e; have := cownGt _ h; dsimp only at this; rw [e] at this; exact Nat.lt_irrefl _ this
        · intro e
          obtain ⟨_, _, _, ov, o, q, _⟩ := R1.own x a h
          have := lt1 q
          rw [e] at this; (first | lia | omega)
      · intro hm
        rw [List.map_cons, List.mem_cons] at hm
        rcases cAt x a hx with ⟨_, h⟩ | ⟨_, h⟩
        · have h9 := cownGt _ h
          dsimp only at h9
          rcases hm with e | hm
          · rw [e] at h9; (first | lia | omega)
          · obtain ⟨p, hp, e⟩ := List.mem_map.mp hm
            have := cellsLt p hp
            rw [e] at this; (first | lia | omega)
        · obtain ⟨_, _, h3, ov, o, q, _⟩ := R1.own x a h
          rcases hm with e | hm
          · have := lt1 q; rw [e] at this; exact Nat.lt_irrefl _ this
          · exact h3 hm
      · rcases cAt x a hx with ⟨_, h⟩ | ⟨_, h⟩
        · exact ⟨none, (hcells _ h).2⟩
        · obtain ⟨_, _, _, ov, q⟩ := R1.own x a h
          exact ⟨ov, isCell_le k12 q⟩
    · rcases cAt x a hx with ⟨_, h⟩ | ⟨_, h⟩ <;> rcases cAt y a hy with ⟨_, h'⟩ | ⟨_, h'⟩
      · have : ∀ {l : List (Str × Addr)}, (l.map (·.2)).Nodup → (x, a) ∈ l → (y, a) ∈ l → x = y := by
          intro l
          induction l with
          | nil => intro _ h; cases h
          | cons p l ih =>
            intro nd m1 m2
            rw [List.map_cons, List.nodup_cons] at nd
            rcases List.mem_cons.mp m1 with e1 | m1
            · rcases List.mem_cons.mp m2 with e2 | m2
              · rw [← e2] at e1; cases e1; rfl
              · exact absurd (List.mem_map.mpr ⟨_, m2, by rw [← e1]⟩) nd.1
            · rcases List.mem_cons.mp m2 with e2 | m2
              · exact absurd (List.mem_map.mpr ⟨_, m1, by rw [← e2]⟩) nd.1
              · exact ih nd.2 m1 m2
        exact this hnd h h'
      · obtain ⟨_, _, _, ov, o, q, _⟩ := R1.own y a h'
        have := lt1 q; have := cownGt _ h; dsimp only at this; (first | lia | omega)
      · obtain ⟨_, _, _, ov, o, q, _⟩ := R1.own x a h
        have := lt1 q; have := cownGt _ h'; dsimp only at this; (first | lia | omega)
      · exact R1.inj x y a h h'
  have apIn : ∀ ys, Apart cenv ((acc, .it (setO w ys)) :: cells) own := fun ys a ha => by
    have := ownLt a ha
    refine ⟨fun hm => ?_, fun hm => ?_⟩
    · rcases mem_ownOf hm cn with e | ⟨x, hx⟩
      · rw [e, cloc] at this; (first | lia | omega)
      · rcases cAt x a hx with ⟨_, h⟩ | ⟨_, h⟩
        · have := cownGt _ h; dsimp only at this; (first | lia | omega)
        · exact (hap a ha).1 h.mem
    · rw [List.map_cons, List.mem_cons] at hm
      rcases hm with e | hm
      · rw [e] at this; exact Nat.lt_irrefl _ this
      · exact (hap a ha).2 hm
  have S1 : Stat w gi := S.le ((hg.trans hg1).trans kgi)
  have It := I.le kgi
  have hst2 : St 0 h2 := I.stay _ _ _ hst (fun a _ o e => k12 a o e) (R1.c.sub.trans k12)
  have gl : cenv.globals = mainGlobals := by rw [← hcenv]; exact Rl.fk.glob
  have bl : cenv.builtins = builtinsNs := by rw [← hcenv]; exact Rl.fk.bltn
  rw [cloc.symm]
  -- the loop
  have loop : ∀ s₃ : Shared, (∃ tk3, s₃ = { s with heap := h2, toks := tk3 }) → codeAny (model PR w) A (.compLoop (.SetComp elt [⟨target, iter, [], 0⟩] scope pos) 0 it (.ref acc) cenv) (compPost (model PR w) A No none Q (.ref acc) cenv.locals) s₃ := by
    rintro s₃ ⟨tk3, rfl⟩
    refine compLoopS (fun n s' => E5 fun i g' h' tk' l => A8 (s' = { s with heap := h', toks := tk' }) (Le gi g') ((∀ a ∈ own, g'.get? a = none)) (Rel w cenv g' h' l ((acc, .it (setO w i)) :: cells)) (InvL l) (St i h') (i ≤ items.length) (n = items.length - i)) ?_ items.length
      ⟨0, gi, h2, tk3, locIn, rfl, Le.refl _, (fun a ha => hidN a (ownHid a ha)), Ri, hin, hst2, Nat.zero_le _, rfl⟩
    rintro n s' ⟨i, g2, h3, tk4, l2, rfl, hg2, hown2, R2, hI2, hst3, hile, rfl⟩
    cases hd : items[i]? with
    | none =>
      have hl : i = items.length := Nat.le_antisymm hile (by simpa using hd)
      subst hl
      refine wpAny_mono (It.done { s with heap := h3, toks := tk4 } (fun s₁ => ∃ h' tk', s₁ = { s with heap := h', toks := tk' } ∧ Kept own h3 h' ∧ ∀ a ∈ fin.map (·.1), ∀ o, h3.get? a = some o → h'.get? a = some o) hst3 (hg2.trans R2.c.sub) fun h' tk' hk hf => ⟨h', tk', rfl, hk, hf⟩) ?_ (fun _ _ q => q)
      intro r s₁ hr
      cases r with
      | some v => exact hr.elim
      | none =>
        obtain ⟨h', tk', rfl, hk, hfk⟩ := hr
        obtain ⟨R3, _⟩ := R2.drawn hown2 (apIn _) hk
        have out : ∀ a o, h1.get? a = some o → a ∉ hid → g2.get? a = some o := fun a o e n => hg2 _ _ (hidK a o (k12 a o e) n)
        have notHid : ∀ a ∈ ownOf env, (∀ x, ¬ (scope.names.lookup x = some .free ∧ CellAt env x a)) → a ∉ hid := fun a ha hno hm => by
          have halt : @LT.lt Nat _ a acc := by obtain ⟨_, o, e⟩ := R1.owned (List.mem_append_left _ ha); exact lt1 e
          rcases List.mem_append.mp hm with hm | hm
          · rcases List.mem_append.mp hm with hm | hm
            · rcases mem_ownOf hm cn with e | ⟨x, hx⟩
              · rw [e, cloc] at halt; (first | lia | omega)
              · rcases cAt x a hx with ⟨_, h⟩ | h
                · have := cownGt _ h; dsimp only at this; (first | lia | omega)
                · exact hno x h
            · obtain ⟨p, hp, _, rfl⟩ := mem_muts hm
              rcases List.mem_cons.mp hp with rfl | hp
              · exact Nat.lt_irrefl _ halt
              · rcases mem_ownOf ha R1.fk.names with e | ⟨x, hx⟩
                · exact R1.notL (e ▸ List.mem_map.mpr ⟨p, hp, rfl⟩)
                · exact (R1.own x _ hx).2.2.1 (List.mem_map.mpr ⟨p, hp, rfl⟩)
          · exact (hap a hm).1 ha
        have capt : ∀ x a, scope.names.lookup x = some .free → CellAt env x a → ∃ od, (x, od) ∈ loc ∧ (x, od) ∈ l2 ∧ CellAt cenv x a := fun x a e h => by
          obtain ⟨_, od, h2', h3'⟩ := hio.free _ (mem_of_lookup e) rfl
          exact ⟨od, h2', hcap l2 hI2 _ h3' e, by rw [ckOf, e]; rfl, by rw [cfree x e]; exact h.2⟩
        have kA : ∀ x a, CellAt env x a → (∃ o, h1.get? a = some o ∧ g2.get? a = some o) ∨ ∃ od, (x, od) ∈ loc ∧ (x, od) ∈ l2 ∧ CellAt cenv x a := fun x a hx => by
          by_cases q : scope.names.lookup x = some .free
          · exact .inr (capt x a q hx)
          · obtain ⟨_, o, e⟩ := R1.owned (List.mem_append_left _ hx.mem)
            refine .inl ⟨o, e, out a o e (notHid a hx.mem fun y ⟨h5, h6⟩ => ?_)⟩
            exact q (R1.inj y x a h6 hx ▸ h5)
        have kL : ∃ o, h1.get? env.locals = some o ∧ g2.get? env.locals = some o := by
          obtain ⟨_, o, e⟩ := R1.owned (List.mem_append_left (muts cells) (.head _ : env.locals ∈ ownOf env))
          exact ⟨o, e, out _ o e (notHid _ (.head _) fun y ⟨_, h6⟩ => (R1.own y _ h6).2.1 rfl)⟩
        have kO : ∀ a ∈ ownOf env, (∃ o, h1.get? a = some o ∧ g2.get? a = some o) ∨ (∃ x od, CellAt env x a ∧ (x, od) ∈ loc ∧ (x, od) ∈ l2 ∧ CellAt cenv x a) := fun a ha => by
          rcases mem_ownOf ha R1.fk.names with rfl | ⟨x, hx⟩
          · exact .inl kL
          · rcases kA x a hx with h | ⟨od, h5, h6, h7⟩
            · exact .inl h
            · exact .inr ⟨x, od, hx, h5, h6, h7⟩
        have off : ∀ p ∈ ((acc, C.it (setO w items.length)) :: cells : Cls), p.1 ∉ ownOf env := fun p hp ha => by
          have halt : @LT.lt Nat _ p.1 acc := by obtain ⟨_, o, e⟩ := R1.owned (List.mem_append_left _ ha); exact lt1 e
          rcases List.mem_cons.mp hp with rfl | hp
          · exact Nat.lt_irrefl _ halt
          · rcases mem_ownOf ha R1.fk.names with e | ⟨x, hx⟩
            · exact R1.notL (e ▸ List.mem_map.mpr ⟨p, hp, rfl⟩)
            · exact (R1.own x _ hx).2.2.1 (List.mem_map.mpr ⟨p, hp, rfl⟩)
        obtain ⟨R4, k4, _⟩ := Rel.backComp R1 R3 (kgi.trans hg2) kO kA kL off
        obtain ⟨mm, hnn, _⟩ := R3.ns
        refine ⟨mm, hnn, fun h'' hsb => ?_⟩
        have Lf : cenv.locals ∉ ownOf env := fun ha => by
          have halt : @LT.lt Nat _ cenv.locals acc := by obtain ⟨_, o, e⟩ := R1.owned (List.mem_append_left _ ha); exact lt1 e
          rw [cloc] at halt; (first | lia | omega)
        have gL : (hideAll g2 (ownOf env)).get? cenv.locals = none := by
          cases q : (hideAll g2 (ownOf env)).get? cenv.locals with
          | none => rfl
          | some o => have := hideAll_le _ _ _ _ q; rw [R3.newL] at this; cases this
        have R5 := R4.sameBut hsb gL Lf R3.notL
        have R6 : Rel w env (hideAll g2 (ownOf env)) h'' loc (fin ++ (acc, .it (setO w items.length)) :: cells) := by
          refine Rel.addFins hnd' (fun p hp => ?_) (fun p hp => ?_) R5
          · obtain ⟨h5, h6⟩ := hfin p hp
            refine (h6 _ h3 k4 hst3).up (Le.refl _) fun o e1 => ?_
            have e3 := hfk p.1 (List.mem_map.mpr ⟨p, hp, rfl⟩) o e1
            have ne : p.1 ≠ cenv.locals := fun e => by have := ownLt _ h5; rw [e, cloc] at this; (first | lia | omega)
            exact (hsb.2 _ ne).trans e3
          · obtain ⟨h5, _⟩ := hfin p hp
            refine ⟨?_, (hap _ h5).1, (apIn items.length _ h5).2⟩
            cases q : (hideAll g2 (ownOf env)).get? p.1 with
            | none => rfl
            | some o => have := hideAll_le _ _ _ _ q; rw [hown2 _ h5] at this; cases this
        exact hQ (.ref acc) _ h'' tk' loc _ (hg1.trans k4) R6 ⟨.val (.ref acc), .val _, rfl, hR acc⟩
    | some d =>
      have hlt : i < items.length := (List.getElem?_eq_some_iff.mp hd).1
      refine wpAny_mono (It.next i d { s with heap := h3, toks := tk4 } (fun v s₂ => ∃ h' tk', s₂ = { s with heap := h', toks := tk' } ∧ Kept own h3 h' ∧ (∀ g', Le gi g' → NewIn h3 h' g' → Rep g' v d) ∧ St (i + 1) h') hd hst3 (hg2.trans R2.c.sub)
        fun v h' tk' x y z => ⟨h', tk', rfl, x, y, z⟩) ?_ (fun _ _ q => q)
      intro r s₁ hr
      cases r with
      | none => exact hr.elim
      | some v =>
        refine wpAny_mono hr ?_ (fun _ _ q => q)
        rintro _ s₂ ⟨h4, tk5, rfl, hk4, hrep, hst4⟩
        obtain ⟨R4a, _, _, _⟩ := R2.drawn hown2 (apIn _) hk4
        obtain ⟨oc, oc1, oc2, R4b⟩ := Rel.addOwn (own := own) (fun a ha => It.data _ _ hst4 a ha) (fun a ha => ⟨hown2 a ha, (apIn i a ha).1, (apIn i a ha).2⟩) R4a
        have R4 := R4b.top (Le.refl _)
        have kg4 := R4b.le_top (Le.refl _)
        have nw4 : NewIn h3 h4 (Mine.top cenv (oc ++ (acc, .it (setO w i)) :: cells) h4) := fun b o e1 e2 => hideAll_get _ e2 fun hm => by
          rcases List.mem_append.mp hm with hm | hm
          · obtain ⟨_, o', e⟩ := R2.owned (List.mem_append_left _ hm); rw [e1] at e; cases e
          · obtain ⟨p, hp, m, rfl⟩ := mem_muts hm
            rcases List.mem_append.mp hp with hp | hp
            · obtain ⟨h, _⟩ := oc1 p hp
              obtain ⟨o', e⟩ := It.data _ _ hst3 _ h
              rw [e1] at e; cases e
            · obtain ⟨_, o', e⟩ := R2.owned (List.mem_append_right _ (mem_muts' hp m)); rw [e1] at e; cases e
        have S4 : Stat w (Mine.top cenv (oc ++ (acc, .it (setO w i)) :: cells) h4) := S1.le (hg2.trans kg4)
        obtain ⟨l3, hAs, hI3, hE⟩ := turn cenv (oc ++ (acc, .it (setO w i)) :: cells) (fun p hp => List.mem_append_right _ (.tail _ hp)) ckind cnames gl bl l2 d hI2 (List.mem_of_getElem? hd)
        generalize Mine.top cenv (oc ++ (acc, .it (setO w i)) :: cells) h4 = g4 at R4 kg4 nw4 S4
        refine hAs A g4 v hA S4 (hrep _ (hg2.trans kg4) nw4) g4 { s with heap := h4, toks := tk5 } _ (Le.refl _) R4 ?_
        rintro _ g5 h5 tk6 l5 c5 hg5 R5 ⟨rfl, rfl⟩
        -- the turn's end
        have back : ∀ g9 h9 tk9, Le g4 g9 → Rel w cenv g9 h9 l5 (oc ++ (acc, .it (setO w (i + 1))) :: cells) → ∃ m, m < items.length - i ∧ E5 fun i' g' h' tk' l => A8 (({ s with heap := h9, toks := tk9 } : Shared) = { s with heap := h', toks := tk' }) (Le gi g') ((∀ a ∈ own, g'.get? a = none)) (Rel w cenv g' h' l ((acc, .it (setO w i')) :: cells)) (InvL l) (St i' h') (i' ≤ items.length) (m = items.length - i') := by
          rintro g9 h9 tk9 k9 R9
          have same : ∀ a ∈ own, ∀ o, h4.get? a = some o → h9.get? a = some o := fun a ha o e => by
            obtain ⟨p, hp, e1⟩ := List.mem_map.mp (oc2 a ha)
            obtain ⟨_, o', e2⟩ := oc1 p hp
            have c1 := (R4b.c.all p (List.mem_append_left _ hp)).1
            have c2 := (R9.c.all p (List.mem_append_left _ hp)).1
            rw [e2, e1] at c1 c2
            have c1' : h4.get? a = some o' := c1
            rw [e] at c1'; cases c1'
            exact c2
          have hown9 : ∀ a ∈ own, g9.get? a = none := fun a ha => by
            obtain ⟨p, hp, e1⟩ := List.mem_map.mp (oc2 a ha)
            obtain ⟨_, o', e2⟩ := oc1 p hp
            rw [← e1]
            exact (R9.c.all p (List.mem_append_left _ hp)).2 (by rw [e2]; rfl)
          have R10 := Rel.dropCells R9
          have kg10 : Le gi g9 := hg2.trans (kg4.trans k9)
          exact ⟨items.length - (i + 1), by (first | lia | omega), i + 1, g9, h9, tk9, l5, rfl, kg10, hown9, R10, hI3, It.stay _ _ _ hst4 same (kg10.trans R10.c.sub), hlt, rfl⟩
        refine Tri.use3 (hE A g5 hA (S4.le hg5)) (Le.refl _) R5 ?_
        rintro x g7 h7 tk8 hg7 R7 rx
        (first | obtain ⟨_, rfl⟩ := Rep.inv rx | cases rx)
        have hc := R7.c.all (acc, .it (setO w i)) (List.mem_append_right _ (.head _))
        obtain ⟨ho, ga⟩ := hc
        refine set_add_true (n := i) ho fun h8 tk9 hp8 hs8 => ?_
        have R8 := Rel.setCell (pre := oc) (c' := .it (setO w (i + 1))) R7 hp8 rfl hs8
        exact back g7 h8 tk9 (hg5.trans hg7) R8
  refine codeAny_compStart_set (loop _ ⟨tk1, rfl⟩) ?_
  exact wpAny_mono (It.self 0 { s with heap := h2, toks := tk1 } (fun v s' => v = it ∧ s' = { s with heap := h2, toks := tk1 }) hst2 (kgi.trans giSub |> fun _ => giSub) ⟨rfl, rfl⟩) (fun v s' ⟨e1, e2⟩ => by rw [e1, e2]; exact loop _ ⟨tk1, rfl⟩) (fun _ _ q => q.elim)
end
/-! F36 -/
section
set_option maxHeartbeats 1000000
section
variable {w : World} {A : Around} {s : Shared}
noncomputable abbrev IsBest (h : Heap) (S : Addr) (xs : Array Value) : Prop := ∃ c, h.get? S = some ({ cls := .type "list", data := .seq xs c } : Obj)

theorem call_max2 {l : Addr} {x y : Value} {b : Bool} {Q : Value → Shared → Prop} (hh : A.handled = none) (hl : s.heap.IsList l #[x, y]) (hc : ∀ s', Le s.heap s'.heap → RcOp .Gt A.in1 s' y x b)
    (hQ : ∀ h', Le s.heap h' → Q (if b then y else x) { s with heap := h' }) : wpAny (model PR w) A (call (.builtin "max") [.ref l]) Q No s := by
  have hname : (toString "max" ++ toString ".loop" : String) = "max.loop" := by decide
  have ll : l < s.heap.objs.size := let ⟨o, e, _⟩ := hl; Heap.lt_size e
  refine call_function_tree PySem.F.kind_max PySem.F.plain_max PySem.F.entry_max (PySem.F.args_max1 _) ?_
  show wpAny _ A.in1 (Builtin.Builtins.bindParams "max" ["key", "default"] 0 ⟨[], []⟩ >>= _) _ _ s
  refine wpAny_bind (wpAny_of_eq (show Builtin.Builtins.bindParams "max" ["key", "default"] 0 ⟨[], []⟩ = pure [none, none] from rfl) ?_)
  refine wpAny_bind (wpAny_pure ?_)
  refine wpAny_bind (wpAny_pyIter_list hl ?_)
  refine wpAny_bind (wpAny_newObj_type ?_)
  rw [hname]
  generalize hI : s.heap.objs.size = I
  generalize hh1 : s.heap.push { cls := .type "list_iterator", data := .fields #[.ref l, .int 0 0] } = h1
  have i1 : h1.IsListIter I l 0 := by rw [← hh1, ← hI]; exact ⟨_, Heap.get?_push_size _ rfl, rfl, rfl⟩
  have k1 : Le s.heap h1 := by rw [← hh1]; exact Le.push _ _
  have z1 : h1.objs.size = I + 1 := by rw [← hh1, Heap.size_push, hI]
  have lI : l ≠ I := by rw [← hI]; exact Nat.ne_of_lt ll
  generalize hS : h1.objs.size = S
  generalize hh2 : h1.push { cls := .type "list", data := .seq ([] : List Value).toArray } = h2
  have b2 : IsBest h2 S #[] := by rw [← hh2, ← hS]; exact ⟨0, Heap.get?_push_size _ rfl⟩
  have k2 : Le h1 h2 := by rw [← hh2]; exact Le.push _ _
  have SI : S ≠ I := by rw [hS] at z1; rw [z1]; exact Nat.succ_ne_self I
  have lS : l ≠ S := by rw [hS] at z1; rw [z1, ← hI]; exact Nat.ne_of_lt (Nat.lt_succ_of_lt ll)
  have i2 : h2.IsListIter I l 0 := let ⟨o, e, q⟩ := i1; ⟨o, k2 _ _ e, q⟩
  have l2 : h2.IsList l #[x, y] := isList_le (k1.trans k2) hl
  -- what stays
  have old : ∀ b o, s.heap.get? b = some o → b ≠ I ∧ b ≠ S := fun b o e => by
    have := Heap.lt_size e
    refine ⟨fun q => ?_, fun q => ?_⟩
    · rw [q, ← hI] at this; exact Nat.lt_irrefl _ this
    · rw [hS] at z1; rw [q, z1, ← hI] at this; exact Nat.not_succ_lt_self this
  have kk : Le s.heap h2 := k1.trans k2
  refine wpAny_pure ⟨plainId_quiet PySem.F.plain_max_loop _, ?_⟩
  -- the first
  refine codeAny_builtin PySem.F.entry_max_loop ?_
  rw [Around.under_plainId PySem.F.plain_max_loop _]
  obtain ⟨c2, b2⟩ := b2
  show wpAny _ A.in1 (seqItems? (.ref S) >>= _) _ _ _
  refine wpAny_bind (wpAny_seqItems b2 rfl ?_)
  show wpAny _ A.in1 (tryCatch (pyNext (.ref I)) _ >>= _) _ _ _
  refine wpAny_bind (wpAny_tryCatch (wpAny_pyNext_list_item i2 l2 (x := x) rfl fun h3 i3 hs3 => ?_))
  have b3 : h3.get? S = some _ := (hs3.2 S SI).trans b2
  have l3 : h3.IsList l #[x, y] := let ⟨o, e, q⟩ := l2; ⟨o, (hs3.2 l lI).trans e, q⟩
  have kk3 : Le s.heap h3 := fun b o e => (hs3.2 b (old b o e).1).trans (kk b o e)
  show wpAny _ A.in1 (updateSeq S (fun _ => #[x, x]) >>= _) _ _ _
  refine wpAny_bind ?_
  refine wpAny_updateSeq b3 rfl ?_
  have b4 := Heap.get?_update_self (Obj.mapSeq fun _ => #[x, x]) b3 rfl
  have hs4 : Heap.SameBut S h3 (h3.update S (Obj.mapSeq fun _ => #[x, x])) := Heap.SameBut.update ..
  generalize h3.update S (Obj.mapSeq fun _ => #[x, x]) = h4 at b4 hs4
  have i4 : h4.IsListIter I l 1 := let ⟨o, e, q⟩ := i3; ⟨o, (hs4.2 I SI.symm).trans e, q⟩
  have l4 : h4.IsList l #[x, y] := let ⟨o, e, q⟩ := l3; ⟨o, (hs4.2 l lS).trans e, q⟩
  have kk4 : Le s.heap h4 := fun b o e => (hs4.2 b (old b o e).2).trans (kk3 b o e)
  rw [hname]
  refine wpAny_pure ⟨plainId_quiet PySem.F.plain_max_loop _, ?_⟩
  -- the second
  refine codeAny_builtin PySem.F.entry_max_loop ?_
  rw [Around.under_plainId PySem.F.plain_max_loop _]
  show wpAny _ A.in1 (seqItems? (.ref S) >>= _) _ _ _
  refine wpAny_bind (wpAny_seqItems b4 rfl ?_)
  show wpAny _ A.in1 (tryCatch (pyNext (.ref I)) _ >>= _) _ _ _
  refine wpAny_bind (wpAny_tryCatch (wpAny_pyNext_list_item i4 l4 (x := y) rfl fun h5 i5 hs5 => ?_))
  have b5 : h5.get? S = some _ := (hs5.2 S SI).trans b4
  have l5 : h5.IsList l #[x, y] := let ⟨o, e, q⟩ := l4; ⟨o, (hs5.2 l lI).trans e, q⟩
  have kk5 : Le s.heap h5 := fun b o e => (hs5.2 b (old b o e).1).trans (kk4 b o e)
  show wpAny _ A.in1 (tryCatch (holding [y, y] (richCompare .Gt y x >>= _)) _ >>= _) _ _ _
  refine wpAny_bind (wpAny_tryCatch (wpAny_holding (wpAny_bind (hc _ kk5 _ _ _ _ ?_))))
  refine wpAny_bind (wpAny_holding (wpAny_truthy_bool ?_))
  refine wpAny_bind (wpAny_letGo (wpAny_pure ?_))
  have last : ∀ (h6 : Heap) (v : Value), (∃ c, h6.get? S = some ({ cls := .type "list", data := .seq #[v, v] c } : Obj)) → h6.IsListIter I l 2 → h6.IsList l #[x, y] → Le s.heap h6 → v = (if b then y else x) →
      codeAny (model PR w) A (.builtin "max.loop" ⟨[.ref I, .none, .ref S], []⟩) (fun r s' => match r with | .ok (.ret v) => Q v s' | .ok _ => False | .error e => No e s') { s with heap := h6 } := by
    rintro h6 v ⟨c6, b6⟩ i6 l6 kk6 hv
    refine codeAny_builtin PySem.F.entry_max_loop ?_
    rw [Around.under_plainId PySem.F.plain_max_loop _]
    show wpAny _ A.in1 (seqItems? (.ref S) >>= _) _ _ _
    refine wpAny_bind (wpAny_seqItems b6 rfl ?_)
    show wpAny _ A.in1 (tryCatch (pyNext (.ref I)) _ >>= _) _ _ _
    refine wpAny_bind (wpAny_tryCatch (wpAny_pyNext_list_end hh i6 l6 rfl fun h7 hs7 => ?_))
    have b7 : h7.get? S = some _ := hs7 S _ SI b6
    show wpAny _ A.in1 (updateSeq S (fun _ => #[]) >>= _) _ _ _
    refine wpAny_bind ?_
    refine wpAny_updateSeq b7 rfl (wpAny_bind (wpAny_letGo (wpAny_pure ?_)))
    have hs8 : Heap.SameBut S h7 (h7.update S (Obj.mapSeq fun _ => #[])) := Heap.SameBut.update ..
    show Q v _
    rw [hv]
    exact hQ _ fun b o e => (hs8.2 b (old b o e).2).trans (hs7 b o (old b o e).1 (kk6 b o e))
  cases b with
  | true =>
    simp only [if_true]
    refine wpAny_bind ?_
    refine wpAny_updateSeq b5 rfl (wpAny_bind (wpAny_letGo ?_))
    rw [hname]
    have b6 := Heap.get?_update_self (Obj.mapSeq fun _ => #[y, y]) b5 rfl
    have hs6 : Heap.SameBut S h5 (h5.update S (Obj.mapSeq fun _ => #[y, y])) := Heap.SameBut.update ..
    refine wpAny_pure ⟨plainId_quiet PySem.F.plain_max_loop _, last _ y ⟨_, b6⟩ ?_ ?_ ?_ rfl⟩
    · obtain ⟨o, e, q⟩ := i5; exact ⟨o, (hs6.2 I SI.symm).trans e, q⟩
    · obtain ⟨o, e, q⟩ := l5; exact ⟨o, (hs6.2 l lS).trans e, q⟩
    · exact fun b o e => (hs6.2 b (old b o e).2).trans (kk5 b o e)
  | false =>
    simp only [Bool.false_eq_true, if_false]
    refine wpAny_bind (wpAny_letGo ?_)
    rw [hname]
    exact wpAny_pure ⟨plainId_quiet PySem.F.plain_max_loop _, last _ x ⟨_, b5⟩ i5 l5 kk5 rfl⟩

theorem call_min2 {l : Addr} {x y : Value} {b : Bool} {Q : Value → Shared → Prop} (hh : A.handled = none) (hl : s.heap.IsList l #[x, y]) (hc : ∀ s', Le s.heap s'.heap → RcOp .Lt A.in1 s' y x b)
    (hQ : ∀ h', Le s.heap h' → Q (if b then y else x) { s with heap := h' }) : wpAny (model PR w) A (call (.builtin "min") [.ref l]) Q No s := by
  have hname : (toString "min" ++ toString ".loop" : String) = "min.loop" := by decide
  have ll : l < s.heap.objs.size := let ⟨o, e, _⟩ := hl; Heap.lt_size e
  refine call_function_tree PySem.F.kind_min PySem.F.plain_min PySem.F.entry_min (PySem.F.args_min1 _) ?_
  show wpAny _ A.in1 (Builtin.Builtins.bindParams "min" ["key", "default"] 0 ⟨[], []⟩ >>= _) _ _ s
  refine wpAny_bind (wpAny_of_eq (show Builtin.Builtins.bindParams "min" ["key", "default"] 0 ⟨[], []⟩ = pure [none, none] from rfl) ?_)
  refine wpAny_bind (wpAny_pure ?_)
  refine wpAny_bind (wpAny_pyIter_list hl ?_)
  refine wpAny_bind (wpAny_newObj_type ?_)
  rw [hname]
  generalize hI : s.heap.objs.size = I
  generalize hh1 : s.heap.push { cls := .type "list_iterator", data := .fields #[.ref l, .int 0 0] } = h1
  have i1 : h1.IsListIter I l 0 := by rw [← hh1, ← hI]; exact ⟨_, Heap.get?_push_size _ rfl, rfl, rfl⟩
  have k1 : Le s.heap h1 := by rw [← hh1]; exact Le.push _ _
  have z1 : h1.objs.size = I + 1 := by rw [← hh1, Heap.size_push, hI]
  have lI : l ≠ I := by rw [← hI]; exact Nat.ne_of_lt ll
  generalize hS : h1.objs.size = S
  generalize hh2 : h1.push { cls := .type "list", data := .seq ([] : List Value).toArray } = h2
  have b2 : IsBest h2 S #[] := by rw [← hh2, ← hS]; exact ⟨0, Heap.get?_push_size _ rfl⟩
  have k2 : Le h1 h2 := by rw [← hh2]; exact Le.push _ _
  have SI : S ≠ I := by rw [hS] at z1; rw [z1]; exact Nat.succ_ne_self I
  have lS : l ≠ S := by rw [hS] at z1; rw [z1, ← hI]; exact Nat.ne_of_lt (Nat.lt_succ_of_lt ll)
  have i2 : h2.IsListIter I l 0 := let ⟨o, e, q⟩ := i1; ⟨o, k2 _ _ e, q⟩
  have l2 : h2.IsList l #[x, y] := isList_le (k1.trans k2) hl
  -- what stays
  have old : ∀ b o, s.heap.get? b = some o → b ≠ I ∧ b ≠ S := fun b o e => by
    have := Heap.lt_size e
    refine ⟨fun q => ?_, fun q => ?_⟩
    · rw [q, ← hI] at this; exact Nat.lt_irrefl _ this
    · rw [hS] at z1; rw [q, z1, ← hI] at this; exact Nat.not_succ_lt_self this
  have kk : Le s.heap h2 := k1.trans k2
  refine wpAny_pure ⟨plainId_quiet PySem.F.plain_min_loop _, ?_⟩
  -- the first
  refine codeAny_builtin PySem.F.entry_min_loop ?_
  rw [Around.under_plainId PySem.F.plain_min_loop _]
  obtain ⟨c2, b2⟩ := b2
  show wpAny _ A.in1 (seqItems? (.ref S) >>= _) _ _ _
  refine wpAny_bind (wpAny_seqItems b2 rfl ?_)
  show wpAny _ A.in1 (tryCatch (pyNext (.ref I)) _ >>= _) _ _ _
  refine wpAny_bind (wpAny_tryCatch (wpAny_pyNext_list_item i2 l2 (x := x) rfl fun h3 i3 hs3 => ?_))
  have b3 : h3.get? S = some _ := (hs3.2 S SI).trans b2
  have l3 : h3.IsList l #[x, y] := let ⟨o, e, q⟩ := l2; ⟨o, (hs3.2 l lI).trans e, q⟩
  have kk3 : Le s.heap h3 := fun b o e => (hs3.2 b (old b o e).1).trans (kk b o e)
  show wpAny _ A.in1 (updateSeq S (fun _ => #[x, x]) >>= _) _ _ _
  refine wpAny_bind ?_
  refine wpAny_updateSeq b3 rfl ?_
  have b4 := Heap.get?_update_self (Obj.mapSeq fun _ => #[x, x]) b3 rfl
  have hs4 : Heap.SameBut S h3 (h3.update S (Obj.mapSeq fun _ => #[x, x])) := Heap.SameBut.update ..
  generalize h3.update S (Obj.mapSeq fun _ => #[x, x]) = h4 at b4 hs4
  have i4 : h4.IsListIter I l 1 := let ⟨o, e, q⟩ := i3; ⟨o, (hs4.2 I SI.symm).trans e, q⟩
  have l4 : h4.IsList l #[x, y] := let ⟨o, e, q⟩ := l3; ⟨o, (hs4.2 l lS).trans e, q⟩
  have kk4 : Le s.heap h4 := fun b o e => (hs4.2 b (old b o e).2).trans (kk3 b o e)
  rw [hname]
  refine wpAny_pure ⟨plainId_quiet PySem.F.plain_min_loop _, ?_⟩
  -- the second
  refine codeAny_builtin PySem.F.entry_min_loop ?_
  rw [Around.under_plainId PySem.F.plain_min_loop _]
  show wpAny _ A.in1 (seqItems? (.ref S) >>= _) _ _ _
  refine wpAny_bind (wpAny_seqItems b4 rfl ?_)
  show wpAny _ A.in1 (tryCatch (pyNext (.ref I)) _ >>= _) _ _ _
  refine wpAny_bind (wpAny_tryCatch (wpAny_pyNext_list_item i4 l4 (x := y) rfl fun h5 i5 hs5 => ?_))
  have b5 : h5.get? S = some _ := (hs5.2 S SI).trans b4
  have l5 : h5.IsList l #[x, y] := let ⟨o, e, q⟩ := l4; ⟨o, (hs5.2 l lI).trans e, q⟩
  have kk5 : Le s.heap h5 := fun b o e => (hs5.2 b (old b o e).1).trans (kk4 b o e)
  show wpAny _ A.in1 (tryCatch (holding [y, y] (richCompare .Lt y x >>= _)) _ >>= _) _ _ _
  refine wpAny_bind (wpAny_tryCatch (wpAny_holding (wpAny_bind (hc _ kk5 _ _ _ _ ?_))))
  refine wpAny_bind (wpAny_holding (wpAny_truthy_bool ?_))
  refine wpAny_bind (wpAny_letGo (wpAny_pure ?_))
  have last : ∀ (h6 : Heap) (v : Value), (∃ c, h6.get? S = some ({ cls := .type "list", data := .seq #[v, v] c } : Obj)) → h6.IsListIter I l 2 → h6.IsList l #[x, y] → Le s.heap h6 → v = (if b then y else x) →
      codeAny (model PR w) A (.builtin "min.loop" ⟨[.ref I, .none, .ref S], []⟩) (fun r s' => match r with | .ok (.ret v) => Q v s' | .ok _ => False | .error e => No e s') { s with heap := h6 } := by
    rintro h6 v ⟨c6, b6⟩ i6 l6 kk6 hv
    refine codeAny_builtin PySem.F.entry_min_loop ?_
    rw [Around.under_plainId PySem.F.plain_min_loop _]
    show wpAny _ A.in1 (seqItems? (.ref S) >>= _) _ _ _
    refine wpAny_bind (wpAny_seqItems b6 rfl ?_)
    show wpAny _ A.in1 (tryCatch (pyNext (.ref I)) _ >>= _) _ _ _
    refine wpAny_bind (wpAny_tryCatch (wpAny_pyNext_list_end hh i6 l6 rfl fun h7 hs7 => ?_))
    have b7 : h7.get? S = some _ := hs7 S _ SI b6
    show wpAny _ A.in1 (updateSeq S (fun _ => #[]) >>= _) _ _ _
    refine wpAny_bind ?_
    refine wpAny_updateSeq b7 rfl (wpAny_bind (wpAny_letGo (wpAny_pure ?_)))
    have hs8 : Heap.SameBut S h7 (h7.update S (Obj.mapSeq fun _ => #[])) := Heap.SameBut.update ..
    show Q v _
    rw [hv]
    exact hQ _ fun b o e => (hs8.2 b (old b o e).2).trans (hs7 b o (old b o e).1 (kk6 b o e))
  cases b with
  | true =>
    simp only [if_true]
    refine wpAny_bind ?_
    refine wpAny_updateSeq b5 rfl (wpAny_bind (wpAny_letGo ?_))
    rw [hname]
    have b6 := Heap.get?_update_self (Obj.mapSeq fun _ => #[y, y]) b5 rfl
    have hs6 : Heap.SameBut S h5 (h5.update S (Obj.mapSeq fun _ => #[y, y])) := Heap.SameBut.update ..
    refine wpAny_pure ⟨plainId_quiet PySem.F.plain_min_loop _, last _ y ⟨_, b6⟩ ?_ ?_ ?_ rfl⟩
    · obtain ⟨o, e, q⟩ := i5; exact ⟨o, (hs6.2 I SI.symm).trans e, q⟩
    · obtain ⟨o, e, q⟩ := l5; exact ⟨o, (hs6.2 l lS).trans e, q⟩
    · exact fun b o e => (hs6.2 b (old b o e).2).trans (kk5 b o e)
  | false =>
    simp only [Bool.false_eq_true, if_false]
    refine wpAny_bind (wpAny_letGo ?_)
    rw [hname]
    exact wpAny_pure ⟨plainId_quiet PySem.F.plain_min_loop _, last _ x ⟨_, b5⟩ i5 l5 kk5 rfl⟩
end
section
variable {w : World} {k : Nat}
theorem B.max2 {ss ts : List Str} : BFn w (k + 1) (.builtin "max") [.lst [sL ss, sL ts]] (sL (if lsGt ts ss then ts else ss)) := by
  intro A g vs hA S r s Q hg hQ
  obtain ⟨u, rfl, ru⟩ := one r
  cases ru with
  | lst hl rs =>
  obtain ⟨x, y, rfl, rx, ry⟩ := two rs
  refine call_max2 hA.handled (isList_le hg hl) (b := lsGt ts ss) (fun s' hs' => rc_gt_strs (hg.trans hs') hA.in1.c ry rx) fun h' hk => ?_
  refine hQ _ h' s.toks hk fun g' hg' _ => ?_
  cases lsGt ts ss with
  | true => exact ry.le hg'
  | false => exact rx.le hg'
theorem B.min2L {ss ts : List Str} : BFn w (k + 1) (.builtin "min") [.lst [sL ss, sL ts]] (sL (if lsLt ts ss then ts else ss)) := by
  intro A g vs hA S r s Q hg hQ
  obtain ⟨u, rfl, ru⟩ := one r
  cases ru with
  | lst hl rs =>
  obtain ⟨x, y, rfl, rx, ry⟩ := two rs
  refine call_min2 hA.handled (isList_le hg hl) (b := lsLt ts ss) (fun s' hs' => rc_lt_strs (hg.trans hs') hA.in1.c ry rx) fun h' hk => ?_
  refine hQ _ h' s.toks hk fun g' hg' _ => ?_
  cases lsLt ts ss with
  | true => exact ry.le hg'
  | false => exact rx.le hg'
end
end
/-! P1 -/
section
set_option maxHeartbeats 1000000
/-! the steps and the paths of the law -/
noncomputable def threeS : List Str := ["a", "ab", "b"]
noncomputable def steps1 (ls : List (List Str)) : List (List Str) := ls.flatMap fun l => threeS.map fun x => l ++ [x]
noncomputable def allSteps : List (List Str) := [[]] ++ steps1 [[]] ++ steps1 (steps1 [[]]) ++ steps1 (steps1 (steps1 [[]]))
noncomputable def pathS (ss : List Str) : Str := "/" ++ Txt.join "/" ss
noncomputable def keepS (c : Str) : Bool := ((c.length : Int) != 0) && c != "."
structure PGood (s : List Str) : Prop where
  len : (pathS s).length ≤ 400
  abs : Txt.startswith (pathS s) "/" = true
  parts : (Txt.split (pathS s) "/").filter keepS = s
  few : (Builtin.Str.partsBetween (pathS s) (Builtin.Str.occurrences (pathS s) "/" 0 (pathS s).length ((pathS s).length + 1)) ("/" : Str).length).length ≤ 400
  fewS : (Txt.split (pathS s) "/").length ≤ 400
  plen : ∀ c ∈ Txt.split (pathS s) "/", c.length ≤ 400
  short : s.length ≤ 3
  join : ∀ i ∈ List.range 4, JoinOk "/" (s.take i) = true
  jlen : ∀ i ∈ List.range 4, (Txt.join "/" (s.take i)).length ≤ 400
theorem good_all : ∀ s ∈ allSteps, PGood s := by
  have h1 : ∀ s ∈ allSteps, (pathS s).length ≤ 400 := by decide +kernel
  have h2 : ∀ s ∈ allSteps, Txt.startswith (pathS s) "/" = true := by decide +kernel
  have h3 : ∀ s ∈ allSteps, (Txt.split (pathS s) "/").filter keepS = s := by decide +kernel
  have h4 : ∀ s ∈ allSteps, (Builtin.Str.partsBetween (pathS s) (Builtin.Str.occurrences (pathS s) "/" 0 (pathS s).length ((pathS s).length + 1)) ("/" : Str).length).length ≤ 400 := by decide +kernel
  have h5 : ∀ s ∈ allSteps, (Txt.split (pathS s) "/").length ≤ 400 := by decide +kernel
  have h6 : ∀ s ∈ allSteps, ∀ c ∈ Txt.split (pathS s) "/", c.length ≤ 400 := by decide +kernel
  have h7 : ∀ s ∈ allSteps, s.length ≤ 3 := by decide +kernel
  have h8 : ∀ s ∈ allSteps, ∀ i ∈ List.range 4, JoinOk "/" (s.take i) = true := by decide +kernel
  have h9 : ∀ s ∈ allSteps, ∀ i ∈ List.range 4, (Txt.join "/" (s.take i)).length ≤ 400 := by decide +kernel
  exact fun s hs => ⟨h1 s hs, h2 s hs, h3 s hs, h4 s hs, h5 s hs, h6 s hs, h7 s hs, h8 s hs, h9 s hs⟩
/-- the like first steps -/
noncomputable def commL : List Str → List Str → List Str
  | a :: as, b :: bs => if a = b then a :: commL as bs else []
  | _, _ => []
theorem commL_symm : ∀ s t : List Str, commL s t = commL t s
  | [], [] => rfl
  | [], b :: bs => rfl
  | a :: as, [] => rfl
  | a :: as, b :: bs => by
    unfold commL
    by_cases e : a = b
    · rw [if_pos e, if_pos e.symm, e, commL_symm as bs]
    · rw [if_neg e, if_neg fun q => e q.symm]
theorem lexAt_succ (e l : Nat → Bool) (fin : Bool) : ∀ k i, lexAt e l fin k (i + 1) = lexAt (fun j => e (j + 1)) (fun j => l (j + 1)) fin k i
  | 0, _ => rfl
  | k + 1, i => by
    unfold lexAt
    rw [lexAt_succ e l fin k (i + 1)]
theorem lsLt_cons (a b : Str) (as bs : List Str) : lsLt (a :: as) (b :: bs) = if a = b then lsLt as bs else slt a b := by
  unfold lsLt
  have hm : min (a :: as).length (b :: bs).length = min as.length bs.length + 1 := by simp only [List.length_cons]; (first | lia | omega)
  rw [hm]
  conv => lhs; unfold lexAt
  have e0 : ((a :: as).getD 0 Str.empty == (b :: bs).getD 0 Str.empty) = decide (a = b) := by
    show (a == b) = _
    by_cases e : a = b
    · subst e; simp
    · rw [decide_eq_false e]; simpa using e
  simp only [e0, decide_eq_true_eq]
  by_cases e : a = b
  · rw [if_pos e, if_pos e, lexAt_succ]
    congr 1
    simp
  · rw [if_neg e, if_neg e]; rfl
theorem lsGt_eq (as bs : List Str) : lsGt as bs = lsLt bs as := by
  unfold lsGt lsLt
  rw [Nat.min_comm]
  congr 1
  funext j
  exact BEq.comm
theorem slt_total {a b : Str} (h : a ≠ b) : slt a b = true ∨ slt b a = true := by
  unfold slt
  simp only [decide_eq_true_eq]
  have : a.cps.toList ≠ b.cps.toList := fun e => h (by obtain ⟨a⟩ := a; obtain ⟨b⟩ := b; congr; exact Array.toList_inj.mp e)
  exact Decidable.byContradiction fun hn => this (List.le_antisymm (not_or.mp hn).2 (not_or.mp hn).1)
theorem slt_asymm {a b : Str} (h : slt a b = true) : slt b a = false := by
  unfold slt at h ⊢
  simp only [decide_eq_true_eq, decide_eq_false_iff_not] at h ⊢
  exact List.lt_asymm h
/-- what the loop of commonpath needs of its two lists -/
noncomputable def Reach (s1 s2 : List Str) : Prop := ∀ i, i < s1.length → (∀ j, j < i → s1[j]? = s2[j]?) → i < s2.length
theorem minmax_ok : ∀ s t : List Str, Reach (if lsLt t s then t else s) (if lsGt t s then t else s) ∧ commL (if lsLt t s then t else s) (if lsGt t s then t else s) = commL s t := by
  have key : ∀ s t : List Str, (lsLt t s = true → lsLt s t = false) ∧ (lsLt t s = false → lsLt s t = false → s = t) ∧ (lsLt s t = true → Reach s t) := by
    intro s
    induction s with
    | nil =>
      intro t
      cases t with
      | nil => exact ⟨fun h => (by cases h), fun _ _ => rfl, fun h => (by cases h)⟩
      | cons b bs => exact ⟨fun h => (by cases h), fun _ h => (by cases h), fun _ i hi => (by cases hi)⟩
    | cons a as ih =>
      intro t
      cases t with
      | nil => exact ⟨fun _ => rfl, fun h => (by cases h), fun h => (by cases h)⟩
      | cons b bs =>
        obtain ⟨i1, i2, i3⟩ := ih bs
        rw [lsLt_cons, lsLt_cons]
        by_cases e : a = b
        · rw [if_pos e.symm, if_pos e]
          refine ⟨i1, fun h1 h2 => by rw [e, i2 h1 h2], fun h i hi hj => ?_⟩
          cases i with
          | zero => simp
          | succ i => exact Nat.succ_lt_succ (i3 h i (by simpa using hi) fun j hj' => by simpa using hj (j + 1) (Nat.succ_lt_succ hj'))
        · rw [if_neg fun q => e q.symm, if_neg e]
          refine ⟨fun h => slt_asymm h, fun h1 h2 => ?_, fun h i hi hj => ?_⟩
          · rcases slt_total e with h | h
            · rw [h2] at h; cases h
            · rw [h1] at h; cases h
          · cases i with
            | zero => simp
            | succ i => have := hj 0 (Nat.succ_pos _); simp at this; exact absurd this e
  intro s t
  rw [lsGt_eq]
  obtain ⟨k1, k2, k3⟩ := key s t
  obtain ⟨_, _, k3'⟩ := key t s
  cases h1 : lsLt t s with
  | true =>
    rw [k1 h1]
    simp only [if_true, Bool.false_eq_true, if_false]
    exact ⟨k3' h1, commL_symm _ _⟩
  | false =>
    cases h2 : lsLt s t with
    | true =>
      simp only [if_true, Bool.false_eq_true, if_false]
      exact ⟨k3 h2, trivial⟩
    | false =>
      simp only [Bool.false_eq_true, if_false]
      have := k2 h1 h2
      subst this
      exact ⟨fun i hi _ => hi, rfl⟩
/-- the loop's end: the first place where the two part -/
theorem commL_cut : ∀ {s t : List Str} {i : Nat} {x y : Str}, s[i]? = some x → t[i]? = some y → x ≠ y → (∀ j, j < i → s[j]? = t[j]?) → commL s t = s.take i
  | a :: as, b :: bs, 0, x, y, hx, hy, hne, _ => by
    simp at hx hy
    subst hx hy
    unfold commL
    rw [if_neg hne]
    rfl
  | a :: as, b :: bs, i + 1, x, y, hx, hy, hne, hj => by
    have e : a = b := by simpa using hj 0 (Nat.succ_pos _)
    unfold commL
    rw [if_pos e, commL_cut (s := as) (t := bs) (i := i) (by simpa using hx) (by simpa using hy) hne fun j hj' => by simpa using hj (j + 1) (Nat.succ_lt_succ hj')]
    rfl
theorem commL_whole : ∀ {s t : List Str}, s.length ≤ t.length → (∀ j, j < s.length → s[j]? = t[j]?) → commL s t = s
  | [], t, _, _ => by cases t <;> rfl
  | a :: as, [], h, _ => by simp at h
  | a :: as, b :: bs, h, hj => by
    have e : a = b := by simpa using hj 0 (Nat.succ_pos _)
    unfold commL
    rw [if_pos e, commL_whole (by simpa using h) fun j hj' => by simpa using hj (j + 1) (Nat.succ_lt_succ hj')]
theorem allC {α : Type} {P : α → Prop} {a : α} {l : List α} (h : P a) (r : ∀ x ∈ l, P x) : ∀ x ∈ a :: l, P x := fun x hx => by
  rcases List.mem_cons.mp hx with rfl | hx
  · exact h
  · exact r x hx
theorem allN {α : Type} {P : α → Prop} : ∀ x ∈ ([] : List α), P x := fun _ hx => by cases hx
end
/-! W10 -/
section
set_option maxHeartbeats 2000000
section
variable {w : World} {env : Env} {k N : Nat} {loc : Loc} {cells : Cls}
theorem pathS_good {s : List Str} (h : PGood s) {n : Nat} (hn : n ≤ s.length) : JoinOk "/" (s.take n) = true ∧ (Txt.join "/" (s.take n)).length ≤ 400 := by
  have := h.short
  exact ⟨h.join n (List.mem_range.mpr (by (first | lia | omega))), h.jlen n (List.mem_range.mpr (by (first | lia | omega)))⟩
theorem commL_take : ∀ s t : List Str, ∃ n, n ≤ s.length ∧ commL s t = s.take n
  | [], t => ⟨0, Nat.le_refl _, by cases t <;> rfl⟩
  | a :: as, [] => ⟨0, Nat.zero_le _, rfl⟩
  | a :: as, b :: bs => by
    unfold commL
    by_cases e : a = b
    · rw [if_pos e]
      obtain ⟨n, h1, h2⟩ := commL_take as bs
      exact ⟨n + 1, Nat.succ_le_succ h1, by rw [h2]; rfl⟩
    · rw [if_neg e]; exact ⟨0, Nat.zero_le _, rfl⟩
theorem Tru.tup {d : D} {ds : List D} (hz : ((d :: ds).length : Int) < 2 ^ 63) : Tru w k (.tup (d :: ds)) true := by
  intro A g x hA S r s Q hg hQ
  obtain ⟨⟨_, _⟩, rfl, ht, rs⟩ := Rep.inv r
  rename_i a vs
  have e : vs.length = (d :: ds).length := rs.length
  refine PyProof.Rows.truthy_tuple (isTup_le hg ht) (by rw [List.size_toArray, e]; exact hz) ?_
  have : (!vs.toArray.isEmpty) = true := by cases vs <;> simp_all
  rw [this]
  exact hQ _ s.heap _ (Le.refl _) fun _ _ _ => rfl
theorem Exs.drop {ex c0 : Cls} {ss : List Stmt} {P : Post} (h : Exs w env k loc c0 ss P) : Exs w env k loc (ex ++ c0) ss P := fun A g₀ hA S g s Q hg R hQ => h A g₀ hA S g s Q hg R.dropCells hQ
noncomputable def splitF : D → Option D
  | .str z => some (.lst ((Txt.split z "/").map .str))
  | _ => none
noncomputable def keepF : D → Option D
  | .str c => if keepS c then some (.str c) else none
  | _ => none
noncomputable def partsF : D → Option D
  | .lst ds => some (.lst (ds.filterMap keepF))
  | _ => none
theorem keepF_pos {c : Str} (h : keepS c = true) : keepF (.str c) = some (.str c) := by show (if keepS c = true then _ else _) = _; rw [if_pos h]
theorem keepF_neg {c : Str} (h : keepS c = false) : keepF (.str c) = none := by show (if keepS c = true then _ else _) = _; rw [if_neg (by rw [h]; decide)]
theorem keepF_map (l : List Str) : (l.map D.str).filterMap keepF = (l.filter keepS).map D.str := by
  induction l with
  | nil => rfl
  | cons c l ih =>
    rw [List.map_cons, List.filterMap_cons, List.filter_cons]
    unfold keepF at ih ⊢
    dsimp only
    cases keepS c <;> simp [ih]
noncomputable abbrev LP (pa se cu sp ia c s1 s2 co i pr : Option D) : Loc := [("paths", pa), ("sep", se), ("curdir", cu), ("split_paths", sp), ("isabs", ia), ("c", c), ("s1", s1), ("s2", s2), ("common", co), ("i", i), ("prefix", pr)]
set_option maxHeartbeats 8000000 in
theorem F.commonpath {s t : List Str} (hs0 : PGood s) (ht0 : PGood t) : Fn w (k + 6) (.ref 189) [.lst [.str (pathS s), .str (pathS t)]] cells (fun r c => r = .str (pathS (commL s t)) ∧ c = cells) := by
  let x := pathS s
  let y := pathS t
  refine Fn.def (ds := [.lst [.str (pathS s), .str (pathS t)]]) ["paths", "sep", "curdir", "split_paths", "isabs", "c", "s1", "s2", "common", "i", "prefix"] ["paths"] (f := 189) (by exact rfl) (by with_unfolding_all rfl) (binds_plain rfl (binds1 fun u => by with_unfolding_all rfl)) (by decide) (by decide) (by decide) ?h
  intro env hs hg hb
  have idf : ∀ (g : Heap) (vs : List Value), RepAll g vs [.str (pathS s), .str (pathS t)] → IdFn w (k + 3) (.ref 156) vs := by
    intro g vs r v hv
    obtain ⟨u1, u2, rfl, r1, r2⟩ := two r
    have : ∃ z t, v = .str z t := by
      rcases List.mem_cons.mp hv with rfl | hv
      · (first | obtain ⟨_, rfl⟩ := Rep.inv r1 | cases r1); exact ⟨_, _, rfl⟩
      · rw [List.mem_singleton.mp hv]; (first | obtain ⟨_, rfl⟩ := Rep.inv r2 | cases r2); exact ⟨_, _, rfl⟩
    obtain ⟨z, tk, rfl⟩ := this
    exact Fn.mono (F.fspath (k := k + 2) (x := z) (.inr ⟨tk, rfl⟩)) fun d c h => h.1
  have two : ∀ d ∈ [D.str (pathS s), D.str (pathS t)], ∃ u, PGood u ∧ d = .str (pathS u) := allC ⟨s, hs0, rfl⟩ (allC ⟨t, ht0, rfl⟩ allN)
  refine Exs.cons (Ex.assign (d := .tup [.str (pathS s), .str (pathS t)]) (Ev.tupMap (k := k + 3) (by walk_at "mine b") (by walk_at "mine b") (by walk_at "mine g") (by walk_at "mine n") idf (by simp [sizeLine_eq])) (by walk_at "mine p") (kNe hs (by decide)) ?_)
  refine Exs.cons (Ex.ite (b := false) (Tr.not (b := true) (Tr.val (d := .tup [.str (pathS s), .str (pathS t)]) (by walk_at "mine n") (Tru.tup (by simp)))) (fun e => by cases e) (fun _ => ?_))
  refine Exs.nil ?_
  refine Exs.cons (Ex.ite (b := false) (Tr.val (d := .bool false) (Ev.ofC (EvC.callB (ds := [.str (pathS s), .val (.type "bytes")]) (b := .builtin "isinstance") trivial (by walk_at "mine b")
    (EvL.cons (Ev.itemT (n := 0) (ds := [.str (pathS s), .str (pathS t)]) (by walk_at "mine n") Ev.int (by (first | lia | omega)) (by (first | lia | omega)) rfl) (EvL.cons (by walk_at "mine b") EvL.nil)) (BFn.fn B.isi_bytes ⟨rfl, rfl⟩))) Tru.bool) (fun e => by cases e) (fun _ => ?_))
  refine Exs.cons (Ex.assign (d := .str "/") Ev.str (by walk_at "mine p") (kNe hs (by decide)) ?_)
  refine Exs.cons (Ex.assign (d := .str ".") Ev.str (by walk_at "mine p") (kNe hs (by decide)) ?_)
  refine Exs.nil ?_
  refine Exs.cons (Ex.try ?_)
  -- split_paths
  refine Exs.cons (Ex.assignComp (loc' := fun a => LP (some (.tup [.str (pathS s), .str (pathS t)])) (some (.str "/")) (some (.str ".")) (some (.val (.ref a))) none none none none none none none) ([(".0", none), ("path", none), ("sep", some (.str "/"))] : Loc) (fun l => ∃ fo, l = ([(".0", none), ("path", fo), ("sep", some (.str "/"))] : Loc)) splitF
    (ItE.tuple (ds := [.str (pathS s), .str (pathS t)]) (by walk_at "mine n")).z ?io1 ⟨_, rfl⟩ ?cap1 ?turn1 List.nodup_nil (by simp [sizeLine_eq]) (fun a => by walk_at "mine p") (kNe hs (by decide)) (fun a1 => ?next1) ?sw1)
  case sw1 =>
    have h1 : env.kindOf "split_paths" = some .local := kOf hs (by decide)
    have h2 : (env.blockKind == .function) = true := by unfold Env.blockKind; rw [hs]; rfl
    show pure (env.blockKind == .function && env.kindOf "split_paths" == some .local && _ && _) = pure true
    rw [h1, h2]; rfl
  case io1 =>
    exact ⟨rfl, by decide, allC (fun e => by cases e) (allC (fun e => by cases e) (allC (fun _ => ⟨kOf hs (by decide), _, by walk_at "mine m", by walk_at "mine m"⟩) allN)),
      allC (.inl ⟨by decide, rfl⟩) (allC (.inl ⟨by decide, rfl⟩) (allC (.inr (.inr ⟨rfl, by walk_at "mine m"⟩)) allN)), (by decide : ([".0", "path", "sep"] : List Str).Nodup), allC ⟨rfl, rfl⟩ (allC ⟨rfl, rfl⟩ (allC ⟨rfl, rfl⟩ allN))⟩
  case cap1 =>
    rintro l ⟨fo, rfl⟩
    exact allC (fun h => absurd h (by decide)) (allC (fun h => absurd h (by decide)) (allC (fun _ => by walk_at "mine m") allN))
  case turn1 =>
    rintro cenv c hc ck cn cg cb l d ⟨fo, rfl⟩ hd
    obtain ⟨u, hu, rfl⟩ := two d hd
    have kf : cenv.kindOf "path" = some .local := by unfold Env.kindOf; rw [cn]; rfl
    have := hu.len
    refine ⟨[(".0", none), ("path", some (.str (pathS u))), ("sep", some (.str "/"))], true, As.name (by walk_at "mine p") (by rw [kf]; decide), ⟨_, rfl⟩, rfl, fun _ => ⟨_, rfl, ?_⟩, fun h => by cases h⟩
    exact Ev.meth (d := .str (pathS u)) (ds := [.str "/"]) (by walk_at "mine n") Recv.str (EvL.cons (by walk_at "mine n") EvL.nil) (M.split (by decide) (by rw [sizeLine_eq]; (first | lia | omega)) (by have := hu.few; rw [sizeLine_eq]; (first | lia | omega))) PySem.F.plainAttrs_str PySem.F.slot_str_split PySem.F.type_str_split
  case next1 =>
  refine Exs.freeze (pre := []) (by walk_at "mine m") (by walk_at "mine p") ?_
  -- isabs
  refine Exs.cons (Ex.try (Exs.cons (Ex.assignTC (EvC.setComp ([(".0", none), ("p", none), ("sep", some (.str "/"))] : Loc) (fun l => ∃ fo, l = ([(".0", none), ("p", fo), ("sep", some (.str "/"))] : Loc))
    (ItE.tuple (ds := [.str (pathS s), .str (pathS t)]) (by walk_at "mine n")).z ?io2 ⟨_, rfl⟩ ?cap2 ?turn2 List.nodup_nil (fun a2 => ⟨_, As.oneOfSet (.head _) (As.name (by walk_at "mine p") (kNe hs (by decide))), ?next2⟩)))))
  case io2 =>
    exact ⟨rfl, by decide, allC (fun e => by cases e) (allC (fun e => by cases e) (allC (fun _ => ⟨kOf hs (by decide), _, by walk_at "mine m", by walk_at "mine m"⟩) allN)),
      allC (.inl ⟨by decide, rfl⟩) (allC (.inl ⟨by decide, rfl⟩) (allC (.inr (.inr ⟨rfl, by walk_at "mine m"⟩)) allN)), (by decide : ([".0", "p", "sep"] : List Str).Nodup), allC ⟨rfl, rfl⟩ (allC ⟨rfl, rfl⟩ (allC ⟨rfl, rfl⟩ allN))⟩
  case cap2 =>
    rintro l ⟨fo, rfl⟩
    exact allC (fun h => absurd h (by decide)) (allC (fun h => absurd h (by decide)) (allC (fun _ => by walk_at "mine m") allN))
  case turn2 =>
    rintro cenv c hc ck cn cg cb l d ⟨fo, rfl⟩ hd
    obtain ⟨u, hu, rfl⟩ := two d hd
    have kf : cenv.kindOf "p" = some .local := by unfold Env.kindOf; rw [cn]; rfl
    refine ⟨[(".0", none), ("p", some (.str (pathS u))), ("sep", some (.str "/"))], As.name (by walk_at "mine p") (by rw [kf]; decide), ⟨_, rfl⟩, ?_⟩
    rw [← hu.abs]
    exact Ev.meth (d := .str (pathS u)) (ds := [.str "/"]) (by walk_at "mine n") Recv.str (EvL.cons (by walk_at "mine n") EvL.nil) M.startswith PySem.F.plainAttrs_str PySem.F.slot_str_startswith PySem.F.type_str_startswith
  case next2 =>
  refine Exs.nil (Exs.nil ?_)
  refine Exs.drop (ex := [_]) ?_
  have parts : ∀ d ∈ [D.lst ((Txt.split (pathS s) "/").map .str), D.lst ((Txt.split (pathS t) "/").map .str)], ∃ u, PGood u ∧ d = .lst ((Txt.split (pathS u) "/").map .str) := allC ⟨s, hs0, rfl⟩ (allC ⟨t, ht0, rfl⟩ allN)
  -- the parts that count
  refine Exs.cons (Ex.assignComp (loc' := fun a => LP (some (.tup [.str (pathS s), .str (pathS t)])) (some (.str "/")) (some (.str ".")) (some (.val (.ref a))) (some (.bool true)) none none none none none none) ([(".0", none), ("s", none), ("curdir", some (.str "."))] : Loc) (fun l => ∃ fo, l = ([(".0", none), ("s", fo), ("curdir", some (.str "."))] : Loc)) partsF
    (ItE.list (ds := [.lst ((Txt.split (pathS s) "/").map .str), .lst ((Txt.split (pathS t) "/").map .str)]) (by walk_at "mine n")).z ?io3 ⟨_, rfl⟩ ?cap3 ?turn3 List.nodup_nil (by simp [sizeLine_eq]) (fun a => by walk_at "mine p") (kNe hs (by decide)) (fun a3 => ?next3) ?sw3)
  case sw3 =>
    have h1 : env.kindOf "split_paths" = some .local := kOf hs (by decide)
    have h2 : (env.blockKind == .function) = true := by unfold Env.blockKind; rw [hs]; rfl
    show pure (env.blockKind == .function && env.kindOf "split_paths" == some .local && _ && _) = pure true
    rw [h1, h2]; rfl
  case io3 =>
    exact ⟨rfl, by decide, allC (fun e => by cases e) (allC (fun e => by cases e) (allC (fun _ => ⟨kOf hs (by decide), _, by walk_at "mine m", by walk_at "mine m"⟩) allN)),
      allC (.inl ⟨by decide, rfl⟩) (allC (.inl ⟨by decide, rfl⟩) (allC (.inr (.inr ⟨rfl, by walk_at "mine m"⟩)) allN)), (by decide : ([".0", "s", "curdir"] : List Str).Nodup), allC ⟨rfl, rfl⟩ (allC ⟨rfl, rfl⟩ (allC ⟨rfl, rfl⟩ allN))⟩
  case cap3 =>
    rintro l ⟨fo, rfl⟩
    exact allC (fun h => absurd h (by decide)) (allC (fun h => absurd h (by decide)) (allC (fun _ => by walk_at "mine m") allN))
  case turn3 =>
    rintro cenv c hc ck cn cg cb l d ⟨fo, rfl⟩ hd
    obtain ⟨u, hu, rfl⟩ := parts d hd
    have kf : cenv.kindOf "s" = some .local := by unfold Env.kindOf; rw [cn]; rfl
    refine ⟨[(".0", none), ("s", some (.lst ((Txt.split (pathS u) "/").map .str))), ("curdir", some (.str "."))], true, As.name (by walk_at "mine p") (by rw [kf]; decide), ⟨_, rfl⟩, rfl, fun _ => ⟨_, rfl, ?_⟩, fun h => by cases h⟩
    refine Ev.freeze (EvC.comp ([(".0", none), ("c", none), ("curdir", some (.str "."))] : Loc) (fun l => ∃ fo, l = ([(".0", none), ("c", fo), ("curdir", some (.str "."))] : Loc)) keepF
      (ItE.list (ds := (Txt.split (pathS u) "/").map .str) (by walk_at "mine n")) ?io4 ⟨_, rfl⟩ ?cap4 ?turn4 (by have := hu.fewS; rw [List.length_map, sizeLine_eq]; (first | lia | omega)) (fun a => ⟨a, rfl, rfl⟩))
    case io4 =>
      exact ⟨rfl, by decide, allC (fun e => by cases e) (allC (fun e => by cases e) (allC (fun _ => ⟨by unfold Env.kindOf; rw [cn]; rfl, _, by walk_at "mine m", by walk_at "mine m"⟩) allN)),
        allC (.inl ⟨by decide, rfl⟩) (allC (.inl ⟨by decide, rfl⟩) (allC (.inr (.inr ⟨rfl, by walk_at "mine m"⟩)) allN)), (by decide : ([".0", "c", "curdir"] : List Str).Nodup), allC ⟨rfl, rfl⟩ (allC ⟨rfl, rfl⟩ (allC ⟨rfl, rfl⟩ allN))⟩
    case cap4 =>
      rintro l ⟨fo, rfl⟩
      exact allC (fun h => absurd h (by decide)) (allC (fun h => absurd h (by decide)) (allC (fun _ => by walk_at "mine m") allN))
    case turn4 =>
      rintro cenv2 c2 hc2 ck2 cn2 cg2 cb2 l d ⟨fo, rfl⟩ hd
      obtain ⟨z, hz, rfl⟩ := List.mem_map.mp hd
      have kf : cenv2.kindOf "c" = some .local := by unfold Env.kindOf; rw [cn2]; rfl
      have zl := hu.plen z hz
      refine ⟨[(".0", none), ("c", some (.str z)), ("curdir", some (.str "."))], keepS z, As.name (by walk_at "mine p") (by rw [kf]; decide), ⟨_, rfl⟩, ?_, fun e => ⟨.str z, keepF_pos e, by walk_at "mine n"⟩, fun e => keepF_neg e⟩
      exact Tr.and2 (a := ((z.length : Int) != 0)) (b := (z != ".")) (Tr.val (d := .str z) (by walk_at "mine n") (Tru.str (by (first | lia | omega)))) (fun _ => Tr.cmp (a := .str z) (b := .str ".") (by walk_at "mine n") (by walk_at "mine n") Cmp.nes)
  case next3 =>
  have e3 : ([D.lst ((Txt.split (pathS s) "/").map .str), D.lst ((Txt.split (pathS t) "/").map .str)]).filterMap partsF = [sL s, sL t] := by
    simp only [List.filterMap_cons, List.filterMap_nil, partsF, keepF_map, hs0.parts, ht0.parts]
  rw [e3]
  refine Exs.freeze (pre := []) (by walk_at "mine m") (by walk_at "mine p") ?_
  obtain ⟨hreach, hcomm⟩ := minmax_ok s t
  generalize hm1 : (if lsLt t s then t else s) = m1 at hreach hcomm
  generalize hm2 : (if lsGt t s then t else s) = m2 at hreach hcomm
  have l1 : m1.length ≤ 3 := by rw [← hm1]; split <;> first | exact ht0.short | exact hs0.short
  have l2 : m2.length ≤ 3 := by rw [← hm2]; split <;> first | exact ht0.short | exact hs0.short
  refine Exs.cons (Ex.assign (d := sL m1) (by rw [← hm1]; exact Ev.ofC (EvC.callB (ds := [.lst [sL s, sL t]]) (b := .builtin "min") trivial (by walk_at "mine b") (EvL.cons (by walk_at "mine n") EvL.nil) (BFn.fn B.min2L ⟨rfl, rfl⟩))) (by walk_at "mine p") (kNe hs (by decide)) ?_)
  refine Exs.cons (Ex.assign (d := sL m2) (by rw [← hm2]; exact Ev.ofC (EvC.callB (ds := [.lst [sL s, sL t]]) (b := .builtin "max") trivial (by walk_at "mine b") (EvL.cons (by walk_at "mine n") EvL.nil) (BFn.fn B.max2 ⟨rfl, rfl⟩))) (by walk_at "mine p") (kNe hs (by decide)) ?_)
  refine Exs.cons (Ex.assign (d := sL m1) (by walk_at "mine n") (by walk_at "mine p") (kNe hs (by decide)) ?_)
  let LQ := fun (oc oi : Option D) (co : List Str) => LP (some (.tup [.str (pathS s), .str (pathS t)])) (some (.str "/")) (some (.str ".")) (some (.lst [sL s, sL t])) (some (.bool true)) oc (some (sL m1)) (some (sL m2)) (some (sL co)) oi none
  refine Exs.cons (Ex.mono (R := fun f l c => f = .next ∧ c = cells ∧ ∃ oc oi, l = LQ oc oi (commL m1 m2)) (Ex.for (fun i l c => c = cells ∧ (∃ oc oi, l = LQ oc oi m1) ∧ ∀ j, j < i → m1[j]? = m2[j]?) (ItE.enum (ds := m1.map .str) (by walk_at "mine b") (by walk_at "mine n")) ⟨rfl, ⟨none, none, rfl⟩, fun j hj => absurd hj (Nat.not_lt_zero _)⟩ ?turn ?done) ?after)
  case turn =>
    rintro i d l c hd ⟨rfl, ⟨oc, oi, rfl⟩, hj⟩ hc
    obtain ⟨z, hz, rfl⟩ : ∃ z, m1[i]? = some z ∧ d = .tup [.int (i : Int), .str z] := by
      rw [List.getElem?_map] at hd
      obtain ⟨⟨d0, j⟩, h1, rfl⟩ := Option.map_eq_some_iff.mp hd
      rw [List.getElem?_zipIdx] at h1
      obtain ⟨d1, h2, h3⟩ := Option.map_eq_some_iff.mp h1
      rw [List.getElem?_map] at h2
      obtain ⟨z, h4, rfl⟩ := Option.map_eq_some_iff.mp h2
      cases h3
      exact ⟨z, h4, by simp⟩
    have hi1 : i < m1.length := (List.getElem?_eq_some_iff.mp hz).1
    have hi2 : i < m2.length := hreach i hi1 hj
    have hz2 : m2[i]? = some m2[i] := by simp [hi2]
    refine ⟨_, As.tup (AsL.cons (As.name (by walk_at "mine p") (kNe hs (by decide))) (AsL.cons (As.name (by walk_at "mine p") (kNe hs (by decide))) AsL.nil)), ?_⟩
    refine Exs.cons (Ex.ite (Tr.cmp (a := .str z) (b := .str m2[i]) (by walk_at "mine n") (Ev.item (n := (i : Int)) (d := sL m2) (ds := m2.map .str) (by walk_at "mine n") (by walk_at "mine n") .fz (by (first | lia | omega)) (by (first | lia | omega)) (by rw [Int.toNat_natCast, List.getElem?_map, hz2]; rfl)) Cmp.nes) (fun e => ?y) (fun e => ?n))
    case y =>
      have ne : z ≠ m2[i] := by simpa using e
      refine Exs.cons (Ex.assign (d := sL (commL m1 m2)) (by rw [commL_cut hz hz2 ne hj]; unfold sL; rw [List.map_take]; exact Ev.upto i (by walk_at "mine n") .fz (by walk_at "mine n") (by rw [List.length_map, sizeLine_eq]; (first | lia | omega))) (by walk_at "mine p") (kNe hs (by decide)) ?_)
      exact Exs.cons (Ex.brk ⟨rfl, rfl, _, _, rfl⟩)
    case n =>
      have eq : z = m2[i] := by simpa using e
      refine Exs.nil (Exs.nil ⟨rfl, rfl, ⟨_, _, rfl⟩, fun j hj' => ?_⟩)
      rcases Nat.lt_succ_iff_lt_or_eq.mp hj' with h | rfl
      · exact hj j h
      · rw [hz, hz2, eq]
  case done =>
    rintro l c hc ⟨rfl, ⟨oc, oi, rfl⟩, hj⟩
    have hlen : ((m1.map D.str).zipIdx.map fun p => D.tup [.int (p.2 : Int), p.1]).length = m1.length := by simp
    rw [hlen] at hj
    refine ⟨rfl, rfl, oc, oi, ?_⟩
    have : m1.length ≤ m2.length := by
      rcases Nat.lt_or_ge m2.length m1.length with h | h
      · exact absurd (hreach m2.length h fun j hj' => hj j (Nat.lt_trans hj' h)) (Nat.lt_irrefl _)
      · exact h
    rw [commL_whole this hj]
  case after =>
    rintro f l c ⟨rfl, rfl, oc, oi, rfl⟩
    rw [hcomm]
    obtain ⟨n, hn, hcn⟩ := commL_take s t
    obtain ⟨hok, hjl⟩ := pathS_good hs0 hn
    rw [← hcn] at hok hjl
    refine Exs.cons (Ex.assign (d := .str "/") (Ev.ifexp (c := true) (Tr.val (d := .bool true) (by walk_at "mine n") Tru.bool) (fun _ => by walk_at "mine n") (fun e => by cases e)) (by walk_at "mine p") (kNe hs (by decide)) ?_)
    refine Exs.cons (Ex.ret (d := .str (pathS (commL s t))) (Ev.bin (a := .str "/") (b := .str (Txt.join "/" (commL s t))) (by walk_at "mine n") (Ev.meth (d := .str "/") (ds := [.lst ((commL s t).map .str)]) (by walk_at "mine n") Recv.str (EvL.cons (by walk_at "mine n") EvL.nil) (M.join hok) PySem.F.plainAttrs_str PySem.F.slot_str_join PySem.F.type_str_join) (Bin.cat (by rw [sizeLine_eq]; show 1 + _ ≤ _; (first | lia | omega)))) ?_)
    exact ⟨[], _, rfl, rfl, rfl, rfl⟩
end
end
/-! S1 -/
section
set_option maxHeartbeats 1000000
/-! the sort's questions, asked of a strict total order -/
section
variable {n : Nat} {lt : Nat → Nat → Bool} {St : Shared → Prop} {ask : Nat → Nat → (Bool → Shared → Prop) → Shared → Prop}
structure Tot (n : Nat) (lt : Nat → Nat → Bool) : Prop where
  tot : ∀ i j, i < n → j < n → i ≠ j → lt i j = false → lt j i = true
  trans : ∀ i j k, i < n → j < n → k < n → lt i j = true → lt j k = true → lt i k = true
noncomputable def Asks (n : Nat) (lt : Nat → Nat → Bool) (St : Shared → Prop) (ask : Nat → Nat → (Bool → Shared → Prop) → Shared → Prop) : Prop :=
  ∀ i j s (C : Bool → Shared → Prop), i < n → j < n → i ≠ j → St s → (∀ s', St s' → C (lt i j) s') → ask i j C s
structure Pm (n : Nat) (p : Array Nat) : Prop where
  perm : p.toList.Perm (List.range n)
theorem Pm.size {p : Array Nat} (h : Pm n p) : p.size = n := by have := h.perm.length_eq; simpa using this
theorem Pm.isLt {p : Array Nat} (h : Pm n p) {i : Nat} (hi : i < n) : p.getD i 0 < n := by
  have hs := h.size
  have : p.getD i 0 ∈ p.toList := by
    have e : p.getD i 0 = p[i] := by simp [hs, hi]
    rw [e]; simp
  simpa using h.perm.mem_iff.mp this
theorem Pm.apart {p : Array Nat} (h : Pm n p) {i j : Nat} (hi : i < n) (hj : j < n) (hij : i ≠ j) : p.getD i 0 ≠ p.getD j 0 := by
  have hs := h.size
  have nd : p.toList.Nodup := h.perm.nodup_iff.mpr List.nodup_range
  have e1 : p.getD i 0 = p.toList[i]'(by simpa [hs] using hi) := by simp [hs, hi]
  have e2 : p.getD j 0 = p.toList[j]'(by simpa [hs] using hj) := by simp [hs, hj]
  rw [e1, e2]
  intro e
  exact hij ((List.getElem_inj nd).mp e)
theorem Pm.mirror {p : Array Nat} (h : Pm n p) {i j : Nat} : Pm n (kas_rev p i j) := ⟨(Array.perm_iff_toList_perm.mp (mirror_perm p i j _)).trans h.perm⟩
theorem Pm.bubble {p : Array Nat} (h : Pm n p) {i j : Nat} : Pm n (bubble p i j) := ⟨(Array.perm_iff_toList_perm.mp (bubble_perm p i j)).trans h.perm⟩
noncomputable def Srt (lt : Nat → Nat → Bool) (p : Array Nat) (m : Nat) : Prop := ∀ i j, i < j → j < m → lt (p.getD i 0) (p.getD j 0) = true
noncomputable def Dsc (lt : Nat → Nat → Bool) (p : Array Nat) (m : Nat) : Prop := ∀ i j, i < j → j < m → lt (p.getD j 0) (p.getD i 0) = true
theorem Srt.next {p : Array Nat} {m : Nat} (T : Tot n lt) (hp : Pm n p) (h1 : 1 ≤ m) (hm : m < n) (h : Srt lt p m) (hl : lt (p.getD (m - 1) 0) (p.getD m 0) = true) : Srt lt p (m + 1) := by
  intro i j hij hj
  by_cases e : j = m
  · subst e
    by_cases e2 : i = j - 1
    · subst e2; exact hl
    · exact T.trans _ _ _ (hp.isLt (by (first | lia | omega))) (hp.isLt (by (first | lia | omega))) (hp.isLt hm) (h i (j - 1) (by (first | lia | omega)) (by (first | lia | omega))) hl
  · exact h i j hij (by (first | lia | omega))
theorem Dsc.next {p : Array Nat} {m : Nat} (T : Tot n lt) (hp : Pm n p) (h1 : 1 ≤ m) (hm : m < n) (h : Dsc lt p m) (hl : lt (p.getD m 0) (p.getD (m - 1) 0) = true) : Dsc lt p (m + 1) := by
  intro i j hij hj
  by_cases e : j = m
  · subst e
    by_cases e2 : i = j - 1
    · subst e2; exact hl
    · exact T.trans _ _ _ (hp.isLt hm) (hp.isLt (by (first | lia | omega))) (hp.isLt (by (first | lia | omega))) hl (h i (j - 1) (by (first | lia | omega)) (by (first | lia | omega)))
  · exact h i j hij (by (first | lia | omega))
theorem asc_ok (T : Tot n lt) (hask : Asks n lt St ask) {p : Array Nat} (hp : Pm n p) : ∀ (f m : Nat) (s : Shared) (G : Nat → Shared → Prop), 1 ≤ m → m + f ≤ n → Srt lt p m → St s →
    (∀ m' s', m ≤ m' → m' ≤ m + f → Srt lt p m' → (m' < m + f → lt (p.getD m' 0) (p.getD (m' - 1) 0) = true) → St s' → G m' s') → (kas_asc p f m).kasWp ask G s := by
  intro f
  induction f with
  | zero => intro m s G h1 h2 h3 h4 h; exact h m s (Nat.le_refl _) (Nat.le_refl _) h3 (fun q => by (first | lia | omega)) h4
  | succ f ih =>
    intro m s G h1 h2 h3 h4 h
    rw [kas_asc]
    refine hask _ _ s _ (hp.isLt (by (first | lia | omega))) (hp.isLt (by (first | lia | omega))) (hp.apart (by (first | lia | omega)) (by (first | lia | omega)) (by (first | lia | omega))) h4 fun s' h4' => ?_
    cases hc : lt (p.getD m 0) (p.getD (m - 1) 0) with
    | true => exact h m s' (Nat.le_refl _) (by (first | lia | omega)) h3 (fun _ => hc) h4'
    | false =>
      have := T.tot _ _ (hp.isLt (by (first | lia | omega))) (hp.isLt (by (first | lia | omega))) (hp.apart (by (first | lia | omega)) (by (first | lia | omega)) (by (first | lia | omega))) hc
      exact ih (m + 1) s' G (by (first | lia | omega)) (by (first | lia | omega)) (h3.next T hp h1 (by (first | lia | omega)) this) h4' fun m' s'' a1 a2 a3 a4 a5 => h m' s'' (by (first | lia | omega)) (by (first | lia | omega)) a3 (fun q => a4 (by (first | lia | omega))) a5
theorem desc_ok (T : Tot n lt) (hask : Asks n lt St ask) {p : Array Nat} (hp : Pm n p) : ∀ (f m : Nat) (s : Shared) (G : Array Nat × Nat × Nat → Shared → Prop), 1 ≤ m → m + f ≤ n → Dsc lt p m → St s →
    (∀ m' s', m ≤ m' → m' ≤ m + f → Dsc lt p m' → St s' → G (p, m', 0) s') → (kas_desc f p m 0).kasWp ask G s := by
  intro f
  induction f with
  | zero => intro m s G h1 h2 h3 h4 h; exact h m s (Nat.le_refl _) (Nat.le_refl _) h3 h4
  | succ f ih =>
    intro m s G h1 h2 h3 h4 h
    rw [kas_desc]
    refine hask _ _ s _ (hp.isLt (by (first | lia | omega))) (hp.isLt (by (first | lia | omega))) (hp.apart (by (first | lia | omega)) (by (first | lia | omega)) (by (first | lia | omega))) h4 fun s' h4' => ?_
    cases hc : lt (p.getD m 0) (p.getD (m - 1) 0) with
    | true =>
      exact ih (m + 1) s' G (by (first | lia | omega)) (by (first | lia | omega)) (h3.next T hp h1 (by (first | lia | omega)) hc) h4' fun m' s'' a1 a2 a3 a5 => h m' s'' (by (first | lia | omega)) (by (first | lia | omega)) a3 a5
    | false =>
      have hd := T.tot _ _ (hp.isLt (by (first | lia | omega))) (hp.isLt (by (first | lia | omega))) (hp.apart (by (first | lia | omega)) (by (first | lia | omega)) (by (first | lia | omega))) hc
      refine hask _ _ s' _ (hp.isLt (by (first | lia | omega))) (hp.isLt (by (first | lia | omega))) (hp.apart (by (first | lia | omega)) (by (first | lia | omega)) (by (first | lia | omega))) h4' fun s'' h4'' => ?_
      rw [hd]
      exact h m s'' (Nat.le_refl _) (by (first | lia | omega)) h3 h4''
theorem getD_eq {p q : Array Nat} {i j : Nat} (h : p[i]? = q[j]?) : p.getD i 0 = q.getD j 0 := by
  rw [Array.getD_eq_getD_getElem?, Array.getD_eq_getD_getElem?, h]
theorem Dsc.rev {p : Array Nat} {m : Nat} (hp : Pm n p) (hm : m ≤ n) (h : Dsc lt p m) : Srt lt (kas_rev p 0 m) m := by
  intro i j hij hj
  have e : ∀ k, k < m → (kas_rev p 0 m).getD k 0 = p.getD (m - 1 - k) 0 := fun k hk => getD_eq (by
    unfold kas_rev
    rw [getElem?_mirror_all (by rw [hp.size]; exact hm), if_pos ⟨Nat.zero_le _, hk⟩, Nat.zero_add])
  rw [e i (by (first | lia | omega)), e j hj]
  exact h _ _ (by (first | lia | omega)) (by (first | lia | omega))
theorem count_ok (T : Tot n lt) (hask : Asks n lt St ask) {p : Array Nat} (hp : Pm n p) (h2 : 2 ≤ n) {s : Shared} (hs : St s) {G : Nat × Array Nat → Shared → Prop}
    (h : ∀ m p' s', 1 ≤ m → m ≤ n → Pm n p' → Srt lt p' m → St s' → G (m, p') s') : (kas_count n p).kasWp ask G s := by
  unfold kas_count
  rw [KasT.kasWp_bind]
  refine asc_ok T hask hp (n - 1) 1 s _ (Nat.le_refl _) (by (first | lia | omega)) (fun i j hij hj => by (first | lia | omega)) hs fun m s1 m1 m2 m3 m4 hs1 => ?_
  by_cases e : m = n
  · subst e
    rw [if_pos (by simp)]
    exact h m p s1 m1 (Nat.le_refl _) hp m3 hs1
  · rw [if_neg (by simpa using e)]
    have hmn : m < n := by (first | lia | omega)
    have hlt := m4 (by (first | lia | omega))
    by_cases e1 : m > 1
    · rw [if_pos e1]
      refine hask _ _ s1 _ (hp.isLt (by (first | lia | omega))) (hp.isLt (by (first | lia | omega))) (hp.apart (by (first | lia | omega)) (by (first | lia | omega)) (by (first | lia | omega))) hs1 fun s2 hs2 => ?_
      rw [m3 0 (m - 1) (by (first | lia | omega)) (by (first | lia | omega))]
      exact h m p s2 m1 (by (first | lia | omega)) hp m3 hs2
    · rw [if_neg e1]
      obtain rfl : m = 1 := by (first | lia | omega)

      unfold kas_descPart
      rw [KasT.kasWp_bind]
      have d2 : Dsc lt p 2 := fun i j hij hj => by
        obtain rfl : j = 1 := by (first | lia | omega)
        obtain rfl : i = 0 := by (first | lia | omega)
        exact hlt
      refine desc_ok T hask hp (n - (1 + 1)) (1 + 1) s1 _ (by (first | lia | omega)) (by (first | lia | omega)) d2 hs1 fun k s2 k1 k2 k3 hs2 => ?_
      dsimp only
      rw [if_neg (Nat.lt_irrefl 0)]
      unfold kas_tail3
      rw [KasT.kasWp_bind]
      have hr : Srt lt (kas_rev p 0 k) k := k3.rev hp (by (first | lia | omega))
      refine asc_ok T hask (hp.mirror (i := 0) (j := k)) (n - k) k s2 _ (by (first | lia | omega)) (by (first | lia | omega)) hr hs2 fun q s3 q1 q2 q3 _ hs3 => ?_
      exact h q _ s3 (by (first | lia | omega)) (by (first | lia | omega)) hp.mirror q3 hs3
theorem place_ok (T : Tot n lt) (hask : Asks n lt St ask) {p : Array Nat} (hp : Pm n p) {k : Nat} (hk : k < n) : ∀ (f l r : Nat) (s : Shared) (G : Nat → Shared → Prop), l ≤ r → r ≤ k → r ≤ l + f →
    (∀ i, i < l → lt (p.getD i 0) (p.getD k 0) = true) → (∀ i, r ≤ i → i < k → lt (p.getD k 0) (p.getD i 0) = true) → Srt lt p k → St s →
    (∀ m s', m ≤ k → (∀ i, i < m → lt (p.getD i 0) (p.getD k 0) = true) → (∀ i, m ≤ i → i < k → lt (p.getD k 0) (p.getD i 0) = true) → St s' → G m s') → (kas_place p k f l r).kasWp ask G s := by
  intro f
  induction f with
  | zero => 
    intro l r s G h1 h2 h3 h4 h5 h6 h7 h
    obtain rfl : l = r := by (first | lia | omega)
    exact h l s h2 h4 h5 h7
  | succ f ih =>
    intro l r s G h1 h2 h3 h4 h5 h6 h7 h
    rw [kas_place]
    by_cases e : l ≥ r
    · rw [if_pos e]
      obtain rfl : l = r := by (first | lia | omega)
      exact h l s h2 h4 h5 h7
    · rw [if_neg e]
      have hmid : (l + r) / 2 < k := by (first | lia | omega)
      refine hask _ _ s _ (hp.isLt hk) (hp.isLt (by (first | lia | omega))) (hp.apart hk (by (first | lia | omega)) (by (first | lia | omega))) h7 fun s' h7' => ?_
      cases hc : lt (p.getD k 0) (p.getD ((l + r) / 2) 0) with
      | true =>
        refine ih l ((l + r) / 2) s' G (by (first | lia | omega)) (by (first | lia | omega)) (by (first | lia | omega)) h4 (fun i hi hik => ?_) h6 h7' h
        by_cases e2 : i = (l + r) / 2
        · rw [e2]; exact hc
        · exact T.trans _ _ _ (hp.isLt hk) (hp.isLt (by (first | lia | omega))) (hp.isLt (by (first | lia | omega))) hc (h6 _ i (by (first | lia | omega)) hik)
      | false =>
        have hd := T.tot _ _ (hp.isLt hk) (hp.isLt (by (first | lia | omega))) (hp.apart hk (by (first | lia | omega)) (by (first | lia | omega))) hc
        refine ih ((l + r) / 2 + 1) r s' G (by (first | lia | omega)) h2 (by (first | lia | omega)) (fun i hi => ?_) h5 h6 h7' h
        by_cases e2 : i = (l + r) / 2
        · rw [e2]; exact hd
        · exact T.trans _ _ _ (hp.isLt (by (first | lia | omega))) (hp.isLt (by (first | lia | omega))) (hp.isLt hk) (h6 i _ (by (first | lia | omega)) hmid) hd
theorem bubble_srt {p : Array Nat} (hp : Pm n p) {k m : Nat} (hk : k < n) (hm : m ≤ k) (h : Srt lt p k) (h1 : ∀ i, i < m → lt (p.getD i 0) (p.getD k 0) = true) (h2 : ∀ i, m ≤ i → i < k → lt (p.getD k 0) (p.getD i 0) = true) :
    Srt lt (bubble p k (k - m)) (k + 1) := by
  have e : ∀ i, (bubble p k (k - m)).getD i 0 = if i = m then p.getD k 0 else if m < i ∧ i ≤ k then p.getD (i - 1) 0 else p.getD i 0 := fun i => by
    have := getElem?_bubble (xs := p) (src := k) (by rw [hp.size]; exact hk) (k - m) (by (first | lia | omega)) i
    rw [show k - (k - m) = m by (first | lia | omega)] at this
    split
    · rename_i q; rw [if_pos q] at this; exact getD_eq this
    · rename_i q
      rw [if_neg q] at this
      split
      · rename_i q2; rw [if_pos q2] at this; exact getD_eq this
      · rename_i q2; rw [if_neg q2] at this; exact getD_eq this
  intro i j hij hj
  rw [e i, e j]
  by_cases a : i = m
  · rw [if_pos a, if_neg (by (first | lia | omega)), if_pos (by (first | lia | omega))]
    exact h2 _ (by (first | lia | omega)) (by (first | lia | omega))
  · rw [if_neg a]
    by_cases b : j = m
    · rw [if_pos b, if_neg (by (first | lia | omega))]
      exact h1 i (by (first | lia | omega))
    · rw [if_neg b]
      by_cases c : m < i ∧ i ≤ k
      · rw [if_pos c, if_pos (by (first | lia | omega))]
        exact h _ _ (by (first | lia | omega)) (by (first | lia | omega))
      · rw [if_neg c]
        by_cases d : m < j ∧ j ≤ k
        · rw [if_pos d]; exact h _ _ (by (first | lia | omega)) (by (first | lia | omega))
        · rw [if_neg d]; exact h _ _ (by (first | lia | omega)) (by (first | lia | omega))
theorem bin_ok (T : Tot n lt) (hask : Asks n lt St ask) : ∀ (f k : Nat) (p : Array Nat) (s : Shared) (G : Array Nat → Shared → Prop), Pm n p → k + f = n → Srt lt p k → St s →
    (∀ p' s', Pm n p' → Srt lt p' n → St s' → G p' s') → (kas_bin f p k).kasWp ask G s := by
  intro f
  induction f with
  | zero => 
    intro k p s G hp hk h3 h4 h
    obtain rfl : k = n := by (first | lia | omega)
    exact h p s hp h3 h4
  | succ f ih =>
    intro k p s G hp hk h3 h4 h
    rw [kas_bin, KasT.kasWp_bind]
    refine place_ok T hask hp (by (first | lia | omega)) k 0 k s _ (Nat.zero_le _) (Nat.le_refl _) (by (first | lia | omega)) (fun i hi => by (first | lia | omega)) (fun i hi hik => by (first | lia | omega)) h3 h4 fun m s' m1 m2 m3 h4' => ?_
    exact ih (k + 1) _ s' G hp.bubble (by (first | lia | omega)) (bubble_srt hp (by (first | lia | omega)) m1 h3 m2 m3) h4' h
theorem kas_sort_ok (T : Tot n lt) (hask : Asks n lt St ask) (h2 : 2 ≤ n) {s : Shared} (hs : St s) {G : Array Nat → Shared → Prop}
    (h : ∀ p s', Pm n p → Srt lt p n → St s' → G p s') : (kas_sort n).kasWp ask G s := by
  unfold kas_sort
  rw [KasT.kasWp_bind]
  refine count_ok T hask (p := List.toArray (List.range n)) ⟨.refl _⟩ h2 hs fun m p s1 m1 m2 hp m3 hs1 => ?_
  dsimp only
  by_cases e : m < n
  · rw [if_pos e, Nat.max_eq_left m1]
    exact bin_ok T hask (n - m) m p s1 G hp (by (first | lia | omega)) m3 hs1 h
  · rw [if_neg e]
    obtain rfl : m = n := by (first | lia | omega)
    exact h p s1 hp m3 hs1
end
end
/-! S2 -/
section
set_option maxHeartbeats 1000000
noncomputable def sortTree (a : Addr) (b : Bool) : Sem PySem.Fin := do
  let items ← Builtin.List.listItems (.ref a)
  Builtin.List.listUpdate (.ref a) fun _ => #[]
  let before ← seqEpoch a
  let held ← newTuple items.toList
  let keyStore ← newList []
  holding [held, keyStore] do
    if b then rule "list.sort.reverse"
    let kind ← if items.size < 2 then pure general' else keyKind' items
    let ((), s) ← (if items.size < 2 then pure () else sortRuns').run (SortSt.mk' kind (if b then (items.zip items).reverse else items.zip items) #[] 7 none)
    let sorted := (arrOf s).map (·.2)
    let touched := (← seqEpoch a) != before
    Builtin.List.listUpdate (.ref a) fun _ => if b then sorted.reverse else sorted
    if let some e := failedOf s then rule "list.sort.comparison-raised"; throw e
    if touched then rule "list.sort.modified"; raiseError "ValueError" "list modified during sort"
    ret .none
theorem sortTree_plain (a : Addr) : Builtin.«list.sort» ⟨[.ref a], []⟩ = sortTree a false := rfl
theorem sortTree_rev (a : Addr) : Builtin.«list.sort» ⟨[.ref a], [(Str.ofString "reverse", .bool true)]⟩ = sortTree a true := rfl
/-- tuples that their first two items tell apart -/
structure TupOrd (w : World) (P : D → Prop) (lt : D → D → Bool) : Prop where
  first : ∀ (g : Heap) (v : Value) (d : D), P d → Rep g v d → ∃ a o xs n i t, v = .ref a ∧ g.get? a = some o ∧ o.cls = .type "tuple" ∧ o.data = .seq xs n ∧ xs[0]? = some (.int i t)
  ask : ∀ (A : Around) (g : Heap) (s : Shared) (x y : Value) (dx dy : D) (Q : Bool → Shared → Prop), P dx → P dy → (lt dx dy = true ∨ lt dy dx = true) → Rep g x dx → Rep g y dy → Le g s.heap → Q (lt dx dy) s → wpAny (model PR w) A (keyLt' (tuples' true) x y) Q (fun _ _ => False) s
  trans : ∀ d e f, P d → P e → P f → lt d e = true → lt e f = true → lt d f = true
theorem rep_getD {g : Heap} {vs : List Value} {ds : List D} (r : RepAll g vs ds) {i : Nat} (hi : i < ds.length) : Rep g (vs.getD i Value.none) (ds.getD i D.none) := by
  have e : ds[i]? = some ds[i] := by simp [hi]
  obtain ⟨v, h1, h2⟩ := r.get e
  rw [List.getD_eq_getElem?_getD, List.getD_eq_getElem?_getD, h1, e]
  exact h2
theorem rep_pick {g : Heap} {vs : List Value} {ds : List D} (r : RepAll g vs ds) : ∀ (l : List Nat), (∀ i ∈ l, i < ds.length) → RepAll g (l.map fun i => vs.getD i Value.none) (l.map fun i => ds.getD i D.none)
  | [], _ => .nil
  | i :: l, h => .cons (rep_getD r (h i (.head _))) (rep_pick r l fun j hj => h j (.tail _ hj))
theorem range_pick {α : Type} (ds : List α) (d : α) : (List.range ds.length).map (fun i => ds.getD i d) = ds := by
  apply List.ext_getElem?
  intro i
  rw [List.getElem?_map]
  by_cases h : i < ds.length
  · simp [h]
  · simp [h]
theorem katRev_rep {g : Heap} {vs : List Value} {ds : List D} (b : Bool) (r : RepAll g vs ds) : RepAll g (katRev b vs) (katRev b ds) := by
  unfold katRev
  cases b with
  | true => exact r.reverse
  | false => exact r
theorem katRev_mem {α : Type} {b : Bool} {l : List α} {x : α} : x ∈ katRev b l ↔ x ∈ l := by
  unfold katRev; cases b <;> simp
theorem katRev_perm {α : Type} (b : Bool) (l : List α) : (katRev b l).Perm l := by
  unfold katRev; cases b
  · exact .refl _
  · exact List.reverse_perm l
section
variable {w : World} {k : Nat} {A : Around} {s : Shared} {P : D → Prop} {lt : D → D → Bool}
theorem kat_tups {g : Heap} (T : TupOrd w P lt) : ∀ {vs : List Value} {ds : List D}, RepAll g vs ds → (∀ d ∈ ds, P d) → ∀ h, Le g h → ∃ fs : List Value, fs.length = ds.length ∧ KatTups h vs fs ∧ ∀ v ∈ fs, ∃ i t, v = .int i t
  | [], _, .nil, _, h, _ => ⟨[], rfl, KatTups.nil, fun v hv => by cases hv⟩
  | v :: vs, _, .cons (d := d) (ds := ds) r rs, hP, h, k => by
    obtain ⟨fs, l1, l2, l3⟩ := kat_tups T rs (fun d hd => hP d (.tail _ hd)) h k
    obtain ⟨a, o, xs, n, i, t, rfl, h1, h2, h3, h4⟩ := T.first g v d (hP d (.head _)) r
    refine ⟨.int i t :: fs, by rw [List.length_cons, List.length_cons, l1], KatTups.cons (k _ _ h1) h2 h3 h4 l2, fun u hu => ?_⟩
    rcases List.mem_cons.mp hu with rfl | hu
    · exact ⟨i, t, rfl⟩
    · exact l3 u hu
/-- apart, two by two -/
noncomputable def Apts (lt : D → D → Bool) (ds : List D) : Prop := ∀ i j, i < ds.length → j < ds.length → i ≠ j → lt (ds.getD i D.none) (ds.getD j D.none) = true ∨ lt (ds.getD j D.none) (ds.getD i D.none) = true
theorem Apts.rev {ds : List D} (b : Bool) (h : Apts lt ds) : Apts lt (katRev b ds) := by
  cases b with
  | false => exact h
  | true =>
    intro i j hi hj hij
    have hi' : i < ds.length := by simpa [katRev] using hi
    have hj' : j < ds.length := by simpa [katRev] using hj
    have e : ∀ m, m < ds.length → (katRev true ds).getD m D.none = ds.getD (ds.length - 1 - m) D.none := fun m hm => by
      show ds.reverse.getD m D.none = _
      rw [List.getD_eq_getElem?_getD, List.getD_eq_getElem?_getD, List.getElem?_reverse hm]
    rw [e i hi', e j hj']
    exact h _ _ (by (first | lia | omega)) (by (first | lia | omega)) (by (first | lia | omega))
theorem list_sort_ok {g : Heap} {a : Addr} {n : Nat} {vs : List Value} {ds : List D} {Q : PySem.Fin → Shared → Prop} (b : Bool) (T : TupOrd w P lt) (hP : ∀ d ∈ ds, P d) (hap : Apts lt ds) (h2 : 2 ≤ ds.length) (h64 : ds.length < 64)
    (ho : s.heap.get? a = some (seqObj "list" vs.toArray n)) (ga : g.get? a = none) (hg : Le g s.heap) (rep : RepAll g vs ds)
    (hQ : ∀ (out : List Value) (os : List D) (h' : Heap) (tk c : Nat), RepAll g out os → os.Perm ds → os.Pairwise (fun d e => if b then lt e d = true else lt d e = true) → h'.get? a = some (seqObj "list" out.toArray c) →
      (∀ x o, x ≠ a → s.heap.get? x = some o → h'.get? x = some o) → Q (.done (.ret .none)) { s with heap := h', toks := tk }) :
    wpAny (model PR w) A (sortTree a b) Q No s := by
  have hlen : vs.length = ds.length := rep.length
  have ha : a < s.heap.objs.size := Heap.lt_size ho
  have s1 := Heap.SameBut.update s.heap a (Obj.mapSeq fun _ => (#[] : Array Value))
  obtain ⟨e1, ho1⟩ : ∃ e1, (s.heap.update a (Obj.mapSeq fun _ => (#[] : Array Value))).get? a = some (seqObj "list" #[] e1) := ⟨_, get?_update_seq ho fun _ => #[]⟩
  unfold sortTree
  refine wpAny_bind (listItems_at ho rfl ?_)
  refine wpAny_bind (listUpdate_at ho rfl ?_ (by rw [List.size_toArray, sizeLine_eq]; (first | lia | omega)) (Nat.zero_le _))
  refine wpAny_bind (seqEpoch_at ho1 rfl ?_)
  refine wpAny_bind (wpAny_newTuple ?_ (by show vs.length ≤ _; rw [sizeLine_eq]; (first | lia | omega)))
  refine wpAny_bind (wpAny_newList ?_ (Nat.zero_le _))
  refine wpAny_holding ?_
  generalize hH : ((s.heap.update a (Obj.mapSeq fun _ => (#[] : Array Value))).push (seqObj "tuple" vs.toArray 0)).push (seqObj "list" #[] 0) = H
  have hoH : H.get? a = some (seqObj "list" #[] e1) := by rw [← hH]; exact Heap.get?_push_of_some _ (Heap.get?_push_of_some _ ho1)
  have kH : ∀ x o, x ≠ a → s.heap.get? x = some o → H.get? x = some o := fun x o hx e => by rw [← hH]; exact Heap.get?_push_of_some _ (Heap.get?_push_of_some _ ((s1.2 x hx).trans e))
  have gH : Le g H := fun x o e => kH x o (fun q => by rw [q, ga] at e; cases e) (hg x o e)
  show wpAny (model PR w) A _ Q No { s with heap := H }
  dsimp only
  have hn2 : ¬ vs.toArray.size < 2 := by rw [List.size_toArray]; (first | lia | omega)
  rw [if_neg hn2, if_neg hn2]
  have go : wpAny (model PR w) A (do
      let kind ← keyKind' vs.toArray
      let ((), s) ← (sortRuns').run (SortSt.mk' kind (if b = true then (vs.toArray.zip vs.toArray).reverse else vs.toArray.zip vs.toArray) #[] 7 none)
      let sorted := (arrOf s).map (·.2)
      let touched := (← seqEpoch a) != e1
      Builtin.List.listUpdate (.ref a) fun _ => if b then sorted.reverse else sorted
      if let some e := failedOf s then rule "list.sort.comparison-raised"; throw e
      if touched then rule "list.sort.modified"; raiseError "ValueError" "list modified during sort"
      ret .none) Q No { s with heap := H } := by
    obtain ⟨fs, f1, f2, f3⟩ := kat_tups T rep hP H gH
    refine wpAny_bind (kat_kind (T := .type "int") f2 (by (first | lia | omega)) (fun v hv => ?_) (by decide) ?_)
    · obtain ⟨i, t, rfl⟩ := f3 v hv
      exact fun A' Q' E' s' _ q => wpAny_pure q
    rw [show (Value.type "int" != Value.type "tuple") = true by decide]
    rw [kat_pairs b rfl]
    have lenR : (katRev b vs).length = vs.length := kat_len b vs
    have repR := katRev_rep b rep
    have lenD : (katRev b ds).length = ds.length := kat_len b ds
    have hPR : ∀ d ∈ katRev b ds, P d := fun d hd => hP d (katRev_mem.mp hd)
    have hapR := hap.rev b
    have pAt : ∀ {i}, i < ds.length → P ((katRev b ds).getD i D.none) := fun {i} hi => by
      have : (katRev b ds)[i]? = some ((katRev b ds)[i]'(by (first | lia | omega))) := by simp
      rw [List.getD_eq_getElem?_getD, this]
      exact hPR _ (List.getElem_mem _)
    refine wpAny_bind (wpAny_mono (kat_run (ks := katRev b vs) (vs := katRev b vs) (Q := fun st' s' => ∃ p : Array Nat, Pm ds.length p ∧ Srt (fun i j => lt ((katRev b ds).getD i D.none) ((katRev b ds).getD j D.none)) p ds.length ∧ arrOf st' = p.map (kas_item ((katRev b vs).toArray.zip (katRev b vs).toArray)) ∧ failedOf st' = none ∧ ∃ tk, s' = { s with heap := H, toks := tk })
      (G := fun p s' => Pm ds.length p ∧ Srt (fun i j => lt ((katRev b ds).getD i D.none) ((katRev b ds).getD j D.none)) p ds.length ∧ ∃ tk, s' = { s with heap := H, toks := tk }) rfl (by (first | lia | omega)) (by (first | lia | omega)) (fun p' st' s' a1 a2 a3 a4 => ⟨p', a4.1, a4.2.1, a2, a3, a4.2.2⟩) ?_) ?_ fun _ _ e => e)
    · rw [lenR, hlen]
      refine kas_sort_ok (lt := fun i j => lt ((katRev b ds).getD i D.none) ((katRev b ds).getD j D.none)) (St := fun s' => ∃ tk, s' = { s with heap := H, toks := tk }) ⟨fun i j hi hj hij hf => ?_, fun i j m hi hj hm => T.trans _ _ _ (pAt hi) (pAt hj) (pAt hm)⟩ ?_ h2 ⟨s.toks, rfl⟩ fun p s' a1 a2 a3 => ⟨a1, a2, a3⟩
      · rcases hapR i j (by (first | lia | omega)) (by (first | lia | omega)) hij with h | h
        · rw [hf] at h; cases h
        · exact h
      · rintro i j s' C hi hj hij ⟨tk, rfl⟩ hC
        refine T.ask A g { s with heap := H, toks := tk } _ _ _ _ C (pAt hi) (pAt hj) (hapR i j (by (first | lia | omega)) (by (first | lia | omega)) hij) (rep_getD repR (by (first | lia | omega))) (rep_getD repR (by (first | lia | omega))) gH (hC _ ⟨tk, rfl⟩)
    · rintro ⟨⟨⟩, st'⟩ s' ⟨p, hp, hsrt, har, hf, tk, rfl⟩
      dsimp only
      have hout := kat_snds (ks := katRev b vs) (vs := katRev b vs) rfl har
      have hin : ∀ i ∈ p.toList, i < ds.length := fun i hi => List.mem_range.mp (hp.perm.mem_iff.mp hi)
      have outRep : RepAll g (p.toList.map fun i => (katRev b vs).getD i Value.none) (p.toList.map fun i => (katRev b ds).getD i D.none) := rep_pick repR _ fun i hi => by rw [lenD]; exact hin i hi
      have outPerm : (p.toList.map fun i => (katRev b ds).getD i D.none).Perm ds := by
        refine (hp.perm.map _).trans ?_
        rw [← lenD, range_pick]
        exact katRev_perm b ds
      have outLen : (p.toList.map fun i => (katRev b vs).getD i Value.none).length = ds.length := by rw [List.length_map, hp.perm.length_eq, List.length_range]
      have outSrt : (p.toList.map fun i => (katRev b ds).getD i D.none).Pairwise (fun d e => lt d e = true) := by
        rw [List.pairwise_iff_getElem]
        intro i j hi hj hij
        have hps := hp.size
        simp only [List.length_map, Array.length_toList, hps] at hi hj
        have := hsrt i j hij hj
        simpa [hps, hi, hj] using this
      refine wpAny_bind (seqEpoch_at hoH rfl ?_)
      rw [hout, kat_outs b]
      refine wpAny_bind (listUpdate_at hoH rfl ?_ (by simp) (by rw [List.size_toArray, kat_len, outLen, sizeLine_eq]; (first | lia | omega)))
      rw [hf]
      simp only [bne_self_eq_false, Bool.false_eq_true, if_false]
      have s2 := Heap.SameBut.update H a (Obj.mapSeq fun _ => List.toArray (katRev b (p.toList.map fun i => (katRev b vs).getD i Value.none)))
      refine wpAny_pure (hQ _ _ _ tk _ (katRev_rep b outRep) ((katRev_perm b _).trans outPerm) ?_ (get?_update_seq hoH _) fun x o hx e => (s2.2 x hx).trans (kH x o hx e))
      cases b with
      | false => exact outSrt
      | true => exact List.pairwise_reverse.mpr outSrt
  cases b with
  | true => exact wpAny_bind (wpAny_rule go)
  | false => exact go
end
end
/-! S3 -/
section
set_option maxHeartbeats 1000000
/-- told's rows: a number, a text, and what stands behind -/
noncomputable def IsRow (d : D) : Prop := ∃ (a : Int) (x : Str) (r : List D), d = .tup (.int a :: .str x :: r)
noncomputable def rowK : D → Int × Str
  | .tup (.int a :: .str x :: _) => (a, x)
  | _ => (0, Str.empty)
noncomputable def rowLt (d e : D) : Bool := pairLt (rowK d).1 (rowK d).2 (rowK e).1 (rowK e).2
/-- pairs of numbers -/
noncomputable def IsPr (d : D) : Prop := ∃ a i : Int, d = .tup [.int a, .int i]
noncomputable def prK : D → Int × Int
  | .tup [.int a, .int i] => (a, i)
  | _ => (0, 0)
noncomputable def prLt (d e : D) : Bool := pairLtI (prK d).1 (prK d).2 (prK e).1 (prK e).2
theorem slt_trans {a b c : Str} (h1 : slt a b = true) (h2 : slt b c = true) : slt a c = true := by
  unfold slt at *
  simp only [decide_eq_true_eq] at *
  exact List.lt_trans h1 h2
theorem slt_irr (a : Str) : slt a a = false := by
  unfold slt
  simp only [decide_eq_false_iff_not]
  exact List.lt_irrefl _
theorem pairLt_iff {a b : Int} {x y : Str} : pairLt a x b y = true ↔ a < b ∨ (a = b ∧ slt x y = true) := by
  unfold pairLt
  by_cases e : a = b
  · subst e
    simp only [beq_self_eq_true, if_true]
    by_cases e2 : x = y
    · subst e2; simp [slt_irr]
    · rw [if_neg (by simpa using e2)]; simp
  · rw [if_neg (by simpa using e)]
    simp [e]
theorem pairLtI_iff {a b i j : Int} : pairLtI a i b j = true ↔ a < b ∨ (a = b ∧ i < j) := by
  unfold pairLtI
  by_cases e : a = b
  · subst e
    simp only [beq_self_eq_true, if_true]
    by_cases e2 : i = j
    · subst e2; simp
    · rw [if_neg (by simpa using e2)]; simp
  · rw [if_neg (by simpa using e)]
    simp [e]
section
variable {w : World}
theorem tupOrd_row : TupOrd w IsRow rowLt where
  first := fun g v d ⟨a, x, r, e⟩ rep => by
    subst e
    obtain ⟨⟨_, _⟩, rfl, ht, rs⟩ := Rep.inv rep
    · obtain ⟨o, h1, h2, n, h3⟩ := ht
      obtain ⟨_, _, rfl, r1, rs⟩ := RepAll.inv rs
      · (first | obtain ⟨_, rfl⟩ := Rep.inv r1 | cases r1)
        exact ⟨_, o, _, n, a, _, rfl, h1, h2, h3, rfl⟩
  ask := fun A g s x y dx dy Q hx hy hap rx ry hg hQ => by
    obtain ⟨a, u, r, rfl⟩ := hx
    obtain ⟨b, v, r', rfl⟩ := hy
    cases rx with
    | tup hx rx =>
    cases ry with
    | tup hy ry =>
    obtain ⟨o, h1, h2, n, h3⟩ := hx
    obtain ⟨o', h1', h2', n', h3'⟩ := hy
    cases rx with
    | cons r1 rx =>
    cases rx with
    | cons r2 rx =>
    cases ry with
    | cons q1 ry =>
    obtain ⟨_, _, rfl, q2, ry⟩ := RepAll.inv ry
    (first | obtain ⟨_, rfl⟩ := Rep.inv r1 | cases r1); (first | obtain ⟨_, rfl⟩ := Rep.inv r2 | cases r2); cases q1; cases q2
    refine kat_lt (hg _ _ h1) h3 (hg _ _ h1') h3' ?_
    refine kat_cons (wpAny_eqBool_int ?_)
    have hQ' : Q (pairLt a u b v) s := hQ
    by_cases e : a = b
    · subst e
      have ne : u ≠ v := fun e2 => by
        subst e2
        have : pairLt a u a u = false := by unfold pairLt; simp
        have h : pairLt a u a u = true ∨ pairLt a u a u = true := hap
        rw [this] at h
        rcases h with h | h <;> cases h
      have e0 : (a == a) = true := by simp
      rw [e0]
      refine kat_yes (kat_cons (wpAny_eqBool_str ?_))
      have e1 : decide (u = v) = false := decide_eq_false ne
      rw [e1]
      have e2 : pairLt a u a v = slt u v := by unfold pairLt; simp [ne]
      rw [e2] at hQ'
      exact kat_no (kat_one _ _ (RcOp.str_lt u v _ _ _ _ _ _ hQ'))
    · have e0 : (a == b) = false := by simpa using e
      rw [e0]
      have e2 : pairLt a u b v = decide (a < b) := by unfold pairLt; rw [if_neg (by simpa using e)]
      rw [e2] at hQ'
      exact kat_no (oneLt_int hQ')
  trans := fun d e f _ _ _ h1 h2 => by
    unfold rowLt at *
    rw [pairLt_iff] at *
    rcases h1 with h1 | ⟨h1, h1'⟩ <;> rcases h2 with h2 | ⟨h2, h2'⟩
    · exact .inl (Int.lt_trans h1 h2)
    · exact .inl (h2 ▸ h1)
    · exact .inl (h1 ▸ h2)
    · exact .inr ⟨h1.trans h2, slt_trans h1' h2'⟩
theorem tupOrd_pr : TupOrd w IsPr prLt where
  first := fun g v d ⟨a, i, e⟩ rep => by
    subst e
    obtain ⟨⟨_, _⟩, rfl, ht, rs⟩ := Rep.inv rep
    · obtain ⟨o, h1, h2, n, h3⟩ := ht
      obtain ⟨_, _, rfl, r1, rs⟩ := RepAll.inv rs
      · (first | obtain ⟨_, rfl⟩ := Rep.inv r1 | cases r1)
        exact ⟨_, o, _, n, a, _, rfl, h1, h2, h3, rfl⟩
  ask := fun A g s x y dx dy Q hx hy hap rx ry hg hQ => by
    obtain ⟨a, i, rfl⟩ := hx
    obtain ⟨b, j, rfl⟩ := hy
    cases rx with
    | tup hx rx =>
    cases ry with
    | tup hy ry =>
    obtain ⟨o, h1, h2, n, h3⟩ := hx
    obtain ⟨o', h1', h2', n', h3'⟩ := hy
    cases rx with
    | cons r1 rx =>
    cases rx with
    | cons r2 rx =>
    cases ry with
    | cons q1 ry =>
    obtain ⟨_, _, rfl, q2, ry⟩ := RepAll.inv ry
    (first | obtain ⟨_, rfl⟩ := Rep.inv r1 | cases r1); (first | obtain ⟨_, rfl⟩ := Rep.inv r2 | cases r2); cases q1; cases q2
    refine kat_lt (hg _ _ h1) h3 (hg _ _ h1') h3' ?_
    refine kat_cons (wpAny_eqBool_int ?_)
    have hQ' : Q (pairLtI a i b j) s := hQ
    by_cases e : a = b
    · subst e
      have ne : i ≠ j := fun e2 => by
        subst e2
        have : pairLtI a i a i = false := by unfold pairLtI; simp
        have h : pairLtI a i a i = true ∨ pairLtI a i a i = true := hap
        rw [this] at h
        rcases h with h | h <;> cases h
      have e0 : (a == a) = true := by simp
      rw [e0]
      refine kat_yes (kat_cons (wpAny_eqBool_int ?_))
      have e1 : (i == j) = false := by simpa using ne
      rw [e1]
      have e2 : pairLtI a i a j = decide (i < j) := by unfold pairLtI; simp [ne]
      rw [e2] at hQ'
      exact kat_no (kat_one _ _ (RcOp.int_lt i j _ _ _ _ _ _ hQ'))
    · have e0 : (a == b) = false := by simpa using e
      rw [e0]
      have e2 : pairLtI a i b j = decide (a < b) := by unfold pairLtI; rw [if_neg (by simpa using e)]
      rw [e2] at hQ'
      exact kat_no (oneLt_int hQ')
  trans := fun d e f _ _ _ h1 h2 => by
    unfold prLt at *
    rw [pairLtI_iff] at *
    (first | lia | omega)
end
/-- one list alone is in order -/
theorem perm_uniq {α : Type} {R : α → α → Prop} (irr : ∀ a, ¬ (R a a)) (tr : ∀ a b c, R a b → R b c → R a c) : ∀ {l m : List α}, l.Perm m → l.Pairwise R → m.Pairwise R → l = m
  | [], m, p, _, _ => p.nil_eq
  | a :: l, [], p, _, _ => absurd p.length_eq (by simp)
  | a :: l, b :: m, p, hl, hm => by
    obtain ⟨h1, h2⟩ := List.pairwise_cons.mp hl
    obtain ⟨h3, h4⟩ := List.pairwise_cons.mp hm
    have e : a = b := by
      rcases List.mem_cons.mp (p.mem_iff.mp (.head _)) with e | ha
      · exact e
      rcases List.mem_cons.mp (p.mem_iff.mpr (.head _)) with e | hb
      · exact e.symm
      exact absurd (tr _ _ _ (h1 b hb) (h3 a ha)) (irr a)
    subst e
    rw [perm_uniq irr tr (List.perm_cons _ |>.mp p) h2 h4]
end
/-! S4 -/
section
set_option maxHeartbeats 1000000
theorem rowLt_irr (d : D) : ¬ (rowLt d d = true) := fun h => by
  unfold rowLt at h
  rw [pairLt_iff] at h
  rcases h with h | ⟨_, h⟩
  · exact Int.lt_irrefl _ h
  · rw [slt_irr] at h; cases h
theorem rowLt_trans (d e f : D) (h1 : rowLt d e = true) (h2 : rowLt e f = true) : rowLt d f = true := by
  unfold rowLt at *
  rw [pairLt_iff] at *
  rcases h1 with h1 | ⟨h1, h1'⟩ <;> rcases h2 with h2 | ⟨h2, h2'⟩
  · exact .inl (Int.lt_trans h1 h2)
  · exact .inl (h2 ▸ h1)
  · exact .inl (h1 ▸ h2)
  · exact .inr ⟨h1.trans h2, slt_trans h1' h2'⟩
theorem prLt_irr (d : D) : ¬ (prLt d d = true) := fun h => by
  unfold prLt at h
  rw [pairLtI_iff] at h
  (first | lia | omega)
theorem prLt_trans (d e f : D) (h1 : prLt d e = true) (h2 : prLt e f = true) : prLt d f = true := by
  unfold prLt at *
  rw [pairLtI_iff] at *
  (first | lia | omega)
section
variable {w : World} {env : Env} {k : Nat} {loc : Loc} {cells : Cls}
theorem B.sortedT {ds os : List D} (hr : ∀ d ∈ ds, IsRow d) (hap : Apts rowLt ds) (h2 : 2 ≤ ds.length) (h64 : ds.length < 64) (hp : os.Perm ds) (hs : os.Pairwise fun d e => rowLt d e = true) : BFn w k (.builtin "sorted") [.lst ds] (.lst os) := by
  intro A g vs hA S r s Q hg hQ
  obtain ⟨u, rfl, ru⟩ := one r
  obtain ⟨⟨_, _⟩, rfl, hl, rs⟩ := Rep.inv ru
  rename_i l us
  have hlen := rs.length
  have hl' := isList_le hg hl
  refine Calls.call_function_entry kind_sorted plain_sorted entry_sorted (args_sorted1 _) ?_
  unfold Builtin.«sorted»
  refine wpAny_bind (m := checkCount "sorted" 1 1 _) (wpAny_pure ?_)
  refine wpAny_bind (collect_list hl' ?_ (by rw [sizeLine_eq]; (first | lia | omega)))
  refine wpAny_bind (wpAny_newList ?_ (by rw [sizeLine_eq]; (first | lia | omega)))
  have hsz : ((s.heap.push (seqObj "list" #[] 0)).update s.heap.objs.size (Obj.mapSeq (· ++ us.toArray))).objs.size = s.heap.objs.size + 1 := by
    rw [Heap.size_update, size_push']
  generalize hH0 : (s.heap.push (seqObj "list" #[] 0)).update s.heap.objs.size (Obj.mapSeq (· ++ us.toArray)) = H0 at hsz
  have k0 : Le s.heap H0 := fun b o q => by
    have hlt : b < s.heap.objs.size := Heap.lt_size q
    rw [← hH0, Heap.get?_update_ne _ _ _ _ (Nat.ne_of_lt hlt), Heap.get?_push_ne _ _ _ (Nat.ne_of_lt hlt)]
    exact q
  show wpAny _ _ _ _ _ { s with heap := H0.push (seqObj "list" us.toArray 0) }
  dsimp only
  have hoL : (H0.push (seqObj "list" us.toArray 0)).get? H0.objs.size = some (seqObj "list" us.toArray 0) := Heap.get?_push_size _ rfl
  have fr : ∀ a : Nat, s.heap.objs.size ≤ a → s.heap.get? a = none := fun a ha => Heap.get?_none_of_le ha
  have frA : s.heap.get? H0.objs.size = none := fr _ (by rw [hsz]; exact Nat.le_succ _)
  have gA : g.get? H0.objs.size = none := by
    cases e : g.get? H0.objs.size with
    | none => rfl
    | some o => rw [hg _ _ e] at frA; cases frA
  refine wpAny_bind (wpAny_holding (wpAny_call_entry slot_list_sort ⟨_, hoL, rfl⟩ entry_list_sort ?body (args_list_sort _)))
  case body =>
    rw [sortTree_plain]
    refine list_sort_ok (s := { s with heap := H0.push (seqObj "list" us.toArray 0) }) false tupOrd_row hr hap h2 h64 hoL gA ((hg.trans k0).trans (Le.push _ _)) rs fun out os' h' tk c a1 a2 a3 a4 a5 => ?_
    have e : os' = os := perm_uniq rowLt_irr rowLt_trans (a2.trans hp.symm) a3 hs
    subst e
    refine ⟨_, rfl, wpAny_pure ⟨_, rfl, ?_⟩⟩
    refine hQ _ h' tk (fun b o q => a5 b o (fun q2 => by rw [q2, frA] at q; cases q) (Heap.get?_push_of_some _ (k0 _ _ q))) fun g' hg' nw => ?_
    exact .lst (vs := out) ⟨_, nw _ _ frA a4, rfl, c, rfl⟩ (a1.le hg')
section
variable {g h : Heap}
theorem Rel.setCellX {h' : Heap} {pre post : Cls} {a : Addr} {c c' : C} (R : Rel w env g h loc (pre ++ (a, c) :: post)) (hc : CellIs w g h' a c') (hm : c.mut = true) (hs : ∀ x o, x ≠ a → h.get? x = some o → h'.get? x = some o) :
    Rel w env g h' loc (pre ++ (a, c') :: post) := by
  have mem : (a, c) ∈ pre ++ (a, c) :: post := List.mem_append_right _ (.head _)
  have ga := (R.c.all _ mem).2 hm
  have nd := R.c.nodup
  rw [List.map_append, List.map_cons] at nd
  obtain ⟨_, n2, n3⟩ := List.nodup_append.mp nd
  obtain ⟨n4, _⟩ := List.nodup_cons.mp n2
  have ne : ∀ p, p ∈ pre ++ post → p.1 ≠ a := fun p hp e => by
    rcases List.mem_append.mp hp with hp | hp
    · exact n3 _ (List.mem_map.mpr ⟨p, hp, rfl⟩) _ (.head _) e
    · exact n4 (List.mem_map.mpr ⟨p, hp, e⟩)
  have addr : (pre ++ (a, c') :: post).map (·.1) = (pre ++ (a, c) :: post).map (·.1) := by simp
  have am : a ∈ (pre ++ (a, c) :: post).map (·.1) := List.mem_map.mpr ⟨_, mem, rfl⟩
  have aL : env.locals ≠ a := fun e => R.notL (by rw [e]; exact am)
  have aO : ∀ x b, CellAt env x b → b ≠ a := fun x b hb e => (R.own x b hb).2.2.1 (by rw [e]; exact am)
  obtain ⟨m, hn, hv⟩ := R.ns
  refine ⟨⟨fun b o e => hs b o (fun q => by rw [q, ga] at e; cases e) (R.c.sub b o e), fun p hp => ?_, addr ▸ R.c.nodup⟩, R.fk, R.newL, addr ▸ R.notL,
    ⟨m, (let ⟨o, es, ep, e, r⟩ := hn; ⟨o, es, ep, hs _ _ aL e, r⟩), fun p hp => (hv p hp).up (Le.refl _) (fun _ => rfl) fun b hb ov ⟨o, e, q⟩ => ⟨o, hs b o (aO _ b hb) e, q⟩⟩, fun x b hb => ?_, R.inj, R.names⟩
  · rcases List.mem_append.mp hp with hp | hp
    · have := R.c.all p (List.mem_append_left _ hp)
      exact ⟨this.1.up (Le.refl _) fun o e => hs _ _ (ne p (List.mem_append_left _ hp)) e, this.2⟩
    · rcases List.mem_cons.mp hp with rfl | hp
      · exact ⟨hc, fun _ => ga⟩
      · have := R.c.all p (List.mem_append_right _ (.tail _ hp))
        exact ⟨this.1.up (Le.refl _) fun o e => hs _ _ (ne p (List.mem_append_right _ hp)) e, this.2⟩
  · obtain ⟨a1, a2, a3, ov, o, e, q⟩ := R.own x b hb
    exact ⟨a1, a2, addr ▸ a3, ov, o, hs b o (aO x b hb) e, q⟩

end
/-- `o.sort(reverse=True)` of pairs of numbers -/
theorem EvC.sortRev {o : Expr} {kd : Nat} {apos cp kp pos : Pos} {a : Addr} {ds os : List D} {pre post : Cls} {R : D → Cls → Prop} (hc : cells = pre ++ (a, .lst ds) :: post) (ho : Ev w env k loc cells o (.val (.ref a)))
    (hr : ∀ d ∈ ds, IsPr d) (hap : Apts prLt ds) (h2 : 2 ≤ ds.length) (h64 : ds.length < 64) (hp : os.Perm ds) (hs : os.Pairwise fun d e => prLt e d = true) (hR : R .none (pre ++ (a, .lst os) :: post))
    (hbase : attributeBase o "sort" env (eval o env) = eval o env := by rfl)
    (hline : (apos.endLine == pos.line) = true := by rfl) : EvC w env k loc cells (.Call (.Attribute o "sort" apos) [] [⟨some "reverse", .Constant (.bool true) kd cp, kp⟩] pos) R := by
  subst hc
  intro A g₀ hA S g s Q hg Rl hQ
  rw [arm_eval_Call, hbase]
  refine wpAny_bind (Tri.use3 (ho A g₀ hA S) hg Rl ?_)
  rintro v g1 h1 tk1 hg1 R1 rv
  (first | obtain ⟨_, rfl⟩ := Rep.inv rv | cases rv)
  obtain ⟨⟨vs, n, hcell, rep⟩, ga⟩ := R1.c.all (a, .lst ds) (List.mem_append_right _ (.head _))
  have ga := ga rfl
  have hT : Shared.TypeIs { s with heap := h1, toks := tk1 } (.ref a) "list" := ⟨_, hcell, rfl⟩
  refine wpAny_bind (wpAny_standAt ?_)
  have hform : methodCallForm (([] : List Expr).length + [(⟨some "reverse", .Constant (.bool true) kd cp, kp⟩ : Keyword)].length) (backTo pos (starEach [] env)) (backToKw pos (keywordEach [⟨some "reverse", .Constant (.bool true) kd cp, kp⟩] env)) = true := rfl
  have hpos : methodCallPos true o env apos pos = pure pos := by unfold methodCallPos; simp [hline]
  unfold methodCall
  rw [hform]
  refine wpAny_bind (wpAny_holding (getMethod_builtin (id := "list.sort") hT PySem.F.plainAttrs_list slot_list_sort (by show builtinType _ = _; rw [builtinType_eq_fast]; kernel_rfl) (fun b e => by cases e; exact ⟨_, hcell, rfl⟩) ?_))
  refine wpAny_bind (wpAny_of_eq hpos ?_)
  refine callWith_builtin_kwB rfl rfl (evalArgs_kw2_nil rfl (kws_cons (wpAny_Constant_bool (kws_nil ?_))))
  show wpAny _ _ (PySem.call (.builtin "list.sort") [.ref a] [(Str.ofString "reverse", .bool true)]) _ _ _
  refine wpAny_call_entry_kw slot_list_sort hT entry_list_sort ?_ (args_list_sort_rev _ _)
  rw [sortTree_rev]
  refine list_sort_ok (s := { s with heap := h1, toks := tk1 }) true tupOrd_pr hr hap h2 h64 hcell ga R1.c.sub rep fun out os' h' tk c a1 a2 a3 a4 a5 => ?_
  have e : os' = os := perm_uniq (R := fun d e => prLt e d = true) prLt_irr (fun a b c h h' => prLt_trans _ _ _ h' h) (a2.trans hp.symm) a3 hs
  subst e
  refine ⟨_, rfl, ?_⟩
  have R2 : Rel w env g1 h' _ (pre ++ (a, .lst os') :: post) := R1.setCellX ⟨out, c, a4, a1⟩ rfl a5
  exact hQ .none g1 h' tk _ _ hg1 R2 ⟨.none, .none, rfl, hR⟩
end
end
/-! W11 -/
section
set_option maxHeartbeats 2000000
/-! the three greatest, in plain lists -/
noncomputable def NL (ns ms : List Int) : Prop := ms.length = 3 ∧ ∃ rest, (ms ++ rest).Perm ns ∧ ms.Pairwise (fun a b => b ≤ a) ∧ ∀ r ∈ rest, ∀ m ∈ ms, r ≤ m
noncomputable def fst (d : D) : Int := (prK d).1
noncomputable def prD (a i : Int) : D := .tup [.int a, .int i]
theorem prLt_fst {d e : D} (h : prLt d e = false) : fst e ≤ fst d := by
  have : ¬ (prLt d e = true) := by rw [h]; decide
  unfold prLt at this
  rw [pairLtI_iff] at this
  unfold fst
  (first | lia | omega)
theorem swo_pr : SWO prLt IsPr where
  asymm := fun x y _ _ h => by
    cases e : prLt y x with
    | false => rfl
    | true => unfold prLt at h e; rw [pairLtI_iff] at h e; (first | lia | omega)
  neg := fun x y z _ _ _ h1 h2 => by
    cases e : prLt x z with
    | false => rfl
    | true =>
      have a1 : ¬ (prLt x y = true) := by rw [h1]; decide
      have a2 : ¬ (prLt y z = true) := by rw [h2]; decide
      unfold prLt at a1 a2 e
      rw [pairLtI_iff] at a1 a2 e
      (first | lia | omega)
/-- the heap of the three, with what was put off -/
structure Best (ns : List Int) (ord : Int) (hs : List D) : Prop where
  len : hs.length = 3
  prs : ∀ d ∈ hs, IsPr d
  heap : Heap1 prLt 0 hs
  ords : ∀ d ∈ hs, ord < (prK d).2
  apart : hs.Pairwise fun d e => (prK d).2 ≠ (prK e).2
  rest : ∃ rest, (hs.map fst ++ rest).Perm ns ∧ ∀ r ∈ rest, ∀ d ∈ hs, r ≤ fst d
theorem Best.root {ns : List Int} {ord : Int} {x : D} {rs : List D} (B : Best ns ord (x :: rs)) : ∀ d ∈ x :: rs, fst x ≤ fst d := fun d hd => by
  obtain ⟨i, hi, e⟩ := List.mem_iff_getElem.mp hd
  have : (x :: rs)[i]? = some d := by rw [← e]; simp
  exact prLt_fst (heap_root swo_pr B.prs B.heap rfl i d this)
theorem Best.put {ns : List Int} {ord e : Int} {x : D} {rs : List D} (B : Best ns ord (x :: rs)) (hlt : fst x < e) : Best (ns ++ [e]) (ord - 1) (Mine.siftup prLt (prD e ord :: rs) 0) := by
  have hP : ∀ d ∈ prD e ord :: rs, IsPr d := allC ⟨_, _, rfl⟩ fun d hd => B.prs d (.tail _ hd)
  have pm : (Mine.siftup prLt (prD e ord :: rs) 0).Perm (prD e ord :: rs) := siftup_perm
  have root := B.root
  refine ⟨by rw [pm.length_eq]; exact B.len, siftup_mem hP, siftup_heap swo_pr hP (Nat.succ_pos _) ?_, fun d hd => ?_, ?_, ?_⟩
  · intro i hi hp a b ha hb
    obtain ⟨j, rfl⟩ : ∃ j, i = j + 1 := ⟨i - 1, by (first | lia | omega)⟩
    obtain ⟨m, hm⟩ : ∃ m, (j + 1 - 1) / 2 = m + 1 := ⟨(j + 1 - 1) / 2 - 1, by (first | lia | omega)⟩
    exact B.heap (j + 1) hi (Nat.zero_le _) a b (by rw [List.getElem?_cons_succ] at ha ⊢; exact ha) (by rw [hm, List.getElem?_cons_succ] at hb ⊢; exact hb)
  · rcases List.mem_cons.mp (pm.mem_iff.mp hd) with rfl | hd
    · show ord - 1 < ord; (first | lia | omega)
    · have := B.ords d (.tail _ hd); (first | lia | omega)
  · refine (pm.symm.pairwise ?_ fun {a b} h q => h q.symm)
    refine List.pairwise_cons.mpr ⟨fun d hd q => ?_, (List.pairwise_cons.mp B.apart).2⟩
    have := B.ords d (.tail _ hd)
    rw [← q] at this
    exact absurd this (Int.lt_irrefl _)
  · obtain ⟨rest, h1, h2⟩ := B.rest
    refine ⟨fst x :: rest, ?_, fun r hr d hd => ?_⟩
    · have p1 : (Mine.siftup prLt (prD e ord :: rs) 0 |>.map fst).Perm (e :: rs.map fst) := pm.map fst
      refine (p1.append_right _).trans ?_
      have p2 : (e :: rs.map fst ++ fst x :: rest).Perm ((fst x :: rs.map fst ++ rest) ++ [e]) := by
        simp only [List.cons_append]
        refine (List.perm_append_comm (l₁ := [e]) (l₂ := rs.map fst ++ fst x :: rest)).trans ?_
        exact (List.perm_middle (a := fst x) (l₁ := rs.map fst) (l₂ := rest)).append_right [e]
      exact p2.trans (h1.append_right [e])
    · have hd' := pm.mem_iff.mp hd
      rcases List.mem_cons.mp hr with rfl | hr
      · rcases List.mem_cons.mp hd' with rfl | hd'
        · exact Int.le_of_lt hlt
        · exact root d (.tail _ hd')
      · rcases List.mem_cons.mp hd' with rfl | hd'
        · exact Int.le_of_lt (Int.lt_of_le_of_lt (h2 r hr x (.head _)) hlt)
        · exact h2 r hr d (.tail _ hd')
theorem Best.skip {ns : List Int} {ord e : Int} {x : D} {rs : List D} (B : Best ns ord (x :: rs)) (hlt : ¬ fst x < e) : Best (ns ++ [e]) ord (x :: rs) := by
  refine ⟨B.len, B.prs, B.heap, B.ords, B.apart, ?_⟩
  obtain ⟨rest, h1, h2⟩ := B.rest
  refine ⟨rest ++ [e], by rw [← List.append_assoc]; exact h1.append_right [e], fun r hr d hd => ?_⟩
  rcases List.mem_append.mp hr with hr | hr
  · exact h2 r hr d hd
  · rw [List.mem_singleton.mp hr]
    exact Int.le_trans (Int.not_lt.mp hlt) (B.root d hd)
theorem Best.start {a b c : Int} : Best [a, b, c] (-3) (hfy prLt (3 / 2) [prD a 0, prD b (-1), prD c (-2)]) := by
  have hP : ∀ d ∈ [prD a 0, prD b (-1), prD c (-2)], IsPr d := allC ⟨_, _, rfl⟩ (allC ⟨_, _, rfl⟩ (allC ⟨_, _, rfl⟩ allN))
  obtain ⟨h1, pm⟩ := heapify_ok swo_pr hP
  refine ⟨pm.length_eq, hfy_mem hP, h1, fun d hd => ?_, ?_, ⟨[], ?_, fun r hr => by cases hr⟩⟩
  · exact allC (P := fun d => (-3 : Int) < (prK d).2) (by show (-3 : Int) < 0; decide) (allC (by show (-3 : Int) < -1; decide) (allC (by show (-3 : Int) < -2; decide) allN)) d (pm.mem_iff.mp hd)
  · refine (pm.symm.pairwise ?_ fun {a b} h q => h q.symm)
    refine List.pairwise_cons.mpr ⟨allC (by show (0 : Int) ≠ -1; decide) (allC (by show (0 : Int) ≠ -2; decide) allN), List.pairwise_cons.mpr ⟨allC (by show (-1 : Int) ≠ -2; decide) allN, List.pairwise_cons.mpr ⟨allN, .nil⟩⟩⟩
  · rw [List.append_nil]; exact pm.map fst
theorem Best.apts {ns : List Int} {ord : Int} {hs : List D} (B : Best ns ord hs) : hs.Pairwise fun d e => prLt d e = true ∨ prLt e d = true := by
  refine B.apart.imp_of_mem fun {d e} _ _ h => ?_
  unfold prLt
  rw [pairLtI_iff, pairLtI_iff]
  (first | lia | omega)
theorem apts_of {lt : D → D → Bool} {ds : List D} (h : ds.Pairwise fun d e => lt d e = true ∨ lt e d = true) : Apts lt ds := by
  intro i j hi hj hij
  rw [List.pairwise_iff_getElem] at h
  have e1 : ds.getD i D.none = ds[i] := by simp [hi]
  have e2 : ds.getD j D.none = ds[j] := by simp [hj]
  rw [e1, e2]
  rcases Nat.lt_or_gt_of_ne hij with q | q
  · exact h i j hi hj q
  · exact (h j i hj hi q).symm
/-- the order that the sort leaves -/
theorem Best.sorted {ns : List Int} {ord : Int} {hs : List D} (B : Best ns ord hs) : ∃ os : List D, os.Perm hs ∧ os.Pairwise (fun d e => prLt e d = true) := by
  refine ⟨hs.mergeSort (fun d e => !prLt d e), List.mergeSort_perm _ _, ?_⟩
  have h1 := List.pairwise_mergeSort (le := fun d e => !prLt d e) (fun a b c x y => ?_) (fun a b => ?_) hs
  · have h2 : (hs.mergeSort (fun d e => !prLt d e)).Pairwise (fun d e => prLt d e = true ∨ prLt e d = true) := (List.mergeSort_perm _ _).symm.pairwise B.apts fun {a b} h => h.symm
    refine (h1.and h2).imp fun {d e} ⟨q1, q2⟩ => ?_
    rcases q2 with q2 | q2
    · rw [q2] at q1; cases q1
    · exact q2
  · have a1 : ¬ (prLt a b = true) := by simpa using x
    have a2 : ¬ (prLt b c = true) := by simpa using y
    have : ¬ (prLt a c = true) := fun e => by
      unfold prLt at a1 a2 e
      rw [pairLtI_iff] at a1 a2 e
      (first | lia | omega)
    simpa using this
  · have : ¬ (prLt a b = true) ∨ ¬ (prLt b a = true) := by
      unfold prLt
      rw [pairLtI_iff, pairLtI_iff]
      (first | lia | omega)
    simpa using this
theorem Best.ends {ns : List Int} {ord : Int} {hs os : List D} (B : Best ns ord hs) (hp : os.Perm hs) (hs' : os.Pairwise fun d e => prLt e d = true) : NL ns (os.map fst) := by
  obtain ⟨rest, h1, h2⟩ := B.rest
  refine ⟨by rw [List.length_map, hp.length_eq, B.len], rest, ((hp.map fst).append_right rest).trans h1, ?_, fun r hr m hm => ?_⟩
  · refine List.pairwise_map.mpr (hs'.imp fun {d e} h => ?_)
    unfold prLt at h
    rw [pairLtI_iff] at h
    unfold fst
    (first | lia | omega)
  · obtain ⟨d, hd, rfl⟩ := List.mem_map.mp hm
    exact h2 r hr d (hp.mem_iff.mp hd)
end
/-! W12 -/
section
set_option maxHeartbeats 2000000
section
variable {w : World} {env : Env} {k : Nat} {cells : Cls}
theorem ord_pr : Ord w (k + 1) IsPr prLt := ⟨fun x y ⟨a, i, e1⟩ ⟨b, j, e2⟩ => by subst e1 e2; exact Cmp.ltPI⟩
noncomputable def swapF : D → Option D
  | .tup [a, b] => some (.tup [b, a])
  | _ => none
noncomputable def fstF : D → Option D
  | .tup [a, _] => some a
  | _ => none
noncomputable abbrev LN (it re si el tp od hr oo : Option D) (n : Option D) (ib : Option D) : Loc := [("n", n), ("iterable", ib), ("key", some .none), ("it", it), ("sentinel", none), ("result", re), ("size", si), ("elem", el), ("top", tp), ("order", od), ("_heapreplace", hr), ("_order", oo), ("k", none), ("_elem", none)]
theorem F.nlargest {ns : List Int} (h3 : 3 < ns.length) (hn : ns.length ≤ 100) : Fn w (k + 6) (.ref 83) [.int 3, .lst (ns.map .int)] cells (fun r c => (∃ ms, r = .lst (ms.map .int) ∧ NL ns ms) ∧ c = cells) := by
  refine Fn.def (ds := [.int 3, .lst (ns.map .int), .none]) ["n", "iterable", "key", "it", "sentinel", "result", "size", "elem", "top", "order", "_heapreplace", "_order", "k", "_elem"] ["n", "iterable", "key"] (f := 83) (by exact rfl) (by with_unfolding_all rfl) ?b (by decide) (by decide) (by decide) ?h
  case b =>
    intro A g vs S r s Q hg hQ
    obtain ⟨u, v, rfl, ru, rv⟩ := two r
    have h78 : (KF w).lookup 78 = some { cls := .type "tuple", data := .seq #[.none] } := by with_unfolding_all rfl
    have ho : s.heap.get? 78 = some { cls := .type "tuple", data := .seq #[.none] } := hg _ _ (S.X _ _ h78)
    show wpAny _ _ (seqItems? (.ref 78) >>= _) _ _ _
    refine wpAny_bind (wpAny_seqItems ho rfl ?_)
    refine wpAny_of_eq (a := ([("n", u), ("iterable", v), ("key", Value.none)] : List (Str × Value))) ?eq ?_
    case eq => with_unfolding_all rfl
    exact hQ _ s.heap s.toks (Le.refl _) fun g' hg' _ => ⟨rfl, .cons (ru.le hg') (.cons (rv.le hg') (.cons .none .nil))⟩
  intro env hs hg hb
  obtain ⟨a, b, c, ns', rfl⟩ : ∃ a b c ns', ns = a :: b :: c :: ns' := by
    match ns, h3 with
    | a :: b :: c :: ns', _ => exact ⟨a, b, c, ns', rfl⟩
  generalize hN : a :: b :: c :: ns' = ns at *
  have hk : env.kindOf "n" ≠ some .free := kNe hs (by decide)
  refine Exs.cons (Ex.ite (b := false) (Tr.cmp (a := .int 3) (b := .int 1) (by walk_at "mine n") Ev.int Cmp.eqi) (fun e => by cases e) (fun _ => Exs.nil ?_))
  refine Exs.cons (Ex.try (Exs.cons (Ex.assign (d := .int (ns.map D.int).length) (Ev.len (d := .lst (ns.map .int)) (ds := ns.map .int) (by walk_at "mine b") (by walk_at "mine n") .fz (by rw [List.length_map]; (first | lia | omega))) (by walk_at "mine p") (kNe hs (by decide)) (Exs.nil ?_))))
  have dc : decide (((ns.map D.int).length : Int) ≤ 3) = false := decide_eq_false (by rw [List.length_map]; (first | lia | omega))
  refine Exs.cons (Ex.ite (b := false) (by rw [← dc]; exact Tr.cmp (a := .int 3) (b := .int (ns.map D.int).length) (by walk_at "mine n") (by walk_at "mine n") Cmp.ge) (fun e => by cases e) (fun _ => Exs.nil (Exs.nil ?_)))
  refine Exs.cons (Ex.ite (b := true) (Tr.cmp (a := .none) (b := .none) (by walk_at "mine n") Ev.noneC (Cmp.is_none (b := true) fun g v r => by (first | obtain ⟨_, rfl⟩ := Rep.inv r | cases r); rfl)) (fun _ => ?_) (fun e => by cases e))
  refine Exs.cons (Ex.assignC (EvC.iter (ds := ns.map .int) (by walk_at "mine b") (by walk_at "mine n") fun I => ⟨_, by walk_at "mine p", ?it⟩) (kNe hs (by decide)))
  have len3 : (3 : Nat) ≤ (ns.map D.int).length := by rw [List.length_map]; (first | lia | omega)
  have zi : ∀ d ∈ zitems (ns.map D.int) 3, ∃ (i : Nat) (e : Int), d = .tup [.int (-(i : Int)), .int e] := fun d hd => by
    obtain ⟨i, hi, e⟩ := List.mem_iff_getElem.mp hd
    obtain ⟨_, d0, h1, h2⟩ := zitems_get (i := i) (d := d) ((List.getElem?_eq_getElem hi).trans (congrArg some e))
    rw [List.getElem?_map] at h1
    obtain ⟨e, _, rfl⟩ := Option.map_eq_some_iff.mp h1
    exact ⟨i, e, h2⟩
  refine Exs.cons (Ex.assignComp (loc' := fun acc => LN (some (.val (.ref I))) (some (.val (.ref acc))) (some (.int (ns.map D.int).length)) none none none none none (some (.int 3)) (some (.lst (ns.map .int)))) ([(".0", none), ("i", none), ("elem", none)] : Loc) (fun l => ∃ p q, l = ([(".0", none), ("i", p), ("elem", q)] : Loc)) swapF
    (ItZ.zip (pre := []) (post := cells) (I := I) (n := 3) (ds := ns.map .int) (by walk_at "mine b") (by walk_at "mine b") (EvL.cons Ev.int (EvL.cons (Ev.uny (by walk_at "mine n") Uny.neg) (EvL.cons (Ev.uny Ev.int Uny.neg) EvL.nil))) (by walk_at "mine n") len3 (by decide))
    ?io ⟨_, _, rfl⟩ ?cap ?turn (by simp) ?sz (fun acc => by walk_at "mine p") (kNe hs (by decide)) (fun acc => ?next) ?sw)
  case sw =>
    have h1 : env.kindOf "result" = some .local := kOf hs (by decide)
    have h2 : (env.blockKind == .function) = true := by unfold Env.blockKind; rw [hs]; rfl
    show pure (env.blockKind == .function && env.kindOf "result" == some .local && _ && _) = pure true
    rw [h1, h2]; rfl
  case io =>
    exact ⟨rfl, by decide, allC (fun e => by cases e) (allC (fun e => by cases e) (allC (fun e => by cases e) allN)),
      allC (.inl ⟨by decide, rfl⟩) (allC (.inl ⟨by decide, rfl⟩) (allC (.inl ⟨by decide, rfl⟩) allN)), (by decide : ([".0", "i", "elem"] : List Str).Nodup), allC ⟨rfl, rfl⟩ (allC ⟨rfl, rfl⟩ (allC ⟨rfl, rfl⟩ allN))⟩
  case cap =>
    rintro l ⟨p, q, rfl⟩
    exact allC (fun h => absurd h (by decide)) (allC (fun h => absurd h (by decide)) (allC (fun h => absurd h (by decide)) allN))
  case turn =>
    rintro cenv cc hc ck cn cg cb l d ⟨p, q, rfl⟩ hd
    obtain ⟨i, e, rfl⟩ := zi d hd
    have k1 : cenv.kindOf "i" = some .local := by unfold Env.kindOf; rw [cn]; rfl
    have k2 : cenv.kindOf "elem" = some .local := by unfold Env.kindOf; rw [cn]; rfl
    exact ⟨[(".0", none), ("i", some (.int (-(i : Int)))), ("elem", some (.int e))], true, As.tup (AsL.cons (As.name (by walk_at "mine p") (by rw [k1]; decide)) (AsL.cons (As.name (by walk_at "mine p") (by rw [k2]; decide)) AsL.nil)), ⟨_, _, rfl⟩, rfl,
      fun _ => ⟨_, rfl, Ev.tup (EvL.cons (by walk_at "mine n") (EvL.cons (by walk_at "mine n") EvL.nil)) (by simp [sizeLine_eq])⟩, fun h => by cases h⟩
  case sz => rw [sizeLine_eq]; unfold zitems; simp; (first | lia | omega)
  case next =>
  have first : (zitems (ns.map D.int) 3).filterMap swapF = [prD a 0, prD b (-1), prD c (-2)] := by rw [← hN]; rfl
  rw [first]
  refine Exs.cons (Ex.ite (b := false) (Tr.not (b := true) (Tr.list (ds := [prD a 0, prD b (-1), prD c (-2)]) (by walk_at "mine n") (.cell (List.Mem.tail _ (List.Mem.head _))) (by simp))) (fun e => by cases e) (fun _ => Exs.nil ?_))
  have P0 : ∀ d ∈ [prD a 0, prD b (-1), prD c (-2)], IsPr d := allC ⟨_, _, rfl⟩ (allC ⟨_, _, rfl⟩ (allC ⟨_, _, rfl⟩ allN))
  refine Exs.cons (Ex.exprC (EvC.call (a := 63) (ds := [.val (.ref acc)]) (by walk_at "mine g") (by first | rfl | kernel_rfl) (EvL.cons (by walk_at "mine n") EvL.nil)
    (Fn.mono (F.heapify (k := k + 2) (a := acc) (pre := [(I, .iter (ns.map .int) 3)]) (post := cells) (ds := [prD a 0, prD b (-1), prD c (-2)]) ord_pr ord_pr P0 (by simp)) ?hf)) (by unfold interactive; rw [hs]; rfl))
  rintro d c' ⟨rfl, rfl⟩
  refine ⟨rfl, ?_⟩
  have B0 : Best (ns.take 3) (-3) (hfy prLt (([prD a 0, prD b (-1), prD c (-2)] : List D).length / 2) [prD a 0, prD b (-1), prD c (-2)]) := by rw [← hN]; exact Best.start
  generalize hfy prLt (([prD a 0, prD b (-1), prD c (-2)] : List D).length / 2) [prD a 0, prD b (-1), prD c (-2)] = hs0 at B0
  obtain ⟨x0, r0, rfl⟩ : ∃ x r, hs0 = x :: r := by
    have := B0.len
    match hs0, this with
    | x :: r, _ => exact ⟨x, r, rfl⟩
  obtain ⟨f0, o0, e0⟩ := B0.prs x0 (.head _)
  have ef0 : fst x0 = f0 := by rw [e0]; rfl
  refine Exs.cons (Ex.assign (d := .int (fst x0)) (Ev.itemT (n := 0) (ds := [.int f0, .int o0]) (Ev.item (n := 0) (d := .val (.ref acc)) (x := .tup [.int f0, .int o0]) (ds := x0 :: r0) (by walk_at "mine n") Ev.int (.cell (List.Mem.tail _ (List.Mem.head _))) (by (first | lia | omega)) (by (first | lia | omega)) (by rw [e0]; rfl)) Ev.int (by (first | lia | omega)) (by (first | lia | omega)) (by rw [ef0]; rfl)) (by walk_at "mine p") (kNe hs (by decide)) ?_)
  refine Exs.cons (Ex.assign (d := .int (-3)) (Ev.uny (by walk_at "mine n") Uny.neg) (by walk_at "mine p") (kNe hs (by decide)) ?_)
  refine Exs.cons (Ex.assign (d := .val (.ref 56)) (by walk_at "mine g") (by walk_at "mine p") (kNe hs (by decide)) ?_)
  let LL := fun (el tp od oo : Option D) => LN (some (.val (.ref I))) (some (.val (.ref acc))) (some (.int (ns.map D.int).length)) el tp od (some (.val (.ref 56))) oo (some (.int 3)) (some (.lst (ns.map .int)))
  refine Exs.cons (Ex.mono (R := fun f l c => f = .next ∧ ∃ x rs od el oo, l = LL el (some (.int (fst x))) (some (.int od)) oo ∧ c = (acc, .lst (x :: rs)) :: cells ∧ Best ns od (x :: rs))
    (Ex.for (fun i l c => ∃ x rs od el oo, l = LL el (some (.int (fst x))) (some (.int od)) oo ∧ c = (acc, .lst (x :: rs)) :: cells ∧ Best (ns.take (3 + i)) od (x :: rs))
      (ItE.iterC (pre := []) (post := (acc, .lst (x0 :: r0)) :: cells) (I := I) (ds := ns.map .int) (j := 3) (by walk_at "mine n") len3) ⟨x0, r0, -3, none, none, rfl, rfl, B0⟩ ?lturn ?ldone) ?after)
  case lturn =>
    rintro i d l c1 hd ⟨x, rs, od, el, oo, rfl, rfl, B⟩ hc
    rw [List.getElem?_drop, List.getElem?_map] at hd
    obtain ⟨e, he, rfl⟩ := Option.map_eq_some_iff.mp hd
    have htk : ns.take (3 + (i + 1)) = ns.take (3 + i) ++ [e] := by rw [← Nat.add_assoc, List.take_add_one, he]; rfl
    refine ⟨_, As.name (by walk_at "mine p") (kNe hs (by decide)), ?_⟩
    refine Exs.cons (Ex.ite (Tr.cmp (a := .int (fst x)) (b := .int e) (by walk_at "mine n") (by walk_at "mine n") Cmp.lt) (fun q => ?ys) (fun q => ?no))
    case no =>
      have hlt : ¬ fst x < e := of_decide_eq_false q
      exact Exs.nil (Exs.nil ⟨by simp, x, rs, od, _, oo, rfl, rfl, htk ▸ B.skip hlt⟩)
    case ys =>
      have hlt : fst x < e := of_decide_eq_true q
      have Bn := B.put hlt
      have hlen := B.len
      refine Exs.cons (Ex.exprAny (EvC.call (a := 56) (ds := [.val (.ref acc), prD e od]) (by walk_at "mine n") (by first | rfl | kernel_rfl) (EvL.cons (by walk_at "mine n") (EvL.cons (Ev.tup (EvL.cons (by walk_at "mine n") (EvL.cons (by walk_at "mine n") EvL.nil)) (by simp [sizeLine_eq])) EvL.nil))
        (Fn.mono (F.heapreplace (k := k + 2) (a := acc) (x := x) (item := prD e od) (rs := rs) (pre := []) (post := cells) ord_pr ord_pr B.prs ⟨_, _, rfl⟩ (by simp at hlen; (first | lia | omega))) ?hr)) (by unfold interactive; rw [hs]; rfl))
      rintro d c2 ⟨rfl, rfl⟩
      generalize Mine.siftup prLt (prD e od :: rs) 0 = hs1 at Bn
      obtain ⟨x1, r1, rfl⟩ : ∃ x r, hs1 = x :: r := by
        have := Bn.len
        match hs1, this with
        | x :: r, _ => exact ⟨x, r, rfl⟩
      obtain ⟨f1, o1, e1⟩ := Bn.prs x1 (.head _)
      have ef1 : fst x1 = f1 := by rw [e1]; rfl
      refine Exs.cons (Ex.assignTC (EvC.of (d := .tup [.int (fst x1), .int o1]) (Ev.item (n := 0) (d := .val (.ref acc)) (ds := x1 :: r1) (by walk_at "mine n") Ev.int (.cell (List.Mem.head _)) (by (first | lia | omega)) (by (first | lia | omega)) (by rw [ef1, ← e1]; rfl)) ⟨_, As.tup (AsL.cons (As.name (by walk_at "mine p") (kNe hs (by decide))) (AsL.cons (As.name (by walk_at "mine p") (kNe hs (by decide))) AsL.nil)), ?_⟩))
      refine Exs.cons (Ex.aug (a := .int od) (b := .int 1) (d := .int (od - 1)) (by walk_at "mine m") Ev.int Inp.sub (by walk_at "mine p") (kNe hs (by decide)) ?_)
      exact Exs.nil (Exs.nil ⟨by simp, x1, r1, od - 1, _, _, rfl, rfl, htk ▸ Bn⟩)
  case ldone =>
    rintro l c1 hc ⟨x, rs, od, el, oo, rfl, rfl, B⟩
    refine ⟨rfl, x, rs, od, el, oo, rfl, rfl, ?_⟩
    rw [List.length_drop, List.length_map, List.take_of_length_le (by (first | lia | omega))] at B
    exact B
  case after =>
    rintro f l c1 ⟨rfl, x, rs, od, el, oo, rfl, rfl, B⟩
    obtain ⟨os, hp, hso⟩ := B.sorted
    have hl := B.len
    refine Exs.cons (Ex.exprC (EvC.sortRev (a := acc) (pre := []) (post := cells) (ds := x :: rs) (os := os) rfl (by walk_at "mine n") B.prs (apts_of B.apts) (by (first | lia | omega)) (by (first | lia | omega)) hp hso ⟨rfl, ?_⟩) (by unfold interactive; rw [hs]; rfl))
    refine Exs.freeze (pre := []) (by walk_at "mine m") (by walk_at "mine p") ?_
    have hos : ∀ d ∈ os, IsPr d := fun d hd => B.prs d (hp.mem_iff.mp hd)
    have eo : os.filterMap fstF = (os.map fst).map D.int := by
      clear hp hso
      induction os with
      | nil => rfl
      | cons d os ih =>
        obtain ⟨p, q, rfl⟩ := hos d (.head _)
        rw [List.filterMap_cons, List.map_cons, List.map_cons, ← ih fun d hd => hos d (.tail _ hd)]
        rfl
    refine Exs.cons (Ex.ret (d := .lst ((os.map fst).map .int)) (Ev.freeze (EvC.comp ([(".0", none), ("elem", none), ("order", none)] : Loc) (fun l => ∃ p q, l = ([(".0", none), ("elem", p), ("order", q)] : Loc)) fstF (ItE.list (ds := os) (by walk_at "mine n")) ?io2 ⟨_, _, rfl⟩ ?cap2 ?turn2 ?sz2 (fun a => ⟨a, rfl, by rw [eo]⟩))) ?_)
    case io2 =>
      exact ⟨rfl, by decide, allC (fun e => by cases e) (allC (fun e => by cases e) (allC (fun e => by cases e) allN)),
        allC (.inl ⟨by decide, rfl⟩) (allC (.inl ⟨by decide, rfl⟩) (allC (.inl ⟨by decide, rfl⟩) allN)), (by decide : ([".0", "elem", "order"] : List Str).Nodup), allC ⟨rfl, rfl⟩ (allC ⟨rfl, rfl⟩ (allC ⟨rfl, rfl⟩ allN))⟩
    case cap2 =>
      rintro l ⟨p, q, rfl⟩
      exact allC (fun h => absurd h (by decide)) (allC (fun h => absurd h (by decide)) (allC (fun h => absurd h (by decide)) allN))
    case turn2 =>
      rintro cenv cc hc ck cn cg cb l d ⟨p, q, rfl⟩ hd
      obtain ⟨i, e, rfl⟩ := hos d hd
      have k1 : cenv.kindOf "elem" = some .local := by unfold Env.kindOf; rw [cn]; rfl
      have k2 : cenv.kindOf "order" = some .local := by unfold Env.kindOf; rw [cn]; rfl
      exact ⟨[(".0", none), ("elem", some (.int i)), ("order", some (.int e))], true, As.tup (AsL.cons (As.name (by walk_at "mine p") (by rw [k1]; decide)) (AsL.cons (As.name (by walk_at "mine p") (by rw [k2]; decide)) AsL.nil)), ⟨_, _, rfl⟩, rfl,
        fun _ => ⟨_, rfl, by walk_at "mine n"⟩, fun h => by cases h⟩
    case sz2 => rw [hp.length_eq, hl, sizeLine_eq]; decide
    exact ⟨[], cells, rfl, rfl, ⟨os.map fst, rfl, B.ends hp hso⟩, rfl⟩
end
end
/-! W13 -/
section
set_option maxHeartbeats 2000000
/-! the folders' heap, in plain lists -/
noncomputable def IsHp (d : D) : Prop := ∃ (a : Int) (x : Str) (t : Tok), d = .tup [.int a, .val (.str x t)]
noncomputable def hpK : D → Int × Str
  | .tup [.int a, .val (.str x _)] => (a, x)
  | _ => (0, Str.empty)
noncomputable def hpT : D → Str × Tok
  | .tup [.int _, .val (.str x t)] => (x, t)
  | _ => (Str.empty, 0)
noncomputable def hpLt (d e : D) : Bool := pairLt (hpK d).1 (hpK d).2 (hpK e).1 (hpK e).2
noncomputable def hpOf (S : Str → Int) (p : Str × Tok) : D := .tup [.int (-(S p.1)), .val (.str p.1 p.2)]
theorem pairLt_false {a b : Int} {x y : Str} : pairLt a x b y = false ↔ b < a ∨ (a = b ∧ slt x y = false) := by
  have h := pairLt_iff (a := a) (b := b) (x := x) (y := y)
  cases e : pairLt a x b y with
  | true =>
    rw [e] at h
    have := h.mp rfl
    constructor
    · intro h; cases h
    · rintro (q | ⟨q1, q2⟩)
      · (first | lia | omega)
      · rcases this with r | ⟨_, r⟩
        · (first | lia | omega)
        · rw [q2] at r; (first | obtain ⟨_, rfl⟩ := Rep.inv r | cases r)
  | false =>
    rw [e] at h
    refine ⟨fun _ => ?_, fun _ => rfl⟩
    have n1 : ¬ (a < b ∨ a = b ∧ slt x y = true) := fun q => absurd (h.mpr q) (by decide)
    by_cases q : b < a
    · exact .inl q
    · have : a = b := by
        rcases Int.lt_trichotomy a b with r | r | r
        · exact absurd (.inl r) n1
        · exact r
        · exact absurd r q
      refine .inr ⟨this, ?_⟩
      cases r : slt x y with
      | false => rfl
      | true => exact absurd (.inr ⟨this, r⟩) n1
theorem slt_neg {a b c : Str} (h1 : slt a b = false) (h2 : slt b c = false) : slt a c = false := by
  cases e : slt a c with
  | false => rfl
  | true =>
    by_cases q : a = b
    · rw [q, h2] at e; cases e
    · rcases slt_total q with h | h
      · rw [h1] at h; cases h
      · rw [slt_trans h e] at h2; cases h2
theorem swo_hp : SWO hpLt IsHp where
  asymm := fun x y _ _ h => by
    unfold hpLt at *
    rw [pairLt_iff] at h
    rw [pairLt_false]
    rcases h with h | ⟨h1, h2⟩
    · exact .inl h
    · exact .inr ⟨h1.symm, slt_asymm h2⟩
  neg := fun x y z _ _ _ h1 h2 => by
    unfold hpLt at *
    rw [pairLt_false] at *
    rcases h1 with h1 | ⟨h1, h1'⟩ <;> rcases h2 with h2 | ⟨h2, h2'⟩
    · exact .inl (Int.lt_trans h2 h1)
    · exact .inl (h2 ▸ h1)
    · exact .inl (h1 ▸ h2)
    · exact .inr ⟨h1.trans h2, slt_neg h1' h2'⟩
theorem ord_hp {w : World} {k : Nat} : Ord w (k + 1) IsHp hpLt := ⟨fun x y ⟨a, i, t, e1⟩ ⟨b, j, u, e2⟩ => by subst e1 e2; exact Cmp.ltPv⟩
theorem hpOf_is (S : Str → Int) (p : Str × Tok) : IsHp (hpOf S p) := ⟨_, _, _, rfl⟩
noncomputable def PopIs (lt : D → D → Bool) (last x : D) : List D → List D → Prop
  | [], hs => x = last ∧ hs = []
  | y :: rs, hs => x = y ∧ hs = Mine.siftup lt (last :: rs) 0
/-- what comes off a heap -/
theorem pop_ok {lt : D → D → Bool} {P : D → Prop} (O : SWO lt P) {ds : List D} {last : D} (hP : ∀ d ∈ ds ++ [last], P d) (h : Heap1 lt 0 (ds ++ [last])) (x : D) (hs : List D)
    (hx : PopIs lt last x ds hs) : (x :: hs).Perm (ds ++ [last]) ∧ Heap1 lt 0 hs ∧ ∀ d ∈ hs, lt d x = false := by
  cases ds with
  | nil =>
    obtain ⟨rfl, rfl⟩ := hx
    exact ⟨.refl _, fun i hi hp a b ha => by simp at ha, fun d hd => by cases hd⟩
  | cons y rs =>
    obtain ⟨rfl, rfl⟩ := hx
    have pm : (Mine.siftup lt (last :: rs) 0).Perm (last :: rs) := siftup_perm
    have hP' : ∀ d ∈ last :: rs, P d := fun d hd => by
      rcases List.mem_cons.mp hd with rfl | hd
      · exact hP _ (List.mem_append_right _ (.head _))
      · exact hP _ (List.mem_append_left _ (.tail _ hd))
    refine ⟨?_, siftup_heap O hP' (Nat.succ_pos _) (heap_pop h), fun d hd => ?_⟩
    · refine (pm.cons x).trans ?_
      show (x :: last :: rs).Perm (x :: (rs ++ [last]))
      exact (List.perm_append_comm (l₁ := [last]) (l₂ := rs)).cons x
    · have hd' := pm.mem_iff.mp hd
      have hm : d ∈ x :: rs ++ [last] := by
        rcases List.mem_cons.mp hd' with rfl | hd'
        · exact List.mem_append_right _ (.head _)
        · exact List.mem_append_left _ (.tail _ hd')
      obtain ⟨i, hi, e⟩ := List.mem_iff_getElem.mp hm
      exact heap_root O hP h rfl i d ((List.getElem?_eq_getElem hi).trans (congrArg some e))
/-- between two pops: what came off, in order, and what is left -/
structure Pops (S : Str → Int) (ks outs : List (Str × Tok)) (hs : List D) : Prop where
  form : ∀ d ∈ hs, d = hpOf S (hpT d)
  heap : Heap1 hpLt 0 hs
  perm : (outs ++ hs.map hpT).Perm ks
  ord : (outs.map (hpOf S)).Pairwise fun d e => hpLt e d = false
  below : ∀ o ∈ outs, ∀ d ∈ hs, hpLt d (hpOf S o) = false
theorem Pops.prs {S : Str → Int} {ks outs : List (Str × Tok)} {hs : List D} (B : Pops S ks outs hs) : ∀ d ∈ hs, IsHp d := fun d hd => by rw [B.form d hd]; exact hpOf_is _ _
theorem Pops.start {S : Str → Int} {ks : List (Str × Tok)} : Pops S ks [] (hfy hpLt ((ks.map (hpOf S)).length / 2) (ks.map (hpOf S))) := by
  obtain ⟨h1, pm⟩ := heapify_ok swo_hp (ds := ks.map (hpOf S)) (fun d hd => by obtain ⟨p, _, rfl⟩ := List.mem_map.mp hd; exact hpOf_is _ _)
  refine ⟨fun d hd => ?_, h1, ?_, .nil, fun o ho => by cases ho⟩
  · obtain ⟨p, _, rfl⟩ := List.mem_map.mp (pm.mem_iff.mp hd)
    rfl
  · rw [List.nil_append]
    refine (pm.map hpT).trans ?_
    rw [List.map_map]
    have : (hpT ∘ hpOf S) = id := by funext p; rfl
    rw [this, List.map_id]
theorem Pops.pop {S : Str → Int} {ks outs : List (Str × Tok)} {hs hs' : List D} {x : D} (B : Pops S ks outs hs) (hp : (x :: hs').Perm hs) (hh : Heap1 hpLt 0 hs') (hb : ∀ d ∈ hs', hpLt d x = false) :
    x = hpOf S (hpT x) ∧ hpT x ∈ ks ∧ Pops S ks (outs ++ [hpT x]) hs' := by
  have mx : x ∈ hs := hp.mem_iff.mp (.head _)
  have ms : ∀ d ∈ hs', d ∈ hs := fun d hd => hp.mem_iff.mp (.tail _ hd)
  have fx := B.form x mx
  refine ⟨fx, B.perm.mem_iff.mp (List.mem_append_right _ (List.mem_map.mpr ⟨x, mx, rfl⟩)), fun d hd => B.form d (ms d hd), hh, ?_, ?_, fun o ho d hd => ?_⟩
  · rw [List.append_assoc]
    exact ((hp.map hpT).append_left outs).trans B.perm
  · rw [List.map_append]
    refine List.pairwise_append.mpr ⟨B.ord, by simp, fun d hd e he => ?_⟩
    obtain ⟨o, ho, rfl⟩ := List.mem_map.mp hd
    have : e = x := by simpa [← fx] using he
    rw [this]
    exact B.below o ho x mx
  · rcases List.mem_append.mp ho with ho | ho
    · exact B.below o ho d (ms d hd)
    · rw [List.mem_singleton.mp ho, ← fx]; exact hb d hd
theorem Pops.ends {S : Str → Int} {ks outs : List (Str × Tok)} (B : Pops S ks outs []) (nd : (ks.map (·.1)).Nodup) :
    (outs.map (·.1)).Perm (ks.map (·.1)) ∧ (outs.map (·.1)).Pairwise fun x y => pairLt (-(S x)) x (-(S y)) y = true := by
  have hp : outs.Perm ks := by have := B.perm; simpa using this
  refine ⟨hp.map _, ?_⟩
  have nd' : (outs.map (·.1)).Nodup := (hp.map (·.1)).nodup_iff.mpr nd
  have h1 := List.pairwise_map.mp B.ord
  have h2 := List.pairwise_map.mp nd'
  refine List.pairwise_map.mpr ((h1.and h2).imp fun {p q} ⟨a, b⟩ => ?_)
  have a' : pairLt (-(S q.1)) q.1 (-(S p.1)) p.1 = false := a
  rw [pairLt_false] at a'
  rw [pairLt_iff]
  rcases a' with a' | ⟨a1, a2⟩
  · exact .inl a'
  · refine .inr ⟨a1.symm, ?_⟩
    rcases slt_total b with h | h
    · exact h
    · rw [a2] at h; cases h
/-- the three greatest, as one list -/
noncomputable def top3 (ns : List Int) : List Int := (ns.mergeSort (fun a b => decide (b ≤ a))).take 3
theorem desc_uniq : ∀ {l m : List Int}, l.Perm m → l.Pairwise (fun a b => b ≤ a) → m.Pairwise (fun a b => b ≤ a) → l = m
  | [], m, p, _, _ => p.nil_eq
  | a :: l, [], p, _, _ => absurd p.length_eq (by simp)
  | a :: l, b :: m, p, hl, hm => by
    obtain ⟨h1, h2⟩ := List.pairwise_cons.mp hl
    obtain ⟨h3, h4⟩ := List.pairwise_cons.mp hm
    have e : a = b := by
      rcases List.mem_cons.mp (p.mem_iff.mp (.head _)) with e | ha
      · exact e
      rcases List.mem_cons.mp (p.mem_iff.mpr (.head _)) with e | hb
      · exact e.symm
      exact Int.le_antisymm (h3 a ha) (h1 b hb)
    subst e
    rw [desc_uniq (List.perm_cons _ |>.mp p) h2 h4]
theorem desc_sort (ns : List Int) : (ns.mergeSort (fun a b => decide (b ≤ a))).Pairwise (fun a b => b ≤ a) ∧ (ns.mergeSort (fun a b => decide (b ≤ a))).Perm ns := by
  refine ⟨(List.pairwise_mergeSort (le := fun a b => decide (b ≤ a)) (fun a b c x y => ?_) (fun a b => ?_) ns).imp fun {a b} h => by simpa using h, List.mergeSort_perm _ _⟩
  · simp only [decide_eq_true_eq] at *; (first | lia | omega)
  · simp only [Bool.or_eq_true, decide_eq_true_eq]; (first | lia | omega)
theorem NL.top {ns ms : List Int} (h : NL ns ms) : ms = top3 ns := by
  obtain ⟨h1, rest, h2, h3, h4⟩ := h
  obtain ⟨s1, s2⟩ := desc_sort rest
  obtain ⟨t1, t2⟩ := desc_sort ns
  have : ms ++ rest.mergeSort (fun a b => decide (b ≤ a)) = ns.mergeSort (fun a b => decide (b ≤ a)) := by
    refine desc_uniq (((s2.append_left ms).trans h2).trans t2.symm) (List.pairwise_append.mpr ⟨h3, s1, fun a ha b hb => h4 b (s2.mem_iff.mp hb) a ha⟩) t1
  unfold top3
  rw [← this, List.take_left' h1]
theorem F.nlargest3 {w : World} {k : Nat} {cells : Cls} {ns : List Int} (h3 : 3 < ns.length) (hn : ns.length ≤ 100) : Fn w (k + 6) (.ref 83) [.int 3, .lst (ns.map .int)] cells (fun r c => r = .lst ((top3 ns).map .int) ∧ c = cells) :=
  Fn.mono (F.nlargest h3 hn) fun d c ⟨⟨ms, e, h⟩, hc⟩ => ⟨by rw [e, h.top], hc⟩
end
/-! W14 -/
section
set_option maxHeartbeats 2000000
theorem FnT.mono {w : World} {k N : Nat} {f : Value} {args : List D} {cells : Cls} {R R' : D → Nat → Cls → Prop} (h : FnT w k N f args cells R) (hR : ∀ d tk c, R d tk c → R' d tk c) : FnT w k N f args cells R' :=
  fun A g s vs Q hA S C r hN hQ => h A g s vs Q hA S C r hN fun v g' h' tk' d c' a b e x y => hQ v g' h' tk' d c' a b e x (hR _ _ _ y)
structure FileD where
  steps : List Str
  name : Str
  size : Int
noncomputable def FileD.d (f : FileD) : D := .tup [.lst (f.steps.map .str), .str f.name, .int f.size]
noncomputable def FileD.path (f : FileD) : Str := joinS "/" (f.steps ++ [f.name])
noncomputable def iterDir : Nat → Str → Str
  | 0, p => p
  | n + 1, p => iterDir n (dirS p)
/-- what makes a file's path fine -/
structure PathOk (n : Nat) (f : FileD) : Prop where
  join : JoinFine "/" (f.steps ++ [f.name])
  dir : DirOk f.path
  chain : ∀ n, iterDir n f.path ≠ "/" → DirOk (iterDir n f.path)
  ends : iterDir n f.path = "/"
  few : n ≤ 12
noncomputable abbrev LR (fd sm ck wi st nm sz fo hp rw cm : Option D) : Loc := [("files", fd), ("sums", sm), ("checks", ck), ("within", wi), ("steps", st), ("name", nm), ("size", sz), ("folder", fo), ("heap", hp), ("rows", rw), ("common", cm)]
section
variable {w : World} {k N : Nat} {cells : Cls}
/-- what the first `count` files have laid up -/
noncomputable def tabOf (fs : List FileD) (len : FileD → Nat) : Tab := fs.foldl (fun T f => T.steps (chain (len f) f.path) f.size) ⟨[], [], []⟩
noncomputable def withinOf (fs : List FileD) : List Str := fs.map fun f => dirS f.path
noncomputable def cellsR (a1 a2 a3 : Addr) (cells : Cls) (T : Tab) (ks2 ks : List (Str × Tok)) (wi : List (Str × Tok)) : Cls := (a3, .lst (wi.map fun p => .val (.str p.1 p.2))) :: (a2, .dict ks2 (T.checks.map .int)) :: (a1, .dict ks (T.sums.map .int)) :: cells
inductive Inv (a1 a2 a3 : Addr) (cells : Cls) (fd : Option D) (fs : List FileD) (len : FileD → Nat) (i tk : Nat) (l : Loc) (c : Cls) : Prop
  | mk (st nm sz fo : Option D) (ks wi : List (Str × Tok)) (h1 : l = LR fd (some (.val (.ref a1))) (some (.val (.ref a2))) (some (.val (.ref a3))) st nm sz fo none none none)
    (h2 : c = cellsR a1 a2 a3 cells (tabOf (fs.take i) len) ks ks wi) (h3 : ks.map (·.1) = (tabOf (fs.take i) len).names) (h4 : wi.map (·.1) = withinOf (fs.take i)) (h5 : TokOk tk ks wi) (h6 : (tabOf (fs.take i) len).sums.length ≤ 12 * i) (h7 : (tabOf (fs.take i) len).checks.length ≤ 12 * i) : Inv a1 a2 a3 cells fd fs len i tk l c
inductive InvW (a1 a2 a3 : Addr) (cells : Cls) (fd : Option D) (f : FileD) (wi : List (Str × Tok)) (T' : Tab) (b n tk : Nat) (l : Loc) (c : Cls) : Prop
  | mk (p : Str) (fo : D) (ks : List (Str × Tok)) (T : Tab) (h0 : IsT p fo) (h1 : l = LR fd (some (.val (.ref a1))) (some (.val (.ref a2))) (some (.val (.ref a3))) (some (.lst (f.steps.map .str))) (some (.str f.name)) (some (.int f.size)) (some fo) none none none)
    (h2 : c = cellsR a1 a2 a3 cells T ks ks wi) (h3 : ks.map (·.1) = T.names) (h4 : TokOk tk ks wi) (h5 : 1 ≤ tk) (h6 : iterDir n p = "/") (h7 : ∀ j, iterDir j p ≠ "/" → DirOk (iterDir j p)) (h8 : T.steps (chain n p) f.size = T') (h9 : T.sums.length + n ≤ b) (h10 : T.checks.length + n ≤ b) : InvW a1 a2 a3 cells fd f wi T' b n tk l c
theorem iput_len : ∀ (ks : List Str) (ds : List Int) (y : Str) (e : Int), (iput ks ds y e).length ≤ ds.length + 1
  | [], ds, y, e => by cases ds <;> simp [iput]
  | x :: ks, [], y, e => by simp [iput]
  | x :: ks, d :: ds, y, e => by
    unfold iput
    split
    · simp
    · simpa using iput_len ks ds y e
theorem chain_root (n : Nat) : chain n "/" = [] := by cases n <;> simp [chain]
theorem iput_length : ∀ (ks : List Str) (ds : List Int) (y : Str) (e : Int), ks.length = ds.length → (iput ks ds y e).length = if ks.contains y then ds.length else ds.length + 1
  | [], [], y, e, _ => rfl
  | x :: ks, d :: ds, y, e, h => by
    have ih := iput_length ks ds y e (by simpa using h)
    unfold iput
    by_cases q : x = y
    · subst q; simp
    · rw [if_neg q, List.length_cons, ih, List.contains_cons]
      have : (y == x) = false := by simpa using fun e => q e.symm
      rw [this, Bool.false_or]
      split <;> simp
theorem iget_some : ∀ {ks : List Str} {ds : List Int} {y : Str}, ks.length = ds.length → y ∈ ks → ∃ v, iget ks ds y = some v
  | x :: ks, d :: ds, y, h, hm => by
    unfold iget
    by_cases q : x = y
    · exact ⟨d, by rw [if_pos q]⟩
    · rw [if_neg q]
      rcases List.mem_cons.mp hm with e | hm
      · exact absurd e.symm q
      · exact iget_some (by simpa using h) hm
noncomputable def Tab.Wf (T : Tab) : Prop := T.names.length = T.sums.length ∧ T.names.length = T.checks.length
theorem Tab.Wf.step {T : Tab} (h : T.Wf) (x : Str) (n : Int) : (T.step x n).Wf := by
  unfold Tab.step Tab.Wf
  dsimp only
  rw [iput_length _ _ _ _ h.1, iput_length _ _ _ _ h.2, ← h.1, ← h.2]
  split <;> simp
theorem Tab.Wf.steps {n : Int} : ∀ {xs : List Str} {T : Tab}, T.Wf → (T.steps xs n).Wf
  | [], _, h => h
  | x :: xs, T, h => Tab.Wf.steps (xs := xs) (h.step x n)
theorem tabOf_wf (fs : List FileD) (len : FileD → Nat) : (tabOf fs len).Wf := by
  unfold tabOf
  have : ∀ (fs : List FileD) (T : Tab), T.Wf → (fs.foldl (fun T f => T.steps (chain (len f) f.path) f.size) T).Wf := by
    intro fs
    induction fs with
    | nil => intro T h; exact h
    | cons f fs ih => intro T h; exact ih _ h.steps
  exact this fs _ ⟨rfl, rfl⟩
theorem Ev.negneg {env : Env} {loc : Loc} {e : Expr} {pos : Pos} {a : Int} (h : Ev w env k loc cells e (.int (-a))) : Ev w env k loc cells (.UnaryOp .USub e pos) (.int a) := by
  have := Ev.uny (pos := pos) h Uny.neg
  rw [Int.neg_neg] at this
  exact this
noncomputable def sumOf (T : Tab) (x : Str) : Int := (iget T.names T.sums x).getD 0
noncomputable def ckOf (T : Tab) (x : Str) : Int := (iget T.names T.checks x).getD 0
noncomputable def rowR (T : Tab) (wi : List Str) (x : Str) : D := .tup [.str x, .int (sumOf T x), .int (ckOf T x), .int ((wi.countP (· == x) : Nat) : Int)]
noncomputable def stepOf (x : Str) : List Str := (Txt.split x "/").filter keepS
noncomputable def commS (xs : List Str) (j : Nat) : Str := pathS (commL (stepOf (xs.getD j Str.empty)) (stepOf (xs.getD (j + 1) Str.empty)))
noncomputable def runRes (T : Tab) (wi xs : List Str) : D := .tup [.lst (xs.map (rowR T wi)), .lst ((List.range (xs.length - 1)).map fun j => .str (commS xs j)), .lst ((top3 (xs.map (ckOf T))).map .int)]
noncomputable def commF (xs : List Str) : D → Option D
  | .int j => some (.str (commS xs j.toNat))
  | _ => none
noncomputable def ckF (T : Tab) : D → Option D
  | .tup (.str x :: _) => some (.int (ckOf T x))
  | _ => none
theorem commF_map (xs : List Str) (n : Nat) : (rng 0 1 n).filterMap (commF xs) = (List.range n).map fun j => .str (commS xs j) := by
  unfold rng
  rw [List.filterMap_map]
  induction (List.range n) with
  | nil => rfl
  | cons j l ih => rw [List.filterMap_cons, List.map_cons, ← ih]; simp [commF]
theorem ckF_map (T : Tab) (wi xs : List Str) : (xs.map (rowR T wi)).filterMap (ckF T) = (xs.map (ckOf T)).map D.int := by
  induction xs with
  | nil => rfl
  | cons x xs ih => rw [List.map_cons, List.filterMap_cons, List.map_cons, List.map_cons, ← ih]; rfl
noncomputable def hpF (S : Str → Int) : D → Option D
  | .val (.str x t) => some (.tup [.int (-(S x)), .val (.str x t)])
  | _ => none
theorem hpF_map (S : Str → Int) (ks : List (Str × Tok)) : (keysD ks).filterMap (hpF S) = ks.map (hpOf S) := by
  induction ks with
  | nil => rfl
  | cons p ks ih => rw [List.map_cons, ← ih]; rfl
set_option maxHeartbeats 8000000 in
theorem F.law_run {fs : List FileD} (len : FileD → Nat) (hn : fs.length ≤ 100) (ok : ∀ f ∈ fs, PathOk (len f) f) (hgood : ∀ x ∈ (tabOf fs len).names, ∃ s, PGood s ∧ x = pathS s) (hnd : (tabOf fs len).names.Nodup) (h3 : 3 < (tabOf fs len).names.length) (h60 : (tabOf fs len).names.length ≤ 60) :
    FnT w (k + 8) 0 (.ref 199) [.lst (fs.map FileD.d)] cells (fun r _ c => (∃ xs : List Str, xs.Perm (tabOf fs len).names ∧ xs.Pairwise (fun x y => pairLt (-(sumOf (tabOf fs len) x)) x (-(sumOf (tabOf fs len) y)) y = true) ∧ r = runRes (tabOf fs len) (withinOf fs) xs) ∧ c = cells) := by
  refine FnT.def (ds := [.lst (fs.map FileD.d)]) ["files", "sums", "checks", "within", "steps", "name", "size", "folder", "heap", "rows", "common"] ["files"] (f := 199) (by exact rfl) (by with_unfolding_all rfl) (binds_plain rfl (binds1 fun u => by with_unfolding_all rfl)) (by decide) (by decide) (by decide) ?h
  intro env hs hg hb
  let fd : Option D := some (.lst (fs.map FileD.d))
  refine ExsT.cons (ExT.lift (Ex.assignC (EvC.newDict fun a => ⟨_, by walk_at "mine p", a, rfl, rfl, rfl⟩) (kNe hs (by decide)) (R := fun f l c => ∃ a, f = .next ∧ l = LR fd (some (.val (.ref a))) none none none none none none none none none ∧ c = (a, .dict [] []) :: cells)) ?_)
  rintro fl l c tk htk ⟨a1, rfl, rfl, rfl⟩
  refine ExsT.cons (ExT.lift (Ex.assignC (EvC.newDict fun a => ⟨_, by walk_at "mine p", a, rfl, rfl, rfl⟩) (kNe hs (by decide)) (R := fun f l c => ∃ a, f = .next ∧ l = LR fd (some (.val (.ref a1))) (some (.val (.ref a))) none none none none none none none none ∧ c = (a, .dict [] []) :: (a1, .dict [] []) :: cells)) ?_)
  rintro fl l c tk2 htk2 ⟨a2, rfl, rfl, rfl⟩
  refine ExsT.cons (ExT.lift (Ex.assignC (EvC.newList (ds := []) EvL.nil (by decide) fun a => ⟨_, by walk_at "mine p", a, rfl, rfl, rfl⟩) (kNe hs (by decide)) (R := fun f l c => ∃ a, f = .next ∧ l = LR fd (some (.val (.ref a1))) (some (.val (.ref a2))) (some (.val (.ref a))) none none none none none none none ∧ c = (a, .lst []) :: (a2, .dict [] []) :: (a1, .dict [] []) :: cells)) ?_)
  rintro fl l c tk3 htk3 ⟨a3, rfl, rfl, rfl⟩
  refine ExsT.cons (ExT.for (items := fs.map FileD.d) (cells0 := (a3, .lst []) :: (a2, .dict [] []) :: (a1, .dict [] []) :: cells) (cells := (a3, .lst []) :: (a2, .dict [] []) :: (a1, .dict [] []) :: cells) (Inv a1 a2 a3 cells fd fs len) (ItE.list (by walk_at "mine n")) ?ci ?ct ?cd)
  case ci => exact ⟨none, none, none, none, [], [], rfl, rfl, rfl, rfl, ⟨by simp, by simp, by simp⟩, Nat.le_refl _, Nat.le_refl _⟩
  case ct =>
    rintro i d tk l c hi ⟨st, nm, sz, fo, ks, wi, rfl, rfl, hks, hwi, htok, hl1, hl2⟩ hc
    obtain ⟨f, hf, rfl⟩ : ∃ f, fs[i]? = some f ∧ f.d = d := by
      rw [List.getElem?_map] at hi
      cases e : fs[i]? with
      | none => rw [e] at hi; cases hi
      | some f => rw [e] at hi; exact ⟨f, rfl, Option.some.inj hi⟩
    have hi100 : i < fs.length := (List.getElem?_eq_some_iff.mp hf).1
    have P : PathOk (len f) f := ok f (List.mem_of_getElem? hf)
    have ht : fs.take (i + 1) = fs.take i ++ [f] := by rw [List.take_add_one, hf]; rfl
    refine ⟨LR fd (some (.val (.ref a1))) (some (.val (.ref a2))) (some (.val (.ref a3))) (some (.lst (f.steps.map .str))) (some (.str f.name)) (some (.int f.size)) fo none none none, As.tup (AsL.cons (As.name (by walk_at "mine p") (kNe hs (by decide))) (AsL.cons (As.name (by walk_at "mine p") (kNe hs (by decide))) (AsL.cons (As.name (by walk_at "mine p") (kNe hs (by decide))) AsL.nil))), ?_⟩
    refine ExsT.cons (ExT.assign (EvT.callS1 (a := 177) (ds := f.steps.map D.str ++ [D.str f.name]) (by walk_at "mine g") (by first | rfl | kernel_rfl) (EvL.star (d := .none) (by walk_at "mine n") (EvL.cons (by walk_at "mine n") EvL.nil) ?len) ((by simp : (f.steps ++ [f.name]).map D.str = f.steps.map D.str ++ [D.str f.name]) ▸ F.join P.join) ?join) (kNe hs (by decide)))
    case len => have := P.join.n; rw [List.length_map, sizeLine_eq]; simp at this; (first | lia | omega)
    case join =>
      rintro d c tk2 htk2 ⟨rfl, rfl⟩
      refine ⟨_, by walk_at "mine p", fun tk3 htk3 => ?_⟩
      have b1 : 1 ≤ tk3 := by (first | lia | omega)
      have hwl : wi.length ≤ 100 := by
        have := congrArg List.length hwi
        rw [List.length_map, withinOf, List.length_map, List.length_take] at this
        (first | lia | omega)
      refine ExsT.cons (ExT.appendT (a := a3) (pre := []) (ds := wi.map fun p => .val (.str p.1 p.2)) rfl (by walk_at "mine n") (EvT.call1 (a := 184) (by walk_at "mine g") (by first | rfl | kernel_rfl) (by walk_at "mine n") (FnT.mono (F.dirname (.inl rfl) P.dir) ?dn)) (by rw [List.length_map, sizeLine_eq]; (first | lia | omega)) (by unfold interactive; rw [hs]; rfl))
      case dn =>
        rintro r tk4 c ⟨⟨t, rfl, ht4, ht4'⟩, rfl⟩
        refine ⟨rfl, fun tk5 ht5 => ?_⟩
        have htok5 : TokOk tk5 ks (wi ++ [(dirS f.path, t)]) := (htok.le (by (first | lia | omega) : tk ≤ tk3)).within b1 ht4 (Nat.lt_of_lt_of_le ht4' ht5)
        have hw : (wi ++ [(dirS f.path, t)]).map (·.1) = withinOf (fs.take (i + 1)) := by rw [ht, List.map_append, hwi]; simp [withinOf]
        refine ExsT.cons (ExT.while (InvW a1 a2 a3 cells fd f (wi ++ [(dirS f.path, t)]) (tabOf (fs.take (i + 1)) len) (12 * (i + 1))) (len f) ?w0 ?wt)
        case w0 =>
          refine ⟨f.path, .str f.path, ks, tabOf (fs.take i) len, .inl rfl, rfl, ?_, hks, htok5, Nat.le_trans b1 (Nat.le_trans ht4 (Nat.le_of_lt (Nat.lt_of_lt_of_le ht4' ht5))), P.ends, P.chain, ?_, by have := P.few; (first | lia | omega), by have := P.few; (first | lia | omega)⟩
          · simp [cellsR]
          · rw [ht]; simp [tabOf]
        case wt =>
          rintro n tk6 l c ⟨p, fo, ks', T, hp, rfl, rfl, hks', htok', h1', hend, hch, hT, hb1, hb2⟩
          refine ⟨p != "/", Tr.cmp (a := .str p) (hp.ev (by walk_at "mine n")) Ev.str Cmp.nes, fun hq => ?yes, fun hq tk7 htk7 => ?no⟩
          case no =>
            have hq' : p = "/" := by simpa using hq
            subst hq'
            rw [chain_root] at hT
            have hT : T = tabOf (fs.take (i + 1)) len := hT
            subst hT
            refine ExsT.nil fun tk8 htk8 => ?_
            refine ⟨rfl, _, _, _, _, ks', wi ++ [(dirS f.path, t)], rfl, rfl, hks', hw, htok'.le (Nat.le_trans htk7 htk8), by (first | lia | omega), by (first | lia | omega)⟩
          case yes =>
            have hq' : p ≠ "/" := by simpa using hq
            have hd : DirOk p := hch 0 hq'
            cases n with
            | zero => exact absurd hend hq'
            | succ n =>
            refine ExsT.cons (ExT.assign (EvT.call1 (a := 184) (by walk_at "mine g") (by first | rfl | kernel_rfl) (by walk_at "mine n") (FnT.mono (F.dirname hp hd) ?dn2)) (kNe hs (by decide)))
            rintro r tk7 c ⟨⟨u, rfl, hu, hu'⟩, rfl⟩
            refine ⟨_, by walk_at "mine p", fun tk8 htk8 => ?_⟩
            have m1 : (a1, C.dict ks' (T.sums.map .int)) ∈ cellsR a1 a2 a3 cells T ks' ks' (wi ++ [(dirS f.path, t)]) := List.Mem.tail _ (List.Mem.tail _ (List.Mem.head _))
            have m2 : (a2, C.dict ks' (T.checks.map .int)) ∈ cellsR a1 a2 a3 cells T ks' ks' (wi ++ [(dirS f.path, t)]) := List.Mem.tail _ (List.Mem.head _)
            refine ExsT.cons (ExT.lift (Ex.setD (P := fun fl l c => fl = .next ∧ l = LR fd (some (.val (.ref a1))) (some (.val (.ref a2))) (some (.val (.ref a3))) (some (.lst (f.steps.map .str))) (some (.str f.name)) (some (.int f.size)) (some (.val (.str (dirS p) u))) none none none ∧ c = cellsR a1 a2 a3 cells ⟨T.names, iput T.names T.sums (dirS p) ((iget T.names T.sums (dirS p)).getD 0 + f.size), T.checks⟩ ks' (kput ks' (dirS p) u) (wi ++ [(dirS f.path, t)]))
              (a := a1) (ks := ks') (ds := T.sums.map .int) (x := dirS p) (t := u) (d := .int ((iget T.names T.sums (dirS p)).getD 0 + f.size)) (pre := [_, _]) rfl
              (Ev.ofC (EvC.call (a := 35) (ds := [.int ((iget T.names T.sums (dirS p)).getD 0), .int f.size]) (by walk_at "mine g") (by first | rfl | kernel_rfl)
                (EvL.cons (Ev.ofC (EvC.meth (d := .val (.ref a1)) (ds := [.str (dirS p), .int 0]) (by walk_at "mine n") (Recv.dict m1) (EvL.cons (Ev.wk (t := u) (by walk_at "mine n")) (EvL.cons Ev.int EvL.nil)) (M.dget m1 ⟨by rw [hks', dget_int]; cases iget T.names T.sums (dirS p) <;> rfl, rfl⟩) PySem.F.plainAttrs_dict PySem.F.slot_dict_get PySem.F.type_dict_get)) (EvL.cons (by walk_at "mine n") EvL.nil)) F.iadd))
              (by walk_at "mine n") (by walk_at "mine n") (by rw [List.length_map, sizeLine_eq]; (first | lia | omega)) ⟨rfl, rfl, ?_⟩) ?_)
            · simp only [cellsR, hks', dput_int]
              rfl
            rintro fl l c tk9 htk9 ⟨rfl, rfl, rfl⟩
            have m3 : (a2, C.dict ks' (T.checks.map .int)) ∈ cellsR a1 a2 a3 cells ⟨T.names, iput T.names T.sums (dirS p) ((iget T.names T.sums (dirS p)).getD 0 + f.size), T.checks⟩ ks' (kput ks' (dirS p) u) (wi ++ [(dirS f.path, t)]) := List.Mem.tail _ (List.Mem.head _)
            refine ExsT.cons (ExT.lift (Ex.setD (P := fun fl l c => fl = .next ∧ l = LR fd (some (.val (.ref a1))) (some (.val (.ref a2))) (some (.val (.ref a3))) (some (.lst (f.steps.map .str))) (some (.str f.name)) (some (.int f.size)) (some (.val (.str (dirS p) u))) none none none ∧ c = cellsR a1 a2 a3 cells (T.step (dirS p) f.size) (kput ks' (dirS p) u) (kput ks' (dirS p) u) (wi ++ [(dirS f.path, t)]))
              (a := a2) (ks := ks') (ds := T.checks.map .int) (x := dirS p) (t := u) (d := .int (Builtin.bitXor ((iget T.names T.checks (dirS p)).getD 0) f.size)) (pre := [_]) rfl
              (Ev.ofC (EvC.call (a := 42) (ds := [.int ((iget T.names T.checks (dirS p)).getD 0), .int f.size]) (by walk_at "mine g") (by first | rfl | kernel_rfl)
                (EvL.cons (Ev.ofC (EvC.meth (d := .val (.ref a2)) (ds := [.str (dirS p), .int 0]) (by walk_at "mine n") (Recv.dict m3) (EvL.cons (Ev.wk (t := u) (by walk_at "mine n")) (EvL.cons Ev.int EvL.nil)) (M.dget m3 ⟨by rw [hks', dget_int]; cases iget T.names T.checks (dirS p) <;> rfl, rfl⟩) PySem.F.plainAttrs_dict PySem.F.slot_dict_get PySem.F.type_dict_get)) (EvL.cons (by walk_at "mine n") EvL.nil)) F.ixor))
              (by walk_at "mine n") (by walk_at "mine n") (by rw [List.length_map, sizeLine_eq]; (first | lia | omega)) ⟨rfl, rfl, ?_⟩) ?_)
            · simp only [cellsR, hks', dput_int]
              rfl
            rintro fl l c tk10 htk10 ⟨rfl, rfl, rfl⟩
            refine ExsT.nil fun tk11 htk11 => ?_
            have s1 := iput_len T.names T.sums (dirS p) ((iget T.names T.sums (dirS p)).getD 0 + f.size)
            have s2 := iput_len T.names T.checks (dirS p) (Builtin.bitXor ((iget T.names T.checks (dirS p)).getD 0) f.size)
            refine ⟨n, Nat.lt_succ_self n, dirS p, .val (.str (dirS p) u), kput ks' (dirS p) u, T.step (dirS p) f.size, .inr ⟨u, rfl⟩, rfl, rfl, ?_, htok'.key h1' hu (Nat.lt_of_lt_of_le hu' (Nat.le_trans htk8 (Nat.le_trans htk9 (Nat.le_trans htk10 htk11)))), ?_, hend, fun j hj => hch (j + 1) hj, ?_, ?_, ?_⟩
            · rw [kput_fst, hks']; rfl
            · exact Nat.le_trans h1' (Nat.le_trans hu (Nat.le_trans (Nat.le_of_lt hu') (Nat.le_trans htk8 (Nat.le_trans htk9 (Nat.le_trans htk10 htk11)))))
            · rw [← hT, chain, if_neg hq']; rfl
            · show (iput ..).length + n ≤ _; (first | lia | omega)
            · show (iput ..).length + n ≤ _; (first | lia | omega)
  case cd =>
    rintro l c tk tk' hc ⟨st, nm, sz, fo, ks, wi, rfl, rfl, hks, hwi, htok, hl1, hl2⟩ htk
    rw [List.length_map, List.take_length] at hks hwi hl1 hl2
    refine ExsT.lift (R0 := fun fl l c => ∃ xs ex, (xs.Perm (tabOf fs len).names ∧ xs.Pairwise (fun x y => pairLt (-(sumOf (tabOf fs len) x)) x (-(sumOf (tabOf fs len) y)) y = true)) ∧ fl = .ret (runRes (tabOf fs len) (withinOf fs) xs) ∧ c = ex ++ cells) ?_ ?e
    case e =>
      rintro fl l c tk htk ⟨xs, ex, hxs, rfl, rfl⟩
      exact ⟨ex, cells, rfl, rfl, ⟨xs, hxs.1, hxs.2, rfl⟩, rfl⟩
    have ec : cellsR a1 a2 a3 cells (tabOf fs len) ks ks wi = [] ++ (a3, .lst (keysD wi)) :: ((a2, .dict ks ((tabOf fs len).checks.map .int)) :: (a1, .dict ks ((tabOf fs len).sums.map .int)) :: cells) := rfl
    rw [List.length_map, List.take_length, ec]
    refine Exs.freeze (by walk_at "mine m") (by walk_at "mine p") ?_
    refine Exs.freezeD (pre := []) ?_
    refine Exs.freezeD (pre := [_]) ?_
    refine Exs.cons (Ex.assignComp (loc' := fun a => LR fd (some (.val (.ref a1))) (some (.val (.ref a2))) (some (.lst (keysD wi))) st nm sz fo (some (.val (.ref a))) none none) ([(".0", none), ("folder", none), ("sums", some (.val (.ref a1)))] : Loc) (fun l => ∃ fo, l = ([(".0", none), ("folder", fo), ("sums", some (.val (.ref a1)))] : Loc)) (hpF (sumOf (tabOf fs len))) (ItE.keys (a := a1) (by walk_at "mine n") (List.Mem.tail _ (List.Mem.head _))).z ?io ⟨_, rfl⟩ ?cap ?turn List.nodup_nil ?sz (fun a => by walk_at "mine p") (kNe hs (by decide)) (fun a => ?next) ?sw)
    case sw =>
      have h1 : env.kindOf "heap" = some .local := kOf hs (by decide)
      have h2 : (env.blockKind == .function) = true := by unfold Env.blockKind; rw [hs]; rfl
      show pure (env.blockKind == .function && env.kindOf "heap" == some .local && _ && _) = pure true
      rw [h1, h2]; rfl
    case cap =>
      rintro l ⟨fo, rfl⟩ p hp h
      rcases List.mem_cons.mp hp with rfl | hp
      · exact absurd h (by decide)
      rcases List.mem_cons.mp hp with rfl | hp
      · exact absurd h (by decide)
      rcases List.mem_cons.mp hp with rfl | hp
      · walk_at "mine m"
      · cases hp
    case io =>
      refine ⟨rfl, by decide, ?_, ?_, (by decide : ([".0", "folder", "sums"] : List Str).Nodup), ?_⟩
      · intro p hp e
        rcases List.mem_cons.mp hp with rfl | hp
        · cases e
        rcases List.mem_cons.mp hp with rfl | hp
        · cases e
        rcases List.mem_cons.mp hp with rfl | hp
        · exact ⟨kOf hs (by decide), _, by walk_at "mine m", by walk_at "mine m"⟩
        · cases hp
      · intro p hp
        rcases List.mem_cons.mp hp with rfl | hp
        · exact .inl ⟨by decide, rfl⟩
        rcases List.mem_cons.mp hp with rfl | hp
        · exact .inl ⟨by decide, rfl⟩
        rcases List.mem_cons.mp hp with rfl | hp
        · exact .inr (.inr ⟨rfl, by walk_at "mine m"⟩)
        · cases hp
      · intro p hp
        rcases List.mem_cons.mp hp with rfl | hp
        · exact ⟨rfl, rfl⟩
        rcases List.mem_cons.mp hp with rfl | hp
        · exact ⟨rfl, rfl⟩
        rcases List.mem_cons.mp hp with rfl | hp
        · exact ⟨rfl, rfl⟩
        · cases hp
    case turn =>
      rintro cenv c hc ck cn cg cb l d ⟨fo, rfl⟩ hd
      obtain ⟨⟨x, t⟩, hm, rfl⟩ := List.mem_map.mp hd
      have cm : (a1, C.fdict ks ((tabOf fs len).sums.map .int)) ∈ c := hc _ (List.Mem.tail _ (List.Mem.head _))
      have kf : cenv.kindOf "folder" = some .local := by unfold Env.kindOf; rw [cn]; rfl
      refine ⟨[(".0", none), ("folder", some (.val (.str x t))), ("sums", some (.val (.ref a1)))], true, As.name (by walk_at "mine p") (by rw [kf]; decide), ⟨_, rfl⟩, rfl, fun _ => ⟨_, rfl, Ev.tup (EvL.cons (Ev.uny (Ev.ditem (a := a1) (x := x) (d := .int ((iget (tabOf fs len).names (tabOf fs len).sums x).getD 0)) (by walk_at "mine n") (Ev.wk (t := t) (by walk_at "mine n")) (.inr cm) ?dg) Uny.neg) (EvL.cons (by walk_at "mine n") EvL.nil)) (by show 2 ≤ sizeLine; rw [sizeLine_eq]; decide)⟩, fun h => by cases h⟩
      case dg =>
        obtain ⟨v, hv⟩ := iget_some (tabOf_wf fs len).1 (hks ▸ List.mem_map.mpr ⟨_, hm, rfl⟩ : x ∈ (tabOf fs len).names)
        rw [hks, dget_int, hv]; rfl
    case sz =>
      have e1 := congrArg List.length hks
      have e2 := (tabOf_wf fs len).1
      rw [List.length_map] at e1
      rw [keysD, List.length_map, sizeLine_eq]
      rw [List.length_map, List.take_length] at *
      (first | lia | omega)
    case next =>
    have hks' : (keysD ks).filterMap (hpF (sumOf (tabOf fs len))) = ks.map (hpOf (sumOf (tabOf fs len))) := hpF_map _ _
    rw [hks']
    have klen : ks.length = (tabOf fs len).names.length := by rw [← hks, List.length_map]
    refine Exs.cons (Ex.exprC (EvC.call (a := 63) (ds := [.val (.ref a)]) (by walk_at "mine g") (by first | rfl | kernel_rfl) (EvL.cons (by walk_at "mine n") EvL.nil)
      (Fn.mono (F.heapify (k := k + 4) (a := a) (pre := []) (ds := ks.map (hpOf (sumOf (tabOf fs len)))) ord_hp ord_hp (fun d hd => by obtain ⟨p, _, rfl⟩ := List.mem_map.mp hd; exact hpOf_is _ _) (by rw [List.length_map]; (first | lia | omega))) ?hf)) (by unfold interactive; rw [hs]; rfl))
    rintro d c' ⟨rfl, rfl⟩
    refine ⟨rfl, ?_⟩
    refine Exs.cons (Ex.assignC (EvC.newList (ds := []) EvL.nil (by decide) fun a4 => ⟨_, by walk_at "mine p", ?rows⟩) (kNe hs (by decide)))
    have B0 := Pops.start (S := sumOf (tabOf fs len)) (ks := ks)
    generalize hfy hpLt ((ks.map (hpOf (sumOf (tabOf fs len)))).length / 2) (ks.map (hpOf (sumOf (tabOf fs len)))) = hs0 at B0
    let CC := fun (outs : List (Str × Tok)) (hp : List D) => ((a4, .lst (outs.map fun p => rowR (tabOf fs len) (withinOf fs) p.1)) :: (a, .lst hp) :: (a2, .fdict ks ((tabOf fs len).checks.map .int)) :: (a1, .fdict ks ((tabOf fs len).sums.map .int)) :: cells : Cls)
    let LW := fun (sz fo rw : Option D) => LR fd (some (.val (.ref a1))) (some (.val (.ref a2))) (some (.lst (keysD wi))) st nm sz fo (some (.val (.ref a))) rw none
    have hs0len : hs0.length = ks.length := by have := B0.perm.length_eq; simpa using this
    refine Exs.cons (Ex.mono (R := fun f l c => f = .next ∧ ∃ outs sz fo, l = LW sz fo (some (.val (.ref a4))) ∧ c = CC outs [] ∧ Pops (sumOf (tabOf fs len)) ks outs []) (Ex.while (fun n l c => ∃ outs hp sz fo, n = hp.length ∧ l = LW sz fo (some (.val (.ref a4))) ∧ c = CC outs hp ∧ Pops (sumOf (tabOf fs len)) ks outs hp) hs0.length ⟨[], hs0, sz, fo, rfl, rfl, rfl, B0⟩ ?wturn) ?wafter)
    case wturn =>
      rintro n l c ⟨outs, hp, sz, fo, rfl, rfl, rfl, B⟩
      have hplen : hp.length ≤ 60 := by have := B.perm.length_eq; rw [List.length_append, List.length_map] at this; (first | lia | omega)
      refine ⟨_, Tr.list (ds := hp) (by walk_at "mine n") (.cell (List.Mem.tail _ (List.Mem.head _))) (by (first | lia | omega)), fun hne => ?_, fun hne => ?_⟩
      · obtain ⟨ds, last, rfl⟩ : ∃ ds last, hp = ds ++ [last] := by
          rcases List.eq_nil_or_concat hp with e | ⟨ds, last, e⟩
          · rw [e] at hne; cases hne
          · exact ⟨ds, last, by rw [e, List.concat_eq_append]⟩
        refine Exs.cons (Ex.assignTC (EvC.call (a := 49) (ds := [.val (.ref a)]) (by walk_at "mine g") (by first | rfl | kernel_rfl) (EvL.cons (by walk_at "mine n") EvL.nil)
          (Fn.mono (F.heappop (k := k + 4) (a := a) (ds := ds) (last := last) (pre := [_]) ord_hp ord_hp B.prs (by simp at hplen; (first | lia | omega))) ?pop)))
        intro x c hrc
        obtain ⟨hs', rfl, hx⟩ : ∃ hs', c = CC outs hs' ∧ PopIs hpLt last x ds hs' := by
          cases ds with
          | nil => exact ⟨_, hrc.2, hrc.1, rfl⟩
          | cons y rs => exact ⟨_, hrc.2, hrc.1, rfl⟩
        obtain ⟨q1, q2, q3⟩ := pop_ok swo_hp B.prs B.heap x hs' hx
        obtain ⟨fx, mx, B'⟩ := B.pop q1 q2 q3
        rcases hp' : hpT x with ⟨y, t⟩
        rw [hp'] at fx mx B'
        refine ⟨LW (some (.int (-(sumOf (tabOf fs len) y)))) (some (.val (.str y t))) (some (.val (.ref a4))), by rw [fx]; exact As.tup (AsL.cons (As.name (by walk_at "mine p") (kNe hs (by decide))) (AsL.cons (As.name (by walk_at "mine p") (kNe hs (by decide))) AsL.nil)), ?_⟩
        have ht := htok.k (y, t) mx
        have hy : y ∈ (tabOf fs len).names := hks ▸ List.mem_map.mpr ⟨_, mx, rfl⟩
        obtain ⟨v, hv⟩ := iget_some (tabOf_wf fs len).2 hy
        have hlen' := B'.perm.length_eq
        refine Exs.cons (Ex.exprC (EvC.meth (d := .val (.ref a4)) (ds := [rowR (tabOf fs len) (withinOf fs) y]) (by walk_at "mine n") (Recv.lst (List.Mem.head _)) (EvL.cons (Ev.tup (EvL.cons (Ev.wk (t := t) (by walk_at "mine n")) (EvL.cons (Ev.negneg (by walk_at "mine n")) (EvL.cons (Ev.ditem (a := a2) (x := y) (d := .int (ckOf (tabOf fs len) y)) (ks := ks) (ds := (tabOf fs len).checks.map .int) (by walk_at "mine n") (Ev.wk (t := t) (by walk_at "mine n")) (.inr (List.Mem.tail _ (List.Mem.tail _ (List.Mem.head _)))) (by rw [hks, dget_int, hv]; unfold ckOf; rw [hv]; rfl))
            (EvL.cons (Ev.ofC (EvC.call (a := 28) (ds := [.lst (keysD wi), .val (.str y t)]) (by walk_at "mine g") (by first | rfl | kernel_rfl) (EvL.cons (by walk_at "mine n") (EvL.cons (by walk_at "mine n") EvL.nil))
              (Fn.mono (F.countOf (k := k + 6) (xs := wi) (y := y) (u := t) (by have := ht.1; exact Nat.ne_of_gt this) (fun p hp => ⟨Nat.ne_of_gt (htok.w p hp).1, fun e => absurd e.symm (htok.ap _ mx p hp)⟩)) ?cnt))) EvL.nil)))) (by simp [sizeLine_eq])) EvL.nil)
          (M.append (a := a4) (pre := []) rfl (by rw [List.length_map, sizeLine_eq]; rw [List.length_append] at hlen'; simp at hlen'; (first | lia | omega)) ⟨rfl, ?nxt⟩) PySem.F.plainAttrs_list PySem.F.slot_list_append PySem.F.type_list_append) (by unfold interactive; rw [hs]; rfl))
        case cnt =>
          rintro d c ⟨rfl, rfl⟩
          refine ⟨?_, rfl⟩
          rw [← hwi, List.countP_map]; rfl
        case nxt =>
          refine Exs.nil ⟨hs'.length, ?_, outs ++ [(y, t)], hs', _, _, rfl, rfl, ?_, B'⟩
          · have := q1.length_eq; simp at this ⊢; (first | lia | omega)
          · simp [CC]
      · have : hp = [] := by cases hp with | nil => rfl | cons _ _ => cases hne
        subst this
        exact ⟨rfl, outs, sz, fo, rfl, rfl, B⟩
    case wafter =>
      rintro f l c ⟨rfl, outs, sz, fo, rfl, rfl, B⟩
      obtain ⟨hperm, hord⟩ := B.ends (by rw [hks]; exact hnd)
      rw [hks] at hperm
      have hrows : (outs.map fun p => rowR (tabOf fs len) (withinOf fs) p.1) = (outs.map (·.1)).map (rowR (tabOf fs len) (withinOf fs)) := by rw [List.map_map]; rfl
      show Exs w env (k + 7) (LW sz fo (some (.val (.ref a4)))) ((a4, .lst (outs.map fun p => rowR (tabOf fs len) (withinOf fs) p.1)) :: _) _ _
      rw [hrows]
      generalize hxs : outs.map (·.1) = xs at hperm hord
      clear hrows
      refine Exs.freeze (pre := []) (by walk_at "mine m") (by walk_at "mine p") ?_
      have xlen : xs.length = (tabOf fs len).names.length := hperm.length_eq
      have good : ∀ j, j < xs.length → ∃ s, PGood s ∧ xs.getD j Str.empty = pathS s := fun j hj => by
        have e : xs.getD j Str.empty = xs[j] := by simp [hj]
        rw [e]
        exact hgood _ (hperm.mem_iff.mp (List.getElem_mem hj))
      have step : ∀ s, PGood s → stepOf (pathS s) = s := fun s h => h.parts
      have rowAt : ∀ j, j < xs.length → (xs.map (rowR (tabOf fs len) (withinOf fs)))[j]? = some (rowR (tabOf fs len) (withinOf fs) (xs.getD j Str.empty)) := fun j hj => by simp [hj]
      have rlen : (xs.map (rowR (tabOf fs len) (withinOf fs))).length = xs.length := List.length_map _
      refine Exs.cons (Ex.assignComp (loc' := fun b => LR fd (some (.val (.ref a1))) (some (.val (.ref a2))) (some (.lst (keysD wi))) st nm sz fo (some (.val (.ref a))) (some (.lst (xs.map (rowR (tabOf fs len) (withinOf fs))))) (some (.val (.ref b)))) ([(".0", none), ("k", none), ("rows", some (.lst (xs.map (rowR (tabOf fs len) (withinOf fs)))))] : Loc) (fun l => ∃ q, l = ([(".0", none), ("k", q), ("rows", some (.lst (xs.map (rowR (tabOf fs len) (withinOf fs)))))] : Loc)) (commF xs)
        (ItE.range1 (n := ((xs.map (rowR (tabOf fs len) (withinOf fs))).length : Int) - 1) (by walk_at "mine b") (Ev.bin (a := .int (xs.map (rowR (tabOf fs len) (withinOf fs))).length) (b := .int 1) (Ev.len (d := .lst (xs.map (rowR (tabOf fs len) (withinOf fs)))) (by walk_at "mine b") (by walk_at "mine n") .fz (by (first | lia | omega))) Ev.int Bin.sub) (by (first | lia | omega))).z ?io2 ⟨_, rfl⟩ ?cap2 ?turn2 List.nodup_nil ?sz2 (fun a => ?put2) (kNe hs (by decide)) (fun a5 => ?next2) ?sw2)
      case sw2 =>
        have h1 : env.kindOf "common" = some .local := kOf hs (by decide)
        have h2 : (env.blockKind == .function) = true := by unfold Env.blockKind; rw [hs]; rfl
        show pure (env.blockKind == .function && env.kindOf "common" == some .local && _ && _) = pure true
        rw [h1, h2]; rfl
      case put2 => walk_at "mine p"
      case sz2 => rw [sizeLine_eq]; unfold rng; simp; (first | lia | omega)
      case cap2 =>
        rintro l ⟨q, rfl⟩
        exact allC (fun h => absurd h (by decide)) (allC (fun h => absurd h (by decide)) (allC (fun _ => by walk_at "mine m") allN))
      case io2 =>
        exact ⟨rfl, by decide, allC (fun e => by cases e) (allC (fun e => by cases e) (allC (fun e => by cases e) (allC (fun _ => ⟨kOf hs (by decide), _, by walk_at "mine m", by walk_at "mine m"⟩) allN))),
          allC (.inl ⟨by decide, rfl⟩) (allC (.inl ⟨by decide, rfl⟩) (allC (.inr (.inr ⟨rfl, by walk_at "mine m"⟩)) allN)), (by decide : ([".0", "k", "rows"] : List Str).Nodup), allC ⟨rfl, rfl⟩ (allC ⟨rfl, rfl⟩ (allC ⟨rfl, rfl⟩ allN))⟩
      case turn2 =>
        rintro cenv cc hcc ck cn cg cb l d ⟨q, rfl⟩ hd
        obtain ⟨j, hj, rfl⟩ := List.mem_map.mp hd
        rw [List.mem_range, rlen] at hj
        have kf : cenv.kindOf "k" = some .local := by unfold Env.kindOf; rw [cn]; rfl
        have kc : cenv.kindOf "commonpath" = some .globalImplicit := by unfold Env.kindOf; rw [cn]; rfl
        have ej : (0 : Int) + (j : Int) * 1 = (j : Int) := by (first | lia | omega)
        rw [ej]
        obtain ⟨s, hsg, hs1⟩ := good j (by (first | lia | omega))
        obtain ⟨t, htg, ht1⟩ := good (j + 1) (by (first | lia | omega))
        refine ⟨[(".0", none), ("k", some (.int (j : Int))), ("rows", some (.lst (xs.map (rowR (tabOf fs len) (withinOf fs)))))], true, As.name (by walk_at "mine p") (by rw [kf]; decide), ⟨_, rfl⟩, rfl, fun _ => ⟨.str (commS xs j), rfl, ?_⟩, fun h => by cases h⟩
        have ec2 : commS xs j = pathS (commL s t) := by unfold commS; rw [hs1, ht1, step s hsg, step t htg]
        rw [ec2]
        have cj : ((j : Int) + 1) = ((j + 1 : Nat) : Int) := by (first | lia | omega)
        refine Ev.ofC (EvC.call (a := 189) (ds := [.lst [.str (pathS s), .str (pathS t)]]) (Ev.glob kc (by decide) (by first | rfl | kernel_rfl)) (by first | rfl | kernel_rfl)
          (EvL.cons (Ev.lst (EvL.cons (Ev.itemT (n := 0) (ds := [.str (pathS s), _, _, _]) (Ev.item (n := (j : Int)) (d := .lst (xs.map (rowR (tabOf fs len) (withinOf fs)))) (ds := xs.map (rowR (tabOf fs len) (withinOf fs))) (by walk_at "mine n") (by walk_at "mine n") .fz (by (first | lia | omega)) (by (first | lia | omega)) (by rw [Int.toNat_natCast, rowAt j (by (first | lia | omega)), hs1]; rfl)) Ev.int (by (first | lia | omega)) (by (first | lia | omega)) rfl)
            (EvL.cons (Ev.itemT (n := 0) (ds := [.str (pathS t), _, _, _]) (Ev.item (n := ((j + 1 : Nat) : Int)) (d := .lst (xs.map (rowR (tabOf fs len) (withinOf fs)))) (ds := xs.map (rowR (tabOf fs len) (withinOf fs))) (by walk_at "mine n") (by rw [← cj]; exact Ev.bin (a := .int (j : Int)) (b := .int 1) (by walk_at "mine n") Ev.int Bin.add) .fz (by (first | lia | omega)) (by (first | lia | omega)) (by rw [Int.toNat_natCast, rowAt (j + 1) (by (first | lia | omega)), ht1]; rfl)) Ev.int (by (first | lia | omega)) (by (first | lia | omega)) rfl) EvL.nil)) (by simp [sizeLine_eq])) EvL.nil) (F.commonpath (k := k + 1) hsg htg))
      case next2 =>
      rw [commF_map]
      refine Exs.freeze (pre := []) (by walk_at "mine m") (by walk_at "mine p") ?_
      have en : (((xs.map (rowR (tabOf fs len) (withinOf fs))).length : Int) - 1).toNat = xs.length - 1 := by (first | lia | omega)
      rw [en]
      refine Exs.cons (Ex.ret (d := runRes (tabOf fs len) (withinOf fs) xs) (Ev.tup (EvL.cons (by walk_at "mine n") (EvL.cons (by walk_at "mine n") (EvL.cons (Ev.ofC (EvC.call (a := 83) (ds := [.int 3, .lst ((xs.map (ckOf (tabOf fs len))).map .int)]) (by walk_at "mine g") (by first | rfl | kernel_rfl)
        (EvL.cons Ev.int (EvL.cons (Ev.freeze (EvC.comp ([(".0", none), ("row", none), ("checks", some (.val (.ref a2)))] : Loc) (fun l => ∃ q, l = ([(".0", none), ("row", q), ("checks", some (.val (.ref a2)))] : Loc)) (ckF (tabOf fs len)) (ItE.list (ds := xs.map (rowR (tabOf fs len) (withinOf fs))) (by walk_at "mine n")) ?io3 ⟨_, rfl⟩ ?cap3 ?turn3 ?sz3 (fun a => ⟨a, rfl, by rw [ckF_map]⟩))) EvL.nil))
        (F.nlargest3 (k := k + 1) (ns := xs.map (ckOf (tabOf fs len))) (by rw [List.length_map]; (first | lia | omega)) (by rw [List.length_map]; (first | lia | omega))))) EvL.nil))) (by simp [sizeLine_eq])) ⟨xs, [_, _, _], ⟨hperm, hord⟩, rfl, rfl⟩)
      case sz3 => rw [List.length_map, sizeLine_eq]; (first | lia | omega)
      case cap3 =>
        rintro l ⟨q, rfl⟩
        exact allC (fun h => absurd h (by decide)) (allC (fun h => absurd h (by decide)) (allC (fun _ => by walk_at "mine m") allN))
      case io3 =>
        exact ⟨rfl, by decide, allC (fun e => by cases e) (allC (fun e => by cases e) (allC (fun _ => ⟨kOf hs (by decide), _, by walk_at "mine m", by walk_at "mine m"⟩) allN)),
          allC (.inl ⟨by decide, rfl⟩) (allC (.inl ⟨by decide, rfl⟩) (allC (.inr (.inr ⟨rfl, by walk_at "mine m"⟩)) allN)), (by decide : ([".0", "row", "checks"] : List Str).Nodup), allC ⟨rfl, rfl⟩ (allC ⟨rfl, rfl⟩ (allC ⟨rfl, rfl⟩ allN))⟩
      case turn3 =>
        rintro cenv cc hcc ck cn cg cb l d ⟨q, rfl⟩ hd
        obtain ⟨x, hx, rfl⟩ := List.mem_map.mp hd
        have kf : cenv.kindOf "row" = some .local := by unfold Env.kindOf; rw [cn]; rfl
        have hy : x ∈ (tabOf fs len).names := hperm.mem_iff.mp hx
        obtain ⟨v, hv⟩ := iget_some (tabOf_wf fs len).2 hy
        have er : rowR (tabOf fs len) (withinOf fs) x = .tup [.str x, .int (sumOf (tabOf fs len) x), .int (ckOf (tabOf fs len) x), .int (((withinOf fs).countP (· == x) : Nat) : Int)] := rfl
        rw [er]
        refine ⟨[(".0", none), ("row", some (.tup [.str x, .int (sumOf (tabOf fs len) x), .int (ckOf (tabOf fs len) x), .int (((withinOf fs).countP (· == x) : Nat) : Int)])), ("checks", some (.val (.ref a2)))], true, As.name (by walk_at "mine p") (by rw [kf]; decide), ⟨_, rfl⟩, rfl, fun _ => ⟨.int (ckOf (tabOf fs len) x), rfl, ?_⟩, fun h => by cases h⟩
        exact Ev.ditem (a := a2) (x := x) (ks := ks) (ds := (tabOf fs len).checks.map .int) (by walk_at "mine n") (Ev.itemT (n := 0) (ds := [.str x, _, _, _]) (by walk_at "mine n") Ev.int (by (first | lia | omega)) (by (first | lia | omega)) rfl) (.inr (hcc _ (List.Mem.tail _ (List.Mem.head _)))) (by rw [hks, dget_int, hv]; unfold ckOf; rw [hv]; rfl)
end
end
/-! W15 -/
section
set_option maxHeartbeats 2000000
noncomputable def menu : List Str := ["a", "ab", "b"]
noncomputable def pick (x : Int) (j : Nat) : Str := menu.getD ((x.fdiv (3 ^ (j + 1))).fmod 3).toNat Str.empty
noncomputable def stepsOf (x : Int) : List Str := (List.range (1 + x.fmod 3).toNat).map (pick x)
noncomputable def nameOf (i : Nat) : Str := ("f" : Str) ++ ((toString (i : Int) : String) : Str)
noncomputable def sizeOf (x : Int) : Int := (x.fdiv 81).fmod 1000
noncomputable def fileOf (p : Int × Nat) : FileD := ⟨stepsOf p.1, nameOf p.2, sizeOf p.1⟩
noncomputable def nums (ns : List Int) : List Int := ns.take 7 ++ [406, 5, 410, 331, 1]
noncomputable def filesOf (ns : List Int) : List FileD := (nums ns).zipIdx.map fileOf
theorem nums_len (ns : List Int) : (nums ns).length ≤ 12 := by unfold nums; simp; (first | lia | omega)
section
variable {w : World} {k : Nat} {cells : Cls}
noncomputable abbrev LF (sc fi pl x st : Option D) : Loc := [("script", sc), ("files", fi), ("place", pl), ("x", x), ("steps", st)]
theorem fmod3 (x : Int) : 0 ≤ x.fmod 3 ∧ x.fmod 3 < 3 := ⟨Int.fmod_nonneg_of_pos x (by decide), Int.fmod_lt_of_pos x (by decide)⟩
noncomputable def pickF (x : Int) : D → Option D
  | .int j => some (.str (pick x j.toNat))
  | _ => none
theorem pickF_map (x : Int) (n : Nat) : (rng 0 1 n).filterMap (pickF x) = ((List.range n).map (pick x)).map D.str := by
  unfold rng
  rw [List.filterMap_map, List.map_map]
  induction (List.range n) with
  | nil => rfl
  | cons j l ih => rw [List.filterMap_cons, List.map_cons, ← ih]; simp [pickF]
theorem nameOf_len : ∀ i, i < 12 → (nameOf i).length ≤ 10 := by decide +kernel
set_option maxHeartbeats 8000000 in
theorem F.law_files {ns : List Int} (hns : ns.length ≤ 1000) : Fn w (k + 2) (.ref 194) [.lst (ns.map .int)] cells (fun r c => r = .lst ((filesOf ns).map FileD.d) ∧ c = cells) := by
  refine Fn.def (ds := [.lst (ns.map .int)]) ["script", "files", "place", "x", "steps"] ["script"] (f := 194) (by exact rfl) (by with_unfolding_all rfl) (binds_plain rfl (binds1 fun u => by with_unfolding_all rfl)) (by decide) (by decide) (by decide) ?h
  intro env hs hg hb
  refine Exs.cons (Ex.assignC (EvC.newList (ds := []) EvL.nil (by decide) fun a => ⟨_, by walk_at "mine p", ?files⟩) (kNe hs (by decide)))
  have numsD : (nums ns).map D.int = (ns.map D.int).take 7 ++ [.int 406, .int 5, .int 410, .int 331, .int 1] := by unfold nums; rw [List.map_append, List.map_take]; rfl
  have nl := nums_len ns
  refine Exs.cons (Ex.for (fun i l c => c = (a, .lst (((filesOf ns).take i).map FileD.d)) :: cells ∧ ∃ pl x st, l = LF (some (.lst (ns.map .int))) (some (.val (.ref a))) pl x st)
    (ItE.enum (ds := (nums ns).map .int) (by walk_at "mine b") (by rw [numsD]; exact Ev.bin (a := .lst ((ns.map D.int).take 7)) (b := .lst [.int 406, .int 5, .int 410, .int 331, .int 1]) (Ev.upto 7 (ds := ns.map .int) (by walk_at "mine n") .fz Ev.int (by rw [List.length_map, sizeLine_eq]; (first | lia | omega))) (Ev.lst (EvL.cons Ev.int (EvL.cons Ev.int (EvL.cons Ev.int (EvL.cons Ev.int (EvL.cons Ev.int EvL.nil))))) (by simp [sizeLine_eq])) (Bin.catL (by rw [List.length_take, List.length_map, sizeLine_eq]; simp; (first | lia | omega))))) ⟨rfl, none, none, none, rfl⟩ ?lturn ?ldone)
  case lturn =>
    rintro i d l c hd ⟨rfl, pl, xo, st, rfl⟩ hc
    obtain ⟨x, hx, rfl⟩ : ∃ x, (nums ns)[i]? = some x ∧ d = .tup [.int (i : Int), .int x] := by
      rw [List.getElem?_map] at hd
      obtain ⟨⟨d0, j⟩, h1, rfl⟩ := Option.map_eq_some_iff.mp hd
      rw [List.getElem?_zipIdx] at h1
      obtain ⟨d1, h2, h3⟩ := Option.map_eq_some_iff.mp h1
      rw [List.getElem?_map] at h2
      obtain ⟨z, h4, rfl⟩ := Option.map_eq_some_iff.mp h2
      cases h3
      exact ⟨z, h4, by simp⟩
    have hi : i < (nums ns).length := (List.getElem?_eq_some_iff.mp hx).1
    have hf : (filesOf ns)[i]? = some (fileOf (x, i)) := by unfold filesOf; rw [List.getElem?_map, List.getElem?_zipIdx, hx]; simp
    have htk : (filesOf ns).take (i + 1) = (filesOf ns).take i ++ [fileOf (x, i)] := by rw [List.take_add_one, hf]; rfl
    have hfl : ((filesOf ns).take i).length ≤ 12 := by rw [List.length_take]; unfold filesOf; rw [List.length_map, List.length_zipIdx]; (first | lia | omega)
    obtain ⟨m0, m3⟩ := fmod3 x
    refine ⟨_, As.tup (AsL.cons (As.name (by walk_at "mine p") (kNe hs (by decide))) (AsL.cons (As.name (by walk_at "mine p") (kNe hs (by decide))) AsL.nil)), ?_⟩
    refine Exs.cons (Ex.assignComp (loc' := fun b => LF (some (.lst (ns.map .int))) (some (.val (.ref a))) (some (.int (i : Int))) (some (.int x)) (some (.val (.ref b)))) ([(".0", none), ("k", none), ("x", some (.int x))] : Loc) (fun l => ∃ q, l = ([(".0", none), ("k", q), ("x", some (.int x))] : Loc)) (pickF x)
      (ItE.range1 (n := 1 + x.fmod 3) (by walk_at "mine b") (Ev.bin (a := .int 1) (b := .int (x.fmod 3)) Ev.int (Ev.bin (a := .int x) (b := .int 3) (by walk_at "mine n") Ev.int (Bin.mod (by decide))) Bin.add) (by (first | lia | omega))).z ?io ⟨_, rfl⟩ ?cap ?turn List.nodup_nil ?sz (fun b => by walk_at "mine p") (kNe hs (by decide)) (fun b => ?next) ?sw)
    case sw =>
      have h1 : env.kindOf "steps" = some .local := kOf hs (by decide)
      have h2 : (env.blockKind == .function) = true := by unfold Env.blockKind; rw [hs]; rfl
      show pure (env.blockKind == .function && env.kindOf "steps" == some .local && _ && _) = pure true
      rw [h1, h2]; rfl
    case sz => rw [sizeLine_eq]; unfold rng; simp; (first | lia | omega)
    case cap =>
      rintro l ⟨q, rfl⟩
      exact allC (fun h => absurd h (by decide)) (allC (fun h => absurd h (by decide)) (allC (fun _ => by walk_at "mine m") allN))
    case io =>
      exact ⟨rfl, by decide, allC (fun e => by cases e) (allC (fun e => by cases e) (allC (fun _ => ⟨kOf hs (by decide), _, by walk_at "mine m", by walk_at "mine m"⟩) allN)),
        allC (.inl ⟨by decide, rfl⟩) (allC (.inl ⟨by decide, rfl⟩) (allC (.inr (.inr ⟨rfl, by walk_at "mine m"⟩)) allN)), (by decide : ([".0", "k", "x"] : List Str).Nodup), allC ⟨rfl, rfl⟩ (allC ⟨rfl, rfl⟩ (allC ⟨rfl, rfl⟩ allN))⟩
    case turn =>
      rintro cenv cc hcc ck cn cg cb l d ⟨q, rfl⟩ hd
      obtain ⟨j, hj, rfl⟩ := List.mem_map.mp hd
      rw [List.mem_range] at hj
      have hj3 : j < 3 := by (first | lia | omega)
      have kf : cenv.kindOf "k" = some .local := by unfold Env.kindOf; rw [cn]; rfl
      have ej : (0 : Int) + (j : Int) * 1 = (j : Int) := by (first | lia | omega)
      rw [ej]
      have cj : ((j : Int) + 1).toNat = j + 1 := by (first | lia | omega)
      have p3 : ((3 : Int) ^ (j + 1)) ≠ 0 ∧ ((3 : Int) ^ (j + 1)).natAbs < 1073741824 := by
        rcases (by (first | lia | omega) : j = 0 ∨ j = 1 ∨ j = 2) with rfl | rfl | rfl <;> decide
      obtain ⟨q0, q3⟩ := fmod3 (x.fdiv (3 ^ (j + 1)))
      refine ⟨[(".0", none), ("k", some (.int (j : Int))), ("x", some (.int x))], true, As.name (by walk_at "mine p") (by rw [kf]; decide), ⟨_, rfl⟩, rfl, fun _ => ⟨.str (pick x j), rfl, ?_⟩, fun h => by cases h⟩
      refine Ev.item (n := (x.fdiv (3 ^ (j + 1))).fmod 3) (d := .lst [.str "a", .str "ab", .str "b"]) (ds := [.str "a", .str "ab", .str "b"]) (Ev.lst (EvL.cons Ev.str (EvL.cons Ev.str (EvL.cons Ev.str EvL.nil))) (by simp [sizeLine_eq]))
        (Ev.bin (a := .int (x.fdiv (3 ^ (j + 1)))) (b := .int 3) (Ev.bin (a := .int x) (b := .int (3 ^ (j + 1))) (by walk_at "mine n") (by rw [← cj]; exact Ev.bin (a := .int 3) (b := .int ((j : Int) + 1)) Ev.int (Ev.bin (a := .int (j : Int)) (b := .int 1) (by walk_at "mine n") Ev.int Bin.add) (Bin.pow (by (first | lia | omega)) (by (first | lia | omega)) (by decide))) (Bin.div p3.1 p3.2)) Ev.int (Bin.mod (by decide))) .fz q0 (by (first | lia | omega)) ?_
      unfold pick
      generalize (x.fdiv (3 ^ (j + 1))).fmod 3 = z at q0 q3
      rcases (by (first | lia | omega) : z = 0 ∨ z = 1 ∨ z = 2) with rfl | rfl | rfl <;> rfl
    case next =>
    rw [pickF_map]
    refine Exs.freeze (pre := []) (by walk_at "mine m") (by walk_at "mine p") ?_
    have hnl := nameOf_len i (by (first | lia | omega))
    refine Exs.cons (Ex.exprC (EvC.meth (d := .val (.ref a)) (ds := [(fileOf (x, i)).d]) (by walk_at "mine n") (Recv.lst (List.Mem.head _)) (EvL.cons (Ev.tup (EvL.cons (by walk_at "mine n") (EvL.cons (Ev.bin (a := .str "f") (b := .str (toString (i : Int))) Ev.str
        (Ev.ofC (EvC.callB (ds := [.int (i : Int)]) (b := .type "str") trivial (by walk_at "mine b") (EvL.cons (by walk_at "mine n") EvL.nil) (BFn.fn (B.str_int ?lg) ⟨rfl, rfl⟩))) (Bin.cat ?nsz)) (EvL.cons (Ev.bin (a := .int (x.fdiv 81)) (b := .int 1000) (Ev.bin (a := .int x) (b := .int 81) (by walk_at "mine n") Ev.int (Bin.div (by decide) (by decide))) Ev.int (Bin.mod (by decide))) EvL.nil))) (by simp [sizeLine_eq])) EvL.nil)
      (M.append (a := a) (pre := []) rfl (by rw [List.length_map, sizeLine_eq]; (first | lia | omega)) ⟨rfl, ?nxt⟩) PySem.F.plainAttrs_list PySem.F.slot_list_append PySem.F.type_list_append) (by unfold interactive; rw [hs]; rfl))
    case lg =>
      have : ∀ i : Nat, i < 12 → (i : Int).natAbs.log2 < 1920 := by decide +kernel
      exact this i (by (first | lia | omega))
    case nsz =>
      have e : (("f" : Str) ++ ((toString (i : Int) : String) : Str)).length = ("f" : Str).length + ((toString (i : Int) : String) : Str).length := by
        show (_ ++ _ : Array _).size = _
        rw [Array.size_append]; rfl
      unfold nameOf at hnl
      rw [← e, sizeLine_eq]; (first | lia | omega)
    case nxt =>
      refine Exs.nil ⟨rfl, ?_, _, _, _, rfl⟩
      rw [htk, List.map_append]; rfl
  case ldone =>
    rintro l c hc ⟨rfl, pl, x, st, rfl⟩
    have hl : (((nums ns).map D.int).zipIdx.map fun p => D.tup [.int (p.2 : Int), p.1]).length = (filesOf ns).length := by unfold filesOf; simp
    rw [hl, List.take_length]
    refine Exs.freeze (pre := []) (by walk_at "mine m") (by walk_at "mine p") ?_
    refine Exs.cons (Ex.ret (d := .lst ((filesOf ns).map FileD.d)) (by walk_at "mine n") ?_)
    exact ⟨[], cells, rfl, rfl, rfl, rfl⟩
end
end
/-! W16 -/
section
set_option maxHeartbeats 2000000
/-! what told tells, in plain lists -/
noncomputable def newOf (acc : List (List Str)) (st : List Str) : List (List Str) := ((List.range st.length).map fun j => st.take (j + 1)).filter fun s => !acc.contains s
noncomputable def foldersOf (fs : List FileD) : List (List Str) := fs.foldl (fun acc f => acc ++ newOf acc f.steps) [[]]
noncomputable def sizesOf (fs : List FileD) (fo : List Str) : List Int := (fs.filter fun f => f.steps.take fo.length == fo).map (·.size)
noncomputable def sumT (fs : List FileD) (fo : List Str) : Int := (sizesOf fs fo).sum
noncomputable def bitT (zs : List Int) (j : Nat) : Int := 2 ^ j * ((zs.map fun (z : Int) => (z.fdiv (2 ^ j)).fmod 2).sum.fmod 2)
noncomputable def checkT (fs : List FileD) (fo : List Str) : Int := ((List.range 10).map (bitT (sizesOf fs fo))).sum
noncomputable def countT (fs : List FileD) (fo : List Str) : Int := ((fs.filter fun f => f.steps == fo).length : Nat)
noncomputable def foundD (fs : List FileD) (fo : List Str) : D := .tup [.int (-(sumT fs fo)), .str (pathS fo), .int (checkT fs fo), .int (countT fs fo), sL fo]
noncomputable def rowT (fs : List FileD) (fo : List Str) : D := .tup [.str (pathS fo), .int (sumT fs fo), .int (checkT fs fo), .int (countT fs fo)]
noncomputable def commT (fos : List (List Str)) (j : Nat) : Str := pathS (commL (fos.getD j []) (fos.getD (j + 1) []))
noncomputable def toldRes (fs : List FileD) (fos : List (List Str)) : D := .tup [.lst (fos.map (rowT fs)), .lst ((List.range (fos.length - 1)).map fun j => .str (commT fos j)), .lst ((top3 (fos.map (checkT fs))).map .int)]
noncomputable def unS : D → Str
  | .str x => x
  | _ => Str.empty
theorem unS_map (ss : List Str) : (ss.map D.str).map unS = ss := by rw [List.map_map]; exact List.map_id ss
noncomputable def newF (acc : List (List Str)) (st : List Str) : D → Option D
  | .int j => if !acc.contains (st.take (j.toNat + 1)) then some (sL (st.take (j.toNat + 1))) else none
  | _ => none
theorem newF_map (acc : List (List Str)) (st : List Str) : (rng 0 1 st.length).filterMap (newF acc st) = (newOf acc st).map sL := by
  unfold rng newOf
  rw [List.filterMap_map]
  induction (List.range st.length) with
  | nil => rfl
  | cons j l ih =>
    rw [List.filterMap_cons, List.map_cons, List.filter_cons]
    have e : ((newF acc st) ∘ fun (i : Nat) => D.int (0 + (i : Int) * 1)) j = if !acc.contains (st.take (j + 1)) then some (sL (st.take (j + 1))) else none := by simp [newF]
    rw [e]
    cases acc.contains (st.take (j + 1)) with
    | true => simpa using ih
    | false => simpa using ih
noncomputable def sizeF (fo : List Str) : D → Option D
  | .tup [.lst ds, _, .int z] => if (ds.map unS).take fo.length == fo then some (.int z) else none
  | _ => none
theorem sizeF_at (fo : List Str) (f : FileD) : sizeF fo f.d = if f.steps.take fo.length == fo then some (.int f.size) else none := by
  show (if ((f.steps.map D.str).map unS).take fo.length == fo then some (D.int f.size) else none) = _
  rw [unS_map]
theorem sizeF_map (fs : List FileD) (fo : List Str) : (fs.map FileD.d).filterMap (sizeF fo) = (sizesOf fs fo).map D.int := by
  unfold sizesOf
  induction fs with
  | nil => rfl
  | cons f fs ih =>
    rw [List.map_cons, List.filterMap_cons, List.filter_cons, sizeF_at]
    cases f.steps.take fo.length == fo with
    | true => simpa using ih
    | false => simpa using ih
noncomputable def sameF (fo : List Str) : D → Option D
  | .tup [.lst ds, _, _] => if ds.map unS == fo then some (.lst ds) else none
  | _ => none
theorem sameF_at (fo : List Str) (f : FileD) : sameF fo f.d = if f.steps == fo then some (sL f.steps) else none := by
  show (if (f.steps.map D.str).map unS == fo then some (D.lst (f.steps.map D.str)) else none) = _
  rw [unS_map]
theorem sameF_map (fs : List FileD) (fo : List Str) : ((fs.map FileD.d).filterMap (sameF fo)) = (fs.filter fun f => f.steps == fo).map fun f => sL f.steps := by
  induction fs with
  | nil => rfl
  | cons f fs ih =>
    rw [List.map_cons, List.filterMap_cons, List.filter_cons, sameF_at]
    cases f.steps == fo with
    | true => simpa using ih
    | false => simpa using ih
noncomputable def bitF (zs : List Int) : D → Option D
  | .int j => some (.int (bitT zs j.toNat))
  | _ => none
theorem bitF_map (zs : List Int) (n : Nat) : (rng 0 1 n).filterMap (bitF zs) = ((List.range n).map (bitT zs)).map D.int := by
  unfold rng
  rw [List.filterMap_map, List.map_map]
  induction (List.range n) with
  | nil => rfl
  | cons j l ih => rw [List.filterMap_cons, List.map_cons, ← ih]; simp [bitF]
noncomputable def oddF (j : Nat) : D → Option D
  | .int z => some (.int ((z.fdiv (2 ^ j)).fmod 2))
  | _ => none
theorem oddF_map (zs : List Int) (j : Nat) : (zs.map D.int).filterMap (oddF j) = (zs.map fun (z : Int) => (z.fdiv (2 ^ j)).fmod 2).map D.int := by
  induction zs with
  | nil => rfl
  | cons z zs ih => rw [List.map_cons, List.filterMap_cons, List.map_cons, List.map_cons, ← ih]; rfl
noncomputable def tellF : D → Option D
  | .tup [.int a, p, c, n, _] => some (.tup [p, .int (-a), c, n])
  | _ => none
theorem tellF_map (fs : List FileD) (fos : List (List Str)) : (fos.map (foundD fs)).filterMap tellF = fos.map (rowT fs) := by
  induction fos with
  | nil => rfl
  | cons f fos ih =>
    rw [List.map_cons, List.filterMap_cons, List.map_cons, ← ih]
    show D.tup [.str (pathS f), .int (-(-(sumT fs f))), .int (checkT fs f), .int (countT fs f)] :: _ = _
    rw [Int.neg_neg]; rfl
noncomputable def alikeF (s t : List Str) : D → Option D
  | .int j => if s.take j.toNat == t.take j.toNat then some (.int j) else none
  | _ => none
noncomputable def alikeL (s t : List Str) (n : Nat) : List Int := ((List.range n).filter fun j => s.take j == t.take j).map fun (j : Nat) => (j : Int)
theorem alikeF_map (s t : List Str) (n : Nat) : (rng 0 1 n).filterMap (alikeF s t) = (alikeL s t n).map D.int := by
  unfold rng alikeL
  rw [List.filterMap_map, List.map_map]
  induction (List.range n) with
  | nil => rfl
  | cons j l ih =>
    rw [List.filterMap_cons, List.filter_cons]
    have e : ((alikeF s t) ∘ fun (i : Nat) => D.int (0 + (i : Int) * 1)) j = if s.take j == t.take j then some (D.int (j : Int)) else none := by simp [alikeF]
    rw [e]
    cases s.take j == t.take j with
    | true => simpa using ih
    | false => simpa using ih
theorem commL_le : ∀ s t : List Str, (commL s t).length ≤ s.length ∧ (commL s t).length ≤ t.length
  | [], t => ⟨by cases t <;> simp [commL], by cases t <;> simp [commL]⟩
  | a :: as, [] => ⟨by simp [commL], by simp [commL]⟩
  | a :: as, b :: bs => by
    unfold commL
    obtain ⟨h1, h2⟩ := commL_le as bs
    split
    · exact ⟨Nat.succ_le_succ h1, Nat.succ_le_succ h2⟩
    · exact ⟨Nat.zero_le _, Nat.zero_le _⟩
theorem commL_is : ∀ s t : List Str, s.take (commL s t).length = commL s t ∧ t.take (commL s t).length = commL s t
  | [], t => ⟨by cases t <;> rfl, by cases t <;> rfl⟩
  | a :: as, [] => ⟨rfl, rfl⟩
  | a :: as, b :: bs => by
    unfold commL
    obtain ⟨h1, h2⟩ := commL_is as bs
    split
    · rename_i e
      subst e
      exact ⟨by rw [List.length_cons, List.take_succ_cons, h1], by rw [List.length_cons, List.take_succ_cons, h2]⟩
    · exact ⟨rfl, rfl⟩
theorem commL_max : ∀ (s t : List Str) (j : Nat), j ≤ s.length → j ≤ t.length → s.take j = t.take j → j ≤ (commL s t).length
  | _, _, 0, _, _, _ => Nat.zero_le _
  | a :: as, b :: bs, j + 1, h1, h2, h => by
    rw [List.take_succ_cons, List.take_succ_cons] at h
    injection h with e1 e2
    unfold commL
    rw [if_pos e1, List.length_cons]
    exact Nat.succ_le_succ (commL_max as bs j (by simpa using h1) (by simpa using h2) e2)
theorem alike_max (s t : List Str) (n : Nat) (hn : n = (if t.length < s.length then t.length else s.length) + 1) : 0 < (alikeL s t n).length ∧ ((commL s t).length : Int) ∈ alikeL s t n ∧ ∀ x ∈ alikeL s t n, x ≤ ((commL s t).length : Int) := by
  have hm : ((commL s t).length : Int) ∈ alikeL s t n := by
    obtain ⟨h1, h2⟩ := commL_le s t
    obtain ⟨h3, h4⟩ := commL_is s t
    refine List.mem_map.mpr ⟨(commL s t).length, List.mem_filter.mpr ⟨List.mem_range.mpr ?_, ?_⟩, rfl⟩
    · rw [hn]; split <;> (first | lia | omega)
    · rw [h3, h4]; simp
  refine ⟨List.length_pos_of_mem hm, hm, fun x hx => ?_⟩
  obtain ⟨j, hj, rfl⟩ := List.mem_map.mp hx
  obtain ⟨h1, h2⟩ := List.mem_filter.mp hj
  have h1 := List.mem_range.mp h1
  have : j ≤ (commL s t).length := commL_max s t j (by rw [hn] at h1; split at h1 <;> (first | lia | omega)) (by rw [hn] at h1; split at h1 <;> (first | lia | omega)) (by simpa using h2)
  (first | lia | omega)
noncomputable def thirdF : D → Option D
  | .tup [_, _, c, _] => some c
  | _ => none
theorem thirdF_map (fs : List FileD) (fos : List (List Str)) : (fos.map (rowT fs)).filterMap thirdF = (fos.map (checkT fs)).map D.int := by
  induction fos with
  | nil => rfl
  | cons f fos ih => rw [List.map_cons, List.filterMap_cons, List.map_cons, List.map_cons, ← ih]; rfl
noncomputable def ascS (ns : List Int) : List Int := ns.mergeSort (fun a b => decide (a ≤ b))
theorem ascS_ok (ns : List Int) : (ascS ns).Perm ns ∧ (ascS ns).Pairwise (· ≤ ·) ∧ (ascS ns).reverse.take 3 = top3 ns := by
  have h1 : (ascS ns).Perm ns := List.mergeSort_perm _ _
  have h2 : (ascS ns).Pairwise (· ≤ ·) := by
    refine (List.pairwise_mergeSort (le := fun a b => decide (a ≤ b)) (fun a b c x y => ?_) (fun a b => ?_) ns).imp fun {a b} h => by simpa using h
    · simp only [decide_eq_true_eq] at *; (first | lia | omega)
    · simp only [Bool.or_eq_true, decide_eq_true_eq]; (first | lia | omega)
  obtain ⟨t1, t2⟩ := desc_sort ns
  refine ⟨h1, h2, ?_⟩
  unfold top3
  rw [desc_uniq (((List.reverse_perm _).trans h1).trans t2.symm) (List.pairwise_reverse.mpr h2) t1]
section
variable {w : World} {k : Nat} {cells : Cls}
theorem Ev.uptoS {env : Env} {loc : Loc} {e u : Expr} {p pos : Pos} {ss : List Str} (n : Nat) (he : Ev w env k loc cells e (sL ss)) (h2 : Ev w env k loc cells u (.int (n : Int))) (hsz : ss.length ≤ 1000) :
    Ev w env k loc cells (.Subscript e (.Slice Option.none (some u) Option.none p) pos) (sL (ss.take n)) := by
  unfold sL
  rw [List.map_take]
  exact Ev.upto n he .fz h2 (by rw [List.length_map, sizeLine_eq]; (first | lia | omega))
theorem Ev.succ {env : Env} {loc : Loc} {e : Expr} {kd : Nat} {p pos : Pos} {j : Nat} (he : Ev w env k loc cells e (.int (j : Int))) : Ev w env k loc cells (.BinOp e .Add (.Constant (.int 1) kd p) pos) (.int ((j + 1 : Nat) : Int)) := by
  have cj : ((j : Int) + 1) = ((j + 1 : Nat) : Int) := by (first | lia | omega)
  rw [← cj]
  exact Ev.bin (a := .int (j : Int)) (b := .int 1) he Ev.int Bin.add
theorem Ev.pow2 {env : Env} {loc : Loc} {u : Expr} {kd : Nat} {p pos : Pos} {j : Nat} (he : Ev w env k loc cells u (.int (j : Int))) (hj : j < 1000) : Ev w env k loc cells (.BinOp (.Constant (.int 2) kd p) .Pow u pos) (.int (2 ^ j)) := by
  have := Ev.bin (pos := pos) (op := .Pow) (a := .int 2) (b := .int (j : Int)) (Ev.int (kd := kd) (pos := p)) he (Bin.pow (by (first | lia | omega)) (by (first | lia | omega)) (by decide))
  rw [Int.toNat_natCast] at this
  exact this
theorem two_pow : ∀ j : Nat, j < 10 → Builtin.Int.intBits ((2 : Int) ^ j) ≤ 64 ∧ ((2 : Int) ^ j) ≠ 0 ∧ ((2 : Int) ^ j).natAbs < 1073741824 := by decide
noncomputable abbrev LT (fi fo st nm sz kk fd fr ss ck rw cm o1 o2 al : Option D) : Loc := [("files", fi), ("folders", fo), ("steps", st), ("name", nm), ("size", sz), ("k", kk), ("found", fd), ("folder", fr), ("sizes", ss), ("check", ck), ("rows", rw), ("common", cm), ("one", o1), ("two", o2), ("alike", al)]
set_option maxHeartbeats 16000000 in
theorem F.law_told {fs : List FileD} {fos : List (List Str)} (hfs : fs.length ≤ 20) (hst : ∀ f ∈ fs, f.steps.length ≤ 3) (hfn : ∀ i, (foldersOf (fs.take i)).length ≤ 1 + 3 * i) (hgood : ∀ s ∈ foldersOf fs, PGood s) (h60 : (foldersOf fs).length ≤ 60) (h2 : 2 ≤ (foldersOf fs).length)
    (hap : ((foldersOf fs).map (foundD fs)).Pairwise fun d e => rowLt d e = true ∨ rowLt e d = true) (hp : fos.Perm (foldersOf fs)) (hs' : (fos.map (foundD fs)).Pairwise fun d e => rowLt d e = true) :
    Fn w (k + 4) (.ref 211) [.lst (fs.map FileD.d)] cells (fun r c => r = toldRes fs fos ∧ c = cells) := by
  refine Fn.def (ds := [.lst (fs.map FileD.d)]) ["files", "folders", "steps", "name", "size", "k", "found", "folder", "sizes", "check", "rows", "common", "one", "two", "alike"] ["files"] (f := 211) (by exact rfl) (by with_unfolding_all rfl) (binds_plain rfl (binds1 fun u => by with_unfolding_all rfl)) (by decide) (by decide) (by decide) ?h
  intro env hs hg hb
  let fi : Option D := some (.lst (fs.map FileD.d))
  refine Exs.cons (Ex.assignC (EvC.newList (ds := [sL []]) (EvL.cons (Ev.lst EvL.nil (by simp [sizeLine_eq])) EvL.nil) (by simp [sizeLine_eq]) fun a => ⟨_, by walk_at "mine p", ?cfolders⟩) (kNe hs (by decide)))
  -- the folders
  refine Exs.cons (Ex.for (fun i l c => c = (a, .lst ((foldersOf (fs.take i)).map sL)) :: cells ∧ ∃ st nm sz, l = LT fi (some (.val (.ref a))) st nm sz none none none none none none none none none none) (ItE.list (ds := fs.map FileD.d) (by walk_at "mine n")) ⟨rfl, none, none, none, rfl⟩ ?fturn ?fdone)
  case fturn =>
    rintro i d l c hd ⟨rfl, st, nm, sz, rfl⟩ hc
    rw [List.getElem?_map] at hd
    obtain ⟨f, hf, rfl⟩ := Option.map_eq_some_iff.mp hd
    have hi : i < fs.length := (List.getElem?_eq_some_iff.mp hf).1
    have hl := hst f (List.mem_of_getElem? hf)
    have hfi := hfn i
    have htk : foldersOf (fs.take (i + 1)) = foldersOf (fs.take i) ++ newOf (foldersOf (fs.take i)) f.steps := by unfold foldersOf; rw [List.take_add_one, hf, List.foldl_append]; rfl
    generalize foldersOf (fs.take i) = acc at htk hfi
    refine ⟨LT fi (some (.val (.ref a))) (some (sL f.steps)) (some (.str f.name)) (some (.int f.size)) none none none none none none none none none none, As.tup (AsL.cons (As.name (by walk_at "mine p") (kNe hs (by decide))) (AsL.cons (As.name (by walk_at "mine p") (kNe hs (by decide))) (AsL.cons (As.name (by walk_at "mine p") (kNe hs (by decide))) AsL.nil))), ?_⟩
    have hnl : (newOf acc f.steps).length ≤ 3 := by
      unfold newOf
      refine Nat.le_trans (List.length_filter_le _ _) ?_
      rw [List.length_map, List.length_range]; exact hl
    refine Exs.cons (Ex.augL (a := a) (ds := acc.map sL) (es := (newOf acc f.steps).map sL) (pre := []) (post := cells) rfl (by walk_at "mine m") (EvC.comp ([(".0", none), ("k", none), ("folders", some (.val (.ref a))), ("steps", some (sL f.steps))] : Loc) (fun l => ∃ q, l = ([(".0", none), ("k", q), ("folders", some (.val (.ref a))), ("steps", some (sL f.steps))] : Loc)) (newF acc f.steps)
      (ItE.range1 (n := ((f.steps.map D.str).length : Int)) (by walk_at "mine b") (Ev.len (d := sL f.steps) (ds := f.steps.map .str) (by walk_at "mine b") (by walk_at "mine n") .fz (by rw [List.length_map]; (first | lia | omega))) (by rw [List.length_map]; (first | lia | omega))) ?io1 ⟨_, rfl⟩ ?cap1 ?turn1 ?sz1 (fun b => ⟨b, rfl, ?eq1⟩)) (by walk_at "mine p") (kNe hs (by decide)) (by rw [List.length_map, List.length_map, sizeLine_eq]; (first | lia | omega)) ?nx1)
    case io1 => exact ⟨rfl, by decide, allC (fun e => by cases e) (allC (fun e => by cases e) (allC (fun _ => ⟨kOf hs (by decide), _, by walk_at "mine m", by walk_at "mine m"⟩) (allC (fun _ => ⟨kOf hs (by decide), _, by walk_at "mine m", by walk_at "mine m"⟩) allN))),
        allC (.inl ⟨by decide, rfl⟩) (allC (.inl ⟨by decide, rfl⟩) (allC (.inr (.inr ⟨rfl, by walk_at "mine m"⟩)) (allC (.inr (.inr ⟨rfl, by walk_at "mine m"⟩)) allN))), (by decide : ([".0", "k", "folders", "steps"] : List Str).Nodup), allC ⟨rfl, rfl⟩ (allC ⟨rfl, rfl⟩ (allC ⟨rfl, rfl⟩ (allC ⟨rfl, rfl⟩ allN)))⟩
    case cap1 =>
      rintro l ⟨q, rfl⟩
      exact allC (fun h => absurd h (by decide)) (allC (fun h => absurd h (by decide)) (allC (fun _ => by walk_at "mine m") (allC (fun _ => by walk_at "mine m") allN)))
    case sz1 => rw [sizeLine_eq]; unfold rng; simp; (try (first | lia | omega))
    case eq1 =>
      have : (((f.steps.map D.str).length : Nat) : Int).toNat = f.steps.length := by simp
      rw [this, newF_map]
    case turn1 =>
      rintro cenv cc hcc ck cn cg cb l d ⟨q, rfl⟩ hd
      obtain ⟨j, hj, rfl⟩ := List.mem_map.mp hd
      have kf : cenv.kindOf "k" = some .local := by unfold Env.kindOf; rw [cn]; rfl
      have ej : (0 : Int) + (j : Int) * 1 = (j : Int) := by (first | lia | omega)
      rw [ej]
      rw [List.mem_range, List.length_map] at hj
      have hj' : j < f.steps.length := hj
      refine ⟨[(".0", none), ("k", some (.int (j : Int))), ("folders", some (.val (.ref a))), ("steps", some (sL f.steps))], !acc.contains (f.steps.take (j + 1)), As.name (by walk_at "mine p") (by rw [kf]; decide), ⟨_, rfl⟩,
        Tr.notin (Ev.uptoS (j + 1) (by walk_at "mine n") (Ev.succ (by walk_at "mine n")) (by (first | lia | omega))) (by walk_at "mine n") (.cell (hcc _ (List.Mem.head _))), fun e => ⟨sL (f.steps.take (j + 1)), ?_, Ev.uptoS (j + 1) (by walk_at "mine n") (Ev.succ (by walk_at "mine n")) (by (first | lia | omega))⟩, fun e => ?_⟩
      · show (if !acc.contains (f.steps.take (j + 1)) then some (sL (f.steps.take (j + 1))) else none) = _
        rw [e]; rfl
      · show (if !acc.contains (f.steps.take (j + 1)) then some (sL (f.steps.take (j + 1))) else none) = _
        rw [e]; rfl
    case nx1 =>
      refine Exs.nil ⟨rfl, ?_, _, _, _, rfl⟩
      rw [htk, List.map_append]; rfl
  case fdone =>
  rintro l c hc ⟨rfl, st, nm, sz, rfl⟩
  rw [List.length_map, List.take_length]
  refine Exs.freeze (pre := []) (by walk_at "mine m") (by walk_at "mine p") ?_
  generalize hFO : foldersOf fs = FO at *
  refine Exs.cons (Ex.assignC (EvC.newList (ds := []) EvL.nil (by decide) fun a => ⟨_, by walk_at "mine p", ?cfound⟩) (kNe hs (by decide)))
  let fld : Option D := some (.lst (FO.map sL))
  refine Exs.cons (Ex.for (fun i l c => c = (a, .lst ((FO.take i).map (foundD fs))) :: cells ∧ ∃ fr ss ck, l = LT fi fld st nm sz none (some (.val (.ref a))) fr ss ck none none none none none) (ItE.list (ds := FO.map sL) (by walk_at "mine n")) ⟨rfl, none, none, none, rfl⟩ ?gturn ?gdone)
  case gturn =>
    rintro i d l c hd ⟨rfl, fr, ss, ck, rfl⟩ hc
    rw [List.getElem?_map] at hd
    obtain ⟨fo, hf, rfl⟩ := Option.map_eq_some_iff.mp hd
    have hi : i < FO.length := (List.getElem?_eq_some_iff.mp hf).1
    have hfg : PGood fo := hgood fo (List.mem_of_getElem? hf)
    have hfo3 := hfg.short
    have htk : FO.take (i + 1) = FO.take i ++ [fo] := by rw [List.take_add_one, hf]; rfl
    refine ⟨LT fi fld st nm sz none (some (.val (.ref a))) (some (sL fo)) ss ck none none none none none, As.name (by walk_at "mine p") (kNe hs (by decide)), ?_⟩
    -- sizes
    refine Exs.cons (Ex.assignC (EvC.comp ([(".0", none), ("steps", none), ("name", none), ("size", none), ("folder", some (sL fo))] : Loc) (fun l => ∃ p q r, l = ([(".0", none), ("steps", p), ("name", q), ("size", r), ("folder", some (sL fo))] : Loc)) (sizeF fo)
      (ItE.list (ds := fs.map FileD.d) (by walk_at "mine n")) ?io2 ⟨_, _, _, rfl⟩ ?cap2 ?turn2 ?sz2 (fun b => ⟨_, by walk_at "mine p", ?nx2⟩)) (kNe hs (by decide)) ?sw2)
    case sw2 =>
      have h1 : env.kindOf "sizes" = some .cell := kOf hs (by decide)
      have h2 : (env.blockKind == .function) = true := by unfold Env.blockKind; rw [hs]; rfl
      show pure (env.blockKind == .function && env.kindOf "sizes" == some .local && _ && _) = pure false
      rw [h1, h2]; rfl
    case io2 => exact ⟨rfl, by decide, allC (fun e => by cases e) (allC (fun e => by cases e) (allC (fun e => by cases e) (allC (fun e => by cases e) (allC (fun e => by cases e) (allC (fun _ => ⟨kOf hs (by decide), _, by walk_at "mine m", by walk_at "mine m"⟩) allN))))),
        allC (.inl ⟨by decide, rfl⟩) (allC (.inl ⟨by decide, rfl⟩) (allC (.inl ⟨by decide, rfl⟩) (allC (.inl ⟨by decide, rfl⟩) (allC (.inr (.inr ⟨rfl, by walk_at "mine m"⟩)) allN)))), (by decide : ([".0", "steps", "name", "size", "folder"] : List Str).Nodup), allC ⟨rfl, rfl⟩ (allC ⟨rfl, rfl⟩ (allC ⟨rfl, rfl⟩ (allC ⟨rfl, rfl⟩ (allC ⟨rfl, rfl⟩ allN))))⟩
    case cap2 =>
      rintro l ⟨p, q, r, rfl⟩
      exact allC (fun h => absurd h (by decide)) (allC (fun h => absurd h (by decide)) (allC (fun h => absurd h (by decide)) (allC (fun h => absurd h (by decide)) (allC (fun _ => by walk_at "mine m") allN))))
    case sz2 => rw [List.length_map, sizeLine_eq]; (first | lia | omega)
    case turn2 =>
      rintro cenv cc hcc ck' cn cg cb l d ⟨p, q, r, rfl⟩ hd
      obtain ⟨f, hf, rfl⟩ := List.mem_map.mp hd
      have k1 : cenv.kindOf "steps" = some .local := by unfold Env.kindOf; rw [cn]; rfl
      have k2 : cenv.kindOf "name" = some .local := by unfold Env.kindOf; rw [cn]; rfl
      have k3 : cenv.kindOf "size" = some .local := by unfold Env.kindOf; rw [cn]; rfl
      have k4 : cenv.kindOf "len" = some .globalImplicit := by unfold Env.kindOf; rw [cn]; rfl
      have hl := hst f hf
      refine ⟨[(".0", none), ("steps", some (sL f.steps)), ("name", some (.str f.name)), ("size", some (.int f.size)), ("folder", some (sL fo))], f.steps.take fo.length == fo, As.tup (AsL.cons (As.name (by walk_at "mine p") (by rw [k1]; decide)) (AsL.cons (As.name (by walk_at "mine p") (by rw [k2]; decide)) (AsL.cons (As.name (by walk_at "mine p") (by rw [k3]; decide)) AsL.nil))), ⟨_, _, _, rfl⟩,
        Tr.cmp (a := sL (f.steps.take fo.length)) (b := sL fo) (Ev.uptoS fo.length (by walk_at "mine n") (by rw [← List.length_map (f := D.str)]; exact Ev.len (d := sL fo) (ds := fo.map .str) (Ev.bltn k4 (by decide) (by first | rfl | kernel_rfl) (by first | rfl | kernel_rfl) (by decide)) (by walk_at "mine n") .fz (by rw [List.length_map]; (first | lia | omega))) (by (first | lia | omega))) (by walk_at "mine n") Cmp.eqL,
        fun e => ⟨.int f.size, by rw [sizeF_at, e]; rfl, by walk_at "mine n"⟩, fun e => by rw [sizeF_at, e]; rfl⟩
    case nx2 =>
    rw [sizeF_map]
    refine Exs.freeze (pre := []) (by walk_at "mine m") (by walk_at "mine p") ?_
    generalize hZ : sizesOf fs fo = Z
    have hZl : Z.length ≤ 20 := by
      rw [← hZ]; unfold sizesOf
      rw [List.length_map]
      exact Nat.le_trans (List.length_filter_le _ _) hfs
    -- check
    refine Exs.cons (Ex.assign (d := .int ((List.range 10).map (bitT Z)).sum) (Ev.ofC (EvC.callB (ds := [.lst (((List.range 10).map (bitT Z)).map .int)]) (b := .builtin "sum") trivial (by walk_at "mine b") (EvL.cons (Ev.freeze (EvC.comp ([(".0", none), ("k", none), ("sizes", some (.lst (Z.map .int)))] : Loc) (fun l => ∃ p, l = ([(".0", none), ("k", p), ("sizes", some (.lst (Z.map .int)))] : Loc)) (bitF Z)
      (ItE.range1 (n := 10) (by walk_at "mine b") Ev.int (by (first | lia | omega))) ?io3 ⟨_, rfl⟩ ?cap3 ?turn3 ?sz3 (fun b => ⟨b, rfl, by rw [bitF_map]; rfl⟩))) EvL.nil) (BFn.fn B.sum ⟨rfl, rfl⟩))) (by walk_at "mine p") (kNe hs (by decide)) ?nx3)
    case io3 => exact ⟨rfl, by decide, allC (fun e => by cases e) (allC (fun e => by cases e) (allC (fun e => by cases e) (allC (fun _ => ⟨kOf hs (by decide), _, by walk_at "mine m", by walk_at "mine m"⟩) allN))),
        allC (.inl ⟨by decide, rfl⟩) (allC (.inr (.inl ⟨by decide, rfl⟩)) (allC (.inr (.inr ⟨rfl, by walk_at "mine m"⟩)) allN)), (by decide : ([".0", "k", "sizes"] : List Str).Nodup), allC ⟨rfl, rfl⟩ (allC ⟨rfl, rfl⟩ (allC ⟨rfl, rfl⟩ allN))⟩
    case cap3 =>
      rintro l ⟨p, rfl⟩
      exact allC (fun h => absurd h (by decide)) (allC (fun h => absurd h (by decide)) (allC (fun _ => by walk_at "mine m") allN))
    case sz3 => simp [rng, sizeLine_eq]
    case turn3 =>
      rintro cenv cc hcc ck' cn cg cb l d ⟨p, rfl⟩ hd
      obtain ⟨j, hj, rfl⟩ := List.mem_map.mp hd
      have hj : j < 10 := by simpa using hj
      have kf : cenv.kindOf "k" = some .cell := by unfold Env.kindOf; rw [cn]; rfl
      have k4 : cenv.kindOf "sum" = some .globalImplicit := by unfold Env.kindOf; rw [cn]; rfl
      have ej : (0 : Int) + (j : Int) * 1 = (j : Int) := by (first | lia | omega)
      rw [ej]
      obtain ⟨t1, t2, t3⟩ := two_pow j hj
      refine ⟨[(".0", none), ("k", some (.int (j : Int))), ("sizes", some (.lst (Z.map .int)))], true, As.name (by walk_at "mine p") (by rw [kf]; decide), ⟨_, rfl⟩, rfl, fun _ => ⟨.int (bitT Z j), rfl, ?_⟩, fun h => by cases h⟩
      refine Ev.bin (a := .int (2 ^ j)) (b := .int ((Z.map fun (z : Int) => (z.fdiv (2 ^ j)).fmod 2).sum.fmod 2)) (Ev.pow2 (by walk_at "mine n") (by (first | lia | omega))) (Ev.bin (a := .int (Z.map fun (z : Int) => (z.fdiv (2 ^ j)).fmod 2).sum) (b := .int 2)
        (Ev.ofC (EvC.callB (ds := [.lst ((Z.map fun (z : Int) => (z.fdiv (2 ^ j)).fmod 2).map .int)]) (b := .builtin "sum") trivial (Ev.bltn k4 (by decide) (by first | rfl | kernel_rfl) (by first | rfl | kernel_rfl) (by decide)) (EvL.cons (Ev.freeze (EvC.comp ([(".0", none), ("size", none), ("k", some (.int (j : Int)))] : Loc) (fun l => ∃ p, l = ([(".0", none), ("size", p), ("k", some (.int (j : Int)))] : Loc)) (oddF j)
          (ItE.list (ds := Z.map .int) (by walk_at "mine n")) ?io4 ⟨_, rfl⟩ ?cap4 ?turn4 ?sz4 (fun b => ⟨b, rfl, by rw [oddF_map]⟩))) EvL.nil) (BFn.fn B.sum ⟨rfl, rfl⟩))) Ev.int (Bin.mod (by decide))) (Bin.mul (.of_left t1))
      case io4 => exact ⟨rfl, by decide, allC (fun e => by cases e) (allC (fun e => by cases e) (allC (fun _ => ⟨by unfold Env.kindOf; rw [cn]; rfl, _, by walk_at "mine m", by walk_at "mine m"⟩) allN)),
        allC (.inl ⟨by decide, rfl⟩) (allC (.inl ⟨by decide, rfl⟩) (allC (.inr (.inr ⟨rfl, by walk_at "mine m"⟩)) allN)), (by decide : ([".0", "size", "k"] : List Str).Nodup), allC ⟨rfl, rfl⟩ (allC ⟨rfl, rfl⟩ (allC ⟨rfl, rfl⟩ allN))⟩
      case cap4 =>
        rintro l ⟨p, rfl⟩
        exact allC (fun h => absurd h (by decide)) (allC (fun h => absurd h (by decide)) (allC (fun _ => by walk_at "mine m") allN))
      case sz4 => rw [List.length_map, sizeLine_eq]; (first | lia | omega)
      case turn4 =>
        rintro cenv2 cc2 hcc2 ck2 cn2 cg2 cb2 l d ⟨p, rfl⟩ hd
        obtain ⟨z, hz, rfl⟩ := List.mem_map.mp hd
        have kf : cenv2.kindOf "size" = some .local := by unfold Env.kindOf; rw [cn2]; rfl
        exact ⟨[(".0", none), ("size", some (.int z)), ("k", some (.int (j : Int)))], true, As.name (by walk_at "mine p") (by rw [kf]; decide), ⟨_, rfl⟩, rfl, fun _ => ⟨.int ((z.fdiv (2 ^ j)).fmod 2), rfl,
          Ev.bin (a := .int (z.fdiv (2 ^ j))) (b := .int 2) (Ev.bin (a := .int z) (b := .int (2 ^ j)) (by walk_at "mine n") (Ev.pow2 (by walk_at "mine n") (by (first | lia | omega))) (Bin.div t2 t3)) Ev.int (Bin.mod (by decide))⟩, fun h => by cases h⟩
    case nx3 =>
    obtain ⟨hok, hjl⟩ := pathS_good hfg (Nat.le_refl fo.length)
    rw [List.take_length] at hok hjl
    have cnt : (((fs.map FileD.d).filterMap (sameF fo)).length : Nat) ≤ 20 := Nat.le_trans (List.length_filterMap_le _ _) (by rw [List.length_map]; exact hfs)
    refine Exs.cons (Ex.exprC (EvC.meth (d := .val (.ref a)) (ds := [foundD fs fo]) (by walk_at "mine n") (Recv.lst (List.Mem.head _)) (EvL.cons (d := foundD fs fo) ?tup EvL.nil)
      (M.append (a := a) (pre := []) rfl (by rw [List.length_map, List.length_take, sizeLine_eq]; (first | lia | omega)) ⟨rfl, ?nx4⟩) PySem.F.plainAttrs_list PySem.F.slot_list_append PySem.F.type_list_append) (by unfold interactive; rw [hs]; rfl))
    case nx4 =>
      refine Exs.nil ⟨rfl, ?_, _, _, _, rfl⟩
      rw [htk, List.map_append]; rfl
    case tup =>
      have e1 : sumT fs fo = Z.sum := by unfold sumT; rw [hZ]
      have e2 : checkT fs fo = ((List.range 10).map (bitT Z)).sum := by unfold checkT; rw [hZ]
      have e3 : countT fs fo = (((fs.map FileD.d).filterMap (sameF fo)).length : Nat) := by unfold countT; rw [sameF_map, List.length_map]
      unfold foundD
      rw [e1, e2, e3]
      refine Ev.tup (EvL.cons (Ev.uny (Ev.ofC (EvC.callB (ds := [.lst (Z.map .int)]) (b := .builtin "sum") trivial (by walk_at "mine b") (EvL.cons (by walk_at "mine n") EvL.nil) (BFn.fn B.sum ⟨rfl, rfl⟩))) Uny.neg)
        (EvL.cons (Ev.ofC (EvC.call (a := 206) (ds := [sL fo]) (by walk_at "mine g") (by first | rfl | kernel_rfl) (EvL.cons (by walk_at "mine n") EvL.nil) (F.lawpath (k := k + 2) hok (by rw [sizeLine_eq]; show 1 + _ ≤ _; (first | lia | omega)))))
        (EvL.cons (by walk_at "mine n") (EvL.cons (Ev.len (d := .lst ((fs.map FileD.d).filterMap (sameF fo))) (ds := (fs.map FileD.d).filterMap (sameF fo)) (by walk_at "mine b") (Ev.freeze (EvC.comp ([(".0", none), ("steps", none), ("name", none), ("size", none), ("folder", some (sL fo))] : Loc) (fun l => ∃ p q r, l = ([(".0", none), ("steps", p), ("name", q), ("size", r), ("folder", some (sL fo))] : Loc)) (sameF fo)
          (ItE.list (ds := fs.map FileD.d) (by walk_at "mine n")) ?io5 ⟨_, _, _, rfl⟩ ?cap5 ?turn5 ?sz5 (fun b => ⟨b, rfl, rfl⟩))) .fz (by (first | lia | omega))) (EvL.cons (by walk_at "mine n") EvL.nil))))) (by simp [sizeLine_eq])
      case io5 => exact ⟨rfl, by decide, allC (fun e => by cases e) (allC (fun e => by cases e) (allC (fun e => by cases e) (allC (fun e => by cases e) (allC (fun _ => ⟨kOf hs (by decide), _, by walk_at "mine m", by walk_at "mine m"⟩) allN)))),
        allC (.inl ⟨by decide, rfl⟩) (allC (.inl ⟨by decide, rfl⟩) (allC (.inl ⟨by decide, rfl⟩) (allC (.inl ⟨by decide, rfl⟩) (allC (.inr (.inr ⟨rfl, by walk_at "mine m"⟩)) allN)))), (by decide : ([".0", "steps", "name", "size", "folder"] : List Str).Nodup), allC ⟨rfl, rfl⟩ (allC ⟨rfl, rfl⟩ (allC ⟨rfl, rfl⟩ (allC ⟨rfl, rfl⟩ (allC ⟨rfl, rfl⟩ allN))))⟩
      case cap5 =>
        rintro l ⟨p, q, r, rfl⟩
        exact allC (fun h => absurd h (by decide)) (allC (fun h => absurd h (by decide)) (allC (fun h => absurd h (by decide)) (allC (fun h => absurd h (by decide)) (allC (fun _ => by walk_at "mine m") allN))))
      case sz5 => rw [List.length_map, sizeLine_eq]; (first | lia | omega)
      case turn5 =>
        rintro cenv cc hcc ck' cn cg cb l d ⟨p, q, r, rfl⟩ hd
        obtain ⟨f, hf, rfl⟩ := List.mem_map.mp hd
        have k1 : cenv.kindOf "steps" = some .local := by unfold Env.kindOf; rw [cn]; rfl
        have k2 : cenv.kindOf "name" = some .local := by unfold Env.kindOf; rw [cn]; rfl
        have k3 : cenv.kindOf "size" = some .local := by unfold Env.kindOf; rw [cn]; rfl
        exact ⟨[(".0", none), ("steps", some (sL f.steps)), ("name", some (.str f.name)), ("size", some (.int f.size)), ("folder", some (sL fo))], f.steps == fo, As.tup (AsL.cons (As.name (by walk_at "mine p") (by rw [k1]; decide)) (AsL.cons (As.name (by walk_at "mine p") (by rw [k2]; decide)) (AsL.cons (As.name (by walk_at "mine p") (by rw [k3]; decide)) AsL.nil))), ⟨_, _, _, rfl⟩,
          Tr.cmp (a := sL f.steps) (b := sL fo) (by walk_at "mine n") (by walk_at "mine n") Cmp.eqL,
          fun e => ⟨sL f.steps, by rw [sameF_at, e]; rfl, by walk_at "mine n"⟩, fun e => by rw [sameF_at, e]; rfl⟩
  case gdone =>
  rintro l c hc ⟨rfl, fr, ss, ck, rfl⟩
  rw [List.length_map, List.take_length]
  refine Exs.freeze (pre := []) (by walk_at "mine m") (by walk_at "mine p") ?_
  have fosl : fos.length = FO.length := hp.length_eq
  refine Exs.cons (Ex.assign (d := .lst (fos.map (foundD fs))) (Ev.ofC (EvC.callB (ds := [.lst (FO.map (foundD fs))]) (b := .builtin "sorted") trivial (by walk_at "mine b") (EvL.cons (by walk_at "mine n") EvL.nil)
    (BFn.fn (B.sortedT (os := fos.map (foundD fs)) (fun d hd => by obtain ⟨f, _, rfl⟩ := List.mem_map.mp hd; exact ⟨_, _, _, rfl⟩) (apts_of hap) (by rw [List.length_map]; exact h2) (by rw [List.length_map]; (first | lia | omega)) (hp.map _) hs') ⟨rfl, rfl⟩))) (by walk_at "mine p") (kNe hs (by decide)) ?_)
  -- rows
  refine Exs.cons (Ex.assignComp (loc' := fun b => LT fi fld st nm sz none (some (.lst (fos.map (foundD fs)))) fr ss ck (some (.val (.ref b))) none none none none) ([(".0", none), ("size", none), ("path", none), ("check", none), ("count", none), ("folder", none)] : Loc) (fun l => ∃ p q r s t, l = ([(".0", none), ("size", p), ("path", q), ("check", r), ("count", s), ("folder", t)] : Loc)) tellF
    (ItE.list (ds := fos.map (foundD fs)) (by walk_at "mine n")).z ?io6 ⟨_, _, _, _, _, rfl⟩ ?cap6 ?turn6 List.nodup_nil ?sz6 (fun b => by walk_at "mine p") (kNe hs (by decide)) (fun b => ?nx6) ?sw6)
  case sw6 =>
      have h1 : env.kindOf "rows" = some .local := kOf hs (by decide)
      have h2 : (env.blockKind == .function) = true := by unfold Env.blockKind; rw [hs]; rfl
      show pure (env.blockKind == .function && env.kindOf "rows" == some .local && _ && _) = pure true
      rw [h1, h2]; rfl
  case io6 => exact ⟨rfl, by decide, allC (fun e => by cases e) (allC (fun e => by cases e) (allC (fun e => by cases e) (allC (fun e => by cases e) (allC (fun e => by cases e) (allC (fun e => by cases e) allN))))),
        allC (.inl ⟨by decide, rfl⟩) (allC (.inl ⟨by decide, rfl⟩) (allC (.inl ⟨by decide, rfl⟩) (allC (.inl ⟨by decide, rfl⟩) (allC (.inl ⟨by decide, rfl⟩) (allC (.inl ⟨by decide, rfl⟩) allN))))), (by decide : ([".0", "size", "path", "check", "count", "folder"] : List Str).Nodup), allC ⟨rfl, rfl⟩ (allC ⟨rfl, rfl⟩ (allC ⟨rfl, rfl⟩ (allC ⟨rfl, rfl⟩ (allC ⟨rfl, rfl⟩ (allC ⟨rfl, rfl⟩ allN)))))⟩
  case cap6 =>
    rintro l ⟨p, q, r, s, t, rfl⟩
    exact allC (fun h => absurd h (by decide)) (allC (fun h => absurd h (by decide)) (allC (fun h => absurd h (by decide)) (allC (fun h => absurd h (by decide)) (allC (fun h => absurd h (by decide)) (allC (fun h => absurd h (by decide)) allN)))))
  case sz6 => rw [List.length_map, sizeLine_eq]; (first | lia | omega)
  case turn6 =>
    rintro cenv cc hcc ck' cn cg cb l d ⟨p, q, r, s, t, rfl⟩ hd
    obtain ⟨f, hf, rfl⟩ := List.mem_map.mp hd
    have k1 : cenv.kindOf "size" = some .local := by unfold Env.kindOf; rw [cn]; rfl
    have k2 : cenv.kindOf "path" = some .local := by unfold Env.kindOf; rw [cn]; rfl
    have k3 : cenv.kindOf "check" = some .local := by unfold Env.kindOf; rw [cn]; rfl
    have k4 : cenv.kindOf "count" = some .local := by unfold Env.kindOf; rw [cn]; rfl
    have k5 : cenv.kindOf "folder" = some .local := by unfold Env.kindOf; rw [cn]; rfl
    refine ⟨[(".0", none), ("size", some (.int (-(sumT fs f)))), ("path", some (.str (pathS f))), ("check", some (.int (checkT fs f))), ("count", some (.int (countT fs f))), ("folder", some (sL f))], true,
      As.tup (AsL.cons (As.name (by walk_at "mine p") (by rw [k1]; decide)) (AsL.cons (As.name (by walk_at "mine p") (by rw [k2]; decide)) (AsL.cons (As.name (by walk_at "mine p") (by rw [k3]; decide)) (AsL.cons (As.name (by walk_at "mine p") (by rw [k4]; decide)) (AsL.cons (As.name (by walk_at "mine p") (by rw [k5]; decide)) AsL.nil))))), ⟨_, _, _, _, _, rfl⟩, rfl,
      fun _ => ⟨rowT fs f, ?_, Ev.tup (EvL.cons (by walk_at "mine n") (EvL.cons (Ev.negneg (by walk_at "mine n")) (EvL.cons (by walk_at "mine n") (EvL.cons (by walk_at "mine n") EvL.nil)))) (by simp [sizeLine_eq])⟩, fun h => by cases h⟩
    show some (D.tup [.str (pathS f), .int (-(-(sumT fs f))), .int (checkT fs f), .int (countT fs f)]) = _
    rw [Int.neg_neg]; rfl
  case nx6 =>
  rw [tellF_map]
  refine Exs.freeze (pre := []) (by walk_at "mine m") (by walk_at "mine p") ?_
  refine Exs.cons (Ex.assignC (EvC.newList (ds := []) EvL.nil (by decide) fun ac => ⟨_, by walk_at "mine p", ?ccommon⟩) (kNe hs (by decide)))
  have flen : (fos.map (foundD fs)).length = fos.length := List.length_map _
  let LC := fun (kk o1 o2 al : Option D) => LT fi fld st nm sz kk (some (.lst (fos.map (foundD fs)))) fr ss ck (some (.lst (fos.map (rowT fs)))) (some (.val (.ref ac))) o1 o2 al
  refine Exs.cons (Ex.for (fun i l c => c = (ac, .lst ((List.range i).map fun j => D.str (commT fos j))) :: cells ∧ ∃ kk o1 o2 al, l = LC kk o1 o2 al)
    (ItE.range1 (n := ((fos.map (foundD fs)).length : Int) - 1) (by walk_at "mine b") (Ev.bin (a := .int (fos.map (foundD fs)).length) (b := .int 1) (Ev.len (d := .lst (fos.map (foundD fs))) (by walk_at "mine b") (by walk_at "mine n") .fz (by (first | lia | omega))) Ev.int Bin.sub) (by (first | lia | omega))) ⟨rfl, none, none, none, none, rfl⟩ ?cturn ?cdone)
  case cturn =>
    rintro i d l c hd ⟨rfl, kk, o1, o2, al, rfl⟩ hc
    obtain ⟨hi, rfl⟩ := rng_get hd
    have ei : (0 : Int) + (i : Int) * 1 = (i : Int) := by (first | lia | omega)
    rw [ei]
    have hi2 : i + 1 < fos.length := by (first | lia | omega)
    have at1 : ∀ j, j < fos.length → (fos.map (foundD fs))[j]? = some (foundD fs (fos.getD j [])) := fun j hj => by simp [hj]
    have gd : ∀ j, j < fos.length → PGood (fos.getD j []) := fun j hj => by
      have e : fos.getD j [] = fos[j] := by simp [hj]
      rw [e]
      exact hgood _ (hp.mem_iff.mp (List.getElem_mem hj))
    have ecm : commT fos i = pathS (commL (fos.getD i []) (fos.getD (i + 1) [])) := rfl
    have a1 := at1 i (by (first | lia | omega))
    have a2 := at1 (i + 1) hi2
    have g1 := gd i (by (first | lia | omega))
    have g2 := gd (i + 1) hi2
    generalize hs1 : fos.getD i [] = s at a1 g1 ecm
    generalize ht1 : fos.getD (i + 1) [] = t at a2 g2 ecm
    have sl := g1.short
    have tl := g2.short
    refine ⟨LC (some (.int (i : Int))) o1 o2 al, As.name (by walk_at "mine p") (kNe hs (by decide)), ?_⟩
    refine Exs.cons (Ex.assignTC (EvC.of (d := .tup [sL s, sL t]) (Ev.tup (EvL.cons (Ev.itemT (n := 4) (ds := [_, _, _, _, sL s]) (Ev.item (n := (i : Int)) (d := .lst (fos.map (foundD fs))) (ds := fos.map (foundD fs)) (by walk_at "mine n") (by walk_at "mine n") .fz (by (first | lia | omega)) (by (first | lia | omega)) (by rw [Int.toNat_natCast, a1]; rfl)) Ev.int (by (first | lia | omega)) (by (first | lia | omega)) rfl)
      (EvL.cons (Ev.itemT (n := 4) (ds := [_, _, _, _, sL t]) (Ev.item (n := ((i + 1 : Nat) : Int)) (d := .lst (fos.map (foundD fs))) (ds := fos.map (foundD fs)) (by walk_at "mine n") (Ev.succ (by walk_at "mine n")) .fz (by (first | lia | omega)) (by (first | lia | omega)) (by rw [Int.toNat_natCast, a2]; rfl)) Ev.int (by (first | lia | omega)) (by (first | lia | omega)) rfl) EvL.nil)) (by simp [sizeLine_eq]))
      ⟨_, As.tup (AsL.cons (As.name (by walk_at "mine p") (kNe hs (by decide))) (AsL.cons (As.name (by walk_at "mine p") (kNe hs (by decide))) AsL.nil)), ?_⟩) (by rfl) ?swp)
    case swp =>
      clear hg hb
      cases env
      cases hs
      rfl
    -- alike
    let LD := LT fi fld st nm sz (some (.int (i : Int))) (some (.lst (fos.map (foundD fs)))) fr ss ck (some (.lst (fos.map (rowT fs)))) (some (.val (.ref ac))) (some (sL s)) (some (sL t))
    have mn : ((if ((t.map D.str).length : Int) < (s.map D.str).length then ((t.map D.str).length : Int) else (s.map D.str).length) + 1) = (((if t.length < s.length then t.length else s.length) + 1 : Nat) : Int) := by
      rw [List.length_map, List.length_map]
      split <;> split <;> (first | lia | omega)
    generalize hNN : (if t.length < s.length then t.length else s.length) + 1 = NN at mn
    have nn4 : NN ≤ 4 := by rw [← hNN]; split <;> (first | lia | omega)
    obtain ⟨am1, am2, am3⟩ := alike_max s t NN hNN.symm
    refine Exs.cons (Ex.assignComp (loc' := fun b => LD (some (.val (.ref b)))) ([(".0", none), ("j", none), ("one", some (sL s)), ("two", some (sL t))] : Loc) (fun l => ∃ q, l = ([(".0", none), ("j", q), ("one", some (sL s)), ("two", some (sL t))] : Loc)) (alikeF s t)
      (ItE.range1 (n := (NN : Int)) (by walk_at "mine b") (by rw [← mn]; exact Ev.bin (a := .int _) (b := .int 1) (Ev.ofC (EvC.callB (ds := [.int (s.map D.str).length, .int (t.map D.str).length]) (b := .builtin "min") trivial (by walk_at "mine b") (EvL.cons (Ev.len (d := sL s) (ds := s.map .str) (by walk_at "mine b") (by walk_at "mine n") .fz (by rw [List.length_map]; (first | lia | omega))) (EvL.cons (Ev.len (d := sL t) (ds := t.map .str) (by walk_at "mine b") (by walk_at "mine n") .fz (by rw [List.length_map]; (first | lia | omega))) EvL.nil)) (BFn.fn B.min2 ⟨rfl, rfl⟩))) Ev.int Bin.add) (by (first | lia | omega))).z ?io7 ⟨_, rfl⟩ ?cap7 ?turn7 List.nodup_nil ?sz7 (fun b => by walk_at "mine p") (kNe hs (by decide)) (fun b => ?nx7) ?sw7)
    case sw7 =>
      have h1 : env.kindOf "alike" = some .local := kOf hs (by decide)
      have h2 : (env.blockKind == .function) = true := by unfold Env.blockKind; rw [hs]; rfl
      show pure (env.blockKind == .function && env.kindOf "alike" == some .local && _ && _) = pure true
      rw [h1, h2]; rfl
    case io7 => exact ⟨rfl, by decide, allC (fun e => by cases e) (allC (fun e => by cases e) (allC (fun _ => ⟨kOf hs (by decide), _, by walk_at "mine m", by walk_at "mine m"⟩) (allC (fun _ => ⟨kOf hs (by decide), _, by walk_at "mine m", by walk_at "mine m"⟩) allN))),
        allC (.inl ⟨by decide, rfl⟩) (allC (.inl ⟨by decide, rfl⟩) (allC (.inr (.inr ⟨rfl, by walk_at "mine m"⟩)) (allC (.inr (.inr ⟨rfl, by walk_at "mine m"⟩)) allN))), (by decide : ([".0", "j", "one", "two"] : List Str).Nodup), allC ⟨rfl, rfl⟩ (allC ⟨rfl, rfl⟩ (allC ⟨rfl, rfl⟩ (allC ⟨rfl, rfl⟩ allN)))⟩
    case cap7 =>
      rintro l ⟨q, rfl⟩
      exact allC (fun h => absurd h (by decide)) (allC (fun h => absurd h (by decide)) (allC (fun _ => by walk_at "mine m") (allC (fun _ => by walk_at "mine m") allN)))
    case sz7 => rw [sizeLine_eq]; unfold rng; simp; (try (first | lia | omega))
    case turn7 =>
      rintro cenv cc hcc ck' cn cg cb l d ⟨q, rfl⟩ hd
      obtain ⟨j, hj, rfl⟩ := List.mem_map.mp hd
      have kf : cenv.kindOf "j" = some .local := by unfold Env.kindOf; rw [cn]; rfl
      have ej : (0 : Int) + (j : Int) * 1 = (j : Int) := by (first | lia | omega)
      rw [ej]
      exact ⟨[(".0", none), ("j", some (.int (j : Int))), ("one", some (sL s)), ("two", some (sL t))], s.take j == t.take j, As.name (by walk_at "mine p") (by rw [kf]; decide), ⟨_, rfl⟩,
        Tr.cmp (a := sL (s.take j)) (b := sL (t.take j)) (Ev.uptoS j (by walk_at "mine n") (by walk_at "mine n") (by (first | lia | omega))) (Ev.uptoS j (by walk_at "mine n") (by walk_at "mine n") (by (first | lia | omega))) Cmp.eqL,
        fun e => ⟨.int (j : Int), by show (if s.take j == t.take j then some (D.int (j : Int)) else none) = _; rw [e]; rfl, by walk_at "mine n"⟩, fun e => by show (if s.take j == t.take j then some (D.int (j : Int)) else none) = _; rw [e]; rfl⟩
    case nx7 =>
    have enn : ((NN : Nat) : Int).toNat = NN := Int.toNat_natCast NN
    rw [enn, alikeF_map]
    refine Exs.freeze (pre := []) (by walk_at "mine m") (by walk_at "mine p") ?_
    obtain ⟨n0, hn0, hcn⟩ := commL_take s t
    obtain ⟨hok, hjl⟩ := pathS_good g1 hn0
    rw [← hcn] at hok hjl
    have cis := (commL_is s t).1
    refine Exs.cons (Ex.exprC (EvC.meth (d := .val (.ref ac)) (ds := [.str (commT fos i)]) (by walk_at "mine n") (Recv.lst (List.Mem.head _)) (EvL.cons (by rw [ecm]; exact (Ev.ofC (EvC.call (a := 206) (ds := [sL (commL s t)]) (by walk_at "mine g") (by first | rfl | kernel_rfl)
        (EvL.cons (by rw [← cis]; exact Ev.uptoS (commL s t).length (by walk_at "mine n") (Ev.ofC (EvC.callB (ds := [.lst ((alikeL s t NN).map .int)]) (b := .builtin "max") trivial (by walk_at "mine b") (EvL.cons (by walk_at "mine n") EvL.nil) (BFn.fn (B.max am1 am2 am3) ⟨rfl, rfl⟩))) (by (first | lia | omega))) EvL.nil) (F.lawpath (k := k + 2) hok (by rw [sizeLine_eq]; show 1 + _ ≤ _; (first | lia | omega)))))) EvL.nil)
      (M.append (a := ac) (pre := []) rfl (by rw [List.length_map, List.length_range, sizeLine_eq]; (first | lia | omega)) ⟨rfl, ?nx8⟩) PySem.F.plainAttrs_list PySem.F.slot_list_append PySem.F.type_list_append) (by unfold interactive; rw [hs]; rfl))
    case nx8 =>
      refine Exs.nil ⟨rfl, ?_, _, _, _, _, rfl⟩
      rw [List.range_succ, List.map_append]; rfl
  case cdone =>
  rintro l c hc ⟨rfl, kk, o1, o2, al, rfl⟩
  have rl : (rng 0 1 (((fos.map (foundD fs)).length : Int) - 1).toNat).length = fos.length - 1 := by unfold rng; rw [List.length_map, List.length_range]; (first | lia | omega)
  rw [rl]
  refine Exs.freeze (pre := []) (by walk_at "mine m") (by walk_at "mine p") ?_
  obtain ⟨as1, as2, as3⟩ := ascS_ok (fos.map (checkT fs))
  refine Exs.cons (Ex.ret (d := toldRes fs fos) (Ev.tup (EvL.cons (by walk_at "mine n") (EvL.cons (by walk_at "mine n") (EvL.cons ?third EvL.nil))) (by simp [sizeLine_eq])) ?fin)
  case fin => exact ⟨[], cells, rfl, rfl, rfl, rfl⟩
  case third =>
    rw [← as3, List.map_take, List.map_reverse]
    refine Ev.upto 3 (ds := ((ascS (fos.map (checkT fs))).map D.int).reverse) (Ev.rev (ds := (ascS (fos.map (checkT fs))).map .int) (Ev.ofC (EvC.callB (ds := [.lst ((fos.map (checkT fs)).map .int)]) (b := .builtin "sorted") trivial (by walk_at "mine b") (EvL.cons (Ev.freeze (EvC.comp ([(".0", none), ("row", none)] : Loc) (fun l => ∃ q, l = ([(".0", none), ("row", q)] : Loc)) thirdF
      (ItE.list (ds := fos.map (rowT fs)) (by walk_at "mine n")) ?io9 ⟨_, rfl⟩ ?cap9 ?turn9 ?sz9 (fun b => ⟨b, rfl, by rw [thirdF_map]⟩))) EvL.nil) (BFn.fn (B.sorted as1 as2 (by rw [List.length_map]; (first | lia | omega))) ⟨rfl, rfl⟩))) .fz (Ev.uny Ev.int Uny.neg) (by rw [List.length_map, as1.length_eq, List.length_map, sizeLine_eq]; (first | lia | omega))) .fz Ev.int (by rw [List.length_reverse, List.length_map, as1.length_eq, List.length_map, sizeLine_eq]; (first | lia | omega))
    case io9 => exact ⟨rfl, by decide, allC (fun e => by cases e) (allC (fun e => by cases e) allN),
        allC (.inl ⟨by decide, rfl⟩) (allC (.inl ⟨by decide, rfl⟩) allN), (by decide : ([".0", "row"] : List Str).Nodup), allC ⟨rfl, rfl⟩ (allC ⟨rfl, rfl⟩ allN)⟩
    case cap9 =>
      rintro l ⟨q, rfl⟩
      exact allC (fun h => absurd h (by decide)) (allC (fun h => absurd h (by decide)) allN)
    case sz9 => rw [List.length_map, sizeLine_eq]; (first | lia | omega)
    case turn9 =>
      rintro cenv cc hcc ck' cn cg cb l d ⟨q, rfl⟩ hd
      obtain ⟨f, hf, rfl⟩ := List.mem_map.mp hd
      have kf : cenv.kindOf "row" = some .local := by unfold Env.kindOf; rw [cn]; rfl
      have er : rowT fs f = .tup [.str (pathS f), .int (sumT fs f), .int (checkT fs f), .int (countT fs f)] := rfl
      rw [er]
      exact ⟨[(".0", none), ("row", some (.tup [.str (pathS f), .int (sumT fs f), .int (checkT fs f), .int (countT fs f)]))], true, As.name (by walk_at "mine p") (by rw [kf]; decide), ⟨_, rfl⟩, rfl,
        fun _ => ⟨.int (checkT fs f), rfl, Ev.itemT (n := 2) (ds := [.str (pathS f), .int (sumT fs f), .int (checkT fs f), .int (countT fs f)]) (by walk_at "mine n") Ev.int (by (first | lia | omega)) (by (first | lia | omega)) rfl⟩, fun h => by cases h⟩
end
end
/-! W17 -/
section
set_option maxHeartbeats 2000000
/-- what the plain law must say of a list of files -/
structure PlainLaw (fs : List FileD) (len : FileD → Nat) (fos : List (List Str)) : Prop where
  fsl : fs.length ≤ 20
  ok : ∀ f ∈ fs, PathOk (len f) f
  ngood : ∀ x ∈ (tabOf fs len).names, ∃ s, PGood s ∧ x = pathS s
  nnd : (tabOf fs len).names.Nodup
  n3 : 3 < (tabOf fs len).names.length
  n60 : (tabOf fs len).names.length ≤ 60
  st3 : ∀ f ∈ fs, f.steps.length ≤ 3
  fold : ∀ i, (foldersOf (fs.take i)).length ≤ 1 + 3 * i
  fgood : ∀ s ∈ foldersOf fs, PGood s
  f60 : (foldersOf fs).length ≤ 60
  f2 : 2 ≤ (foldersOf fs).length
  ap : ((foldersOf fs).map (foundD fs)).Pairwise fun d e => rowLt d e = true ∨ rowLt e d = true
  perm : fos.Perm (foldersOf fs)
  ord : (fos.map (foundD fs)).Pairwise fun d e => rowLt d e = true
  same : ∀ xs : List Str, xs.Perm (tabOf fs len).names → xs.Pairwise (fun x y => pairLt (-(sumOf (tabOf fs len) x)) x (-(sumOf (tabOf fs len) y)) y = true) → runRes (tabOf fs len) (withinOf fs) xs = toldRes fs fos
theorem toldRes_pln (fs : List FileD) (fos : List (List Str)) : Pln 4 (toldRes fs fos) := by
  refine .tup (allC (.lst fun d hd => ?_) (allC (.lst fun d hd => ?_) (allC (.lst fun d hd => ?_) allN)))
  · obtain ⟨f, _, rfl⟩ := List.mem_map.mp hd
    exact .tup (allC (.str _) (allC (.int _) (allC (.int _) (allC (.int _) allN))))
  · obtain ⟨f, _, rfl⟩ := List.mem_map.mp hd
    exact .str _
  · obtain ⟨f, _, rfl⟩ := List.mem_map.mp hd
    exact .int _
section
variable {w : World} {k : Nat} {cells : Cls}
theorem F.law_run' {fs : List FileD} {len : FileD → Nat} {fos : List (List Str)} (P : PlainLaw fs len fos) : Fn w (k + 8) (.ref 199) [.lst (fs.map FileD.d)] cells (fun r c => r = toldRes fs fos ∧ c = cells) :=
  Fn.mono (Fn.ofT (F.law_run len (Nat.le_trans P.fsl (by decide)) P.ok P.ngood P.nnd P.n3 P.n60)) fun _ _ ⟨⟨xs, h1, h2, e⟩, hc⟩ => ⟨e.trans (P.same xs h1 h2), hc⟩
theorem F.law_told' {fs : List FileD} {len : FileD → Nat} {fos : List (List Str)} (P : PlainLaw fs len fos) : Fn w (k + 4) (.ref 211) [.lst (fs.map FileD.d)] cells (fun r c => r = toldRes fs fos ∧ c = cells) :=
  F.law_told P.fsl P.st3 P.fold P.fgood P.f60 P.f2 P.ap P.perm P.ord
theorem ints_rep {g : Heap} : ∀ {vs : List Value} {ns : List Int}, IntsAre vs ns → RepAll g vs (ns.map .int)
  | _, _, .nil => .nil
  | _, _, .cons _ _ h => .cons (.int _ _) (ints_rep h)
/-- the last step: the law's body, called by the claim -/
theorem lawEnd {s₁ : Shared} {h₁ : Heap} {name : Str} {scope : Scope} {body : List Stmt} {fa : Addr} {code : Value} {l : Addr} {vs : List Value} {ns : List Int} {p : Program} {loose : List Str} {mean : ExcName → Option Value} {mg mb m : Str → Option Value}
    (T : Top p loose mean mg mb s₁.heap) (KX : (KF w).In s₁.heap) (F : Fr s₁.heap s₁.heap.objs.size h₁ m) (hL : s₁.heap.IsList l vs.toArray) (hI : IntsAre vs ns)
    (hm1 : m "script" = some (.ref l)) (hm2 : m "files" = none) (hsc : scope.kind = .function) (hnd : (scope.names.map (·.1)).Nodup) (hl1 : scope.names.lookup ("script" : Str) = some .local) (hl2 : scope.names.lookup ("files" : Str) = some .local)
    (hncell : (scope.names.all fun p => p.2 != .cell) = true)
    (hb : ∀ env, env.scope = scope → env.globals = mainGlobals → env.builtins = builtinsNs → Exs w env 12 [("script", some (.lst (ns.map .int))), ("files", none)] [] body (Ends [] (fun r c => r = .bool true ∧ c = [])))
    {Q : Flow → Shared → Prop} {E : Value → Shared → Prop} {s : Shared} (hsh : s.heap = h₁) (hQ : ∀ h' tk' m', Fr s₁.heap s₁.heap.objs.size h' m' → Q (.ret (.bool true)) { s with heap := h', toks := tk' }) :
    wpAny (model PR w) (callerA.deeper (envOf name scope s₁.heap.objs.size fa code)) (execs body (envOf name scope s₁.heap.objs.size fa code)) Q E s := by
  subst hsh
  have S : Stat w s₁.heap := ⟨KX, ⟨mg, mb, T.g, T.b, T.builtins⟩, T.nolimit, T.nodigits⟩
  generalize he : envOf name scope s₁.heap.objs.size fa code = env
  have es : env.scope = scope := by rw [← he]; rfl
  have eg : env.globals = mainGlobals := by rw [← he]; rfl
  have eb : env.builtins = builtinsNs := by rw [← he]; rfl
  have el : env.locals = s₁.heap.objs.size := by rw [← he]; rfl
  have kf : ∀ x, env.kindOf x = scope.names.lookup x := fun x => by unfold Env.kindOf; rw [es]
  have nocell : ∀ x c, ¬ CellAt env x c := fun x c h => by
    have h1 := h.1
    rw [kf] at h1
    have : ∀ l : List (Str × NameKind), (l.all fun p => p.2 != .cell) = true → l.lookup x ≠ some .cell := by
      intro l
      induction l with
      | nil => intro _ q; cases q
      | cons p l ih =>
        obtain ⟨y, kd⟩ := p
        intro ha q
        rw [List.all_cons, Bool.and_eq_true] at ha
        rw [List.lookup_cons] at q
        split at q
        · cases q
          exact absurd ha.1 (by show ¬ ((NameKind.cell != NameKind.cell) = true); decide)
        · exact ih ha.2 q
    exact this _ hncell h1
  have d1 : (("script" : Str) == ("__debug__" : Str)) = false := by decide
  have d2 : (("script" : Str) == ("__classdict__" : Str)) = false := by decide
  have d3 : (("files" : Str) == ("__debug__" : Str)) = false := by decide
  have d4 : (("files" : Str) == ("__classdict__" : Str)) = false := by decide
  have d5 : ([("script" : Str), "files"]).Nodup := by decide
  have R : Rel w env s₁.heap s.heap [("script", some (.lst (ns.map .int))), ("files", none)] [] := by
    refine ⟨⟨F.keep, fun p hp => (by cases hp), List.nodup_nil⟩, ⟨es ▸ hsc, eg, eb, es ▸ hnd, allC ⟨d1, d2⟩ (allC ⟨d3, d4⟩ allN)⟩, ?_, ?_, ⟨m, el ▸ F.ns, allC ?_ (allC ?_ allN)⟩, fun x c h => (nocell x c h).elim, fun x y c h => (nocell x c h).elim, d5⟩
    · rw [el]
      cases e : s₁.heap.get? s₁.heap.objs.size with
      | none => rfl
      | some o => exact absurd (Heap.lt_size e) (Nat.lt_irrefl _)
    · exact fun h => by cases h
    · unfold VarIs
      rw [kf, hl1]
      show RepO s₁.heap (m "script") _
      rw [hm1]
      exact Rep.lst hL (ints_rep hI)
    · unfold VarIs
      rw [kf, hl2]
      show RepO s₁.heap (m "files") _
      rw [hm2]
      trivial
  have hA : Low 12 (callerA.deeper env) := by
    have : Low 13 callerA := ⟨rfl, by decide, by decide⟩
    exact this.deeper env
  refine wpAny_mono (hb env es eg eb (callerA.deeper env) s₁.heap hA S s₁.heap s (fun f s' => Q f s') (Le.refl _) R ?_) (fun _ _ x => x) (fun _ _ q => q.elim)
  rintro f g' h' tk' l' c' hg' R' ⟨fl, hf, hE⟩
  obtain ⟨m', hn, _⟩ := R'.ns
  have F' : Fr s₁.heap s₁.heap.objs.size h' m' := ⟨el ▸ hn, fun b o e => R'.c.sub b o (hg' b o e), Nat.le_refl _⟩
  cases fl with
  | next =>
    obtain ⟨ex, c0, _, _, e, _⟩ := hE
    cases e
  | brk => exact hE.elim
  | cont => exact hE.elim
  | ret d =>
    obtain ⟨ex, c0, _, _, rfl, _⟩ := hE
    cases f with
    | ret v =>
      have hv : Rep g' v (.bool true) := hf
      cases hv
      exact hQ h' tk' m' F'
    | next => exact hf.elim
    | brk => exact hf.elim
    | cont => exact hf.elim
end
end
/-! W18 -/
section
set_option maxHeartbeats 2000000
set_option maxHeartbeats 8000000 in
theorem fin (plain : ∀ ns, ∃ len fos, PlainLaw (filesOf ns) len fos) : PySem.Challenge.rw_ik0067_01.Holds := by
  refine hd rfl rfl rfl ?_
  intro w s₀ s₁ mg mb G Y fa o pm cd doc dV kV ho hd hcd hD hmg hg args vals as hpre hlay hrd hwl hlo
  have KX := kIn_of Y
  refine Ground.open G ?_
  intro T B D TE TW
  clear B D TE TW hmg
  wrow_args hpre hlay hrd hwl hlo
  all_goals (
    refine enter_call ?_
    w_top on
    refine codeAny_mono ?_ (fun _ _ g => GoodW.toG g)
    w_call any ho hd hcd hD T FF
    refine lawEnd T KX (by assumption) (by assumption) (by assumption) rfl rfl rfl (by decide) rfl rfl (by decide) ?hb rfl ?hQ
    case hb =>
      intro env hs hg hb
      obtain ⟨len, fos, P⟩ := plain _
      refine Exs.cons (Ex.assign (d := .lst ((filesOf _).map FileD.d)) (Ev.ofC (EvC.call (a := 194) (ds := [.lst (List.map .int _)]) (by walk_at "mine g") (by first | rfl | kernel_rfl) (EvL.cons (by walk_at "mine n") EvL.nil) (F.law_files (k := 10) ?len))) (by walk_at "mine p") (kNe hs (by decide)) ?_)
      case len => omega
      refine Exs.cons (Ex.ret (d := .bool true) (Ev.cmp (a := toldRes _ fos) (b := toldRes _ fos) (Ev.ofC (EvC.call (a := 199) (ds := [.lst ((filesOf _).map FileD.d)]) (by walk_at "mine g") (by first | rfl | kernel_rfl) (EvL.cons (by walk_at "mine n") EvL.nil) (F.law_run' (k := 4) P))) (Ev.ofC (EvC.call (a := 211) (ds := [.lst ((filesOf _).map FileD.d)]) (by walk_at "mine g") (by first | rfl | kernel_rfl) (EvL.cons (by walk_at "mine n") EvL.nil) (F.law_told' (k := 8) P))) (Cmp.eqD (toldRes_pln _ _) (by decide))) ⟨[], [], rfl, rfl, rfl, rfl⟩)
    case hQ =>
      intro h' tk' m' F'
      refine goodW_bool F' (by assumption) (fun _ => rfl) ?_
      with_unfolding_all rfl)
end
/-! P2 -/
section
set_option maxHeartbeats 2000000
/-! the plain law -/
noncomputable def fileSteps : List (List Str) := steps1 [[]] ++ steps1 (steps1 [[]]) ++ steps1 (steps1 (steps1 [[]]))
noncomputable def dirOkB (x : Str) : Bool :=
  (((Option.map (·.1) (Option.none : Option (Int × Tok))).getD 1 == 1 && (slicePicked x Option.none (Option.some (dirI x, 0)) Option.none).length == x.length) == false) &&
  (decide ((dirH x).length ≤ 900) && (decide ((if ((dirH x).length : Int) < 1 then Str.empty else if (((dirH x).length : Int) == 1 || ("/" : Str).length == 0) = true then ("/" : Str) else ⟨(List.replicate (dirH x).length ("/" : Str).cps).foldl (· ++ ·) #[]⟩ : Str).length ≤ 900) &&
  (decide (dirT x = true → stripSame ("/" : Str).cps.contains false true (dirH x) = false) && decide ((PySem.stripped ("/" : Str).cps.contains false true (dirH x)).length ≤ 900))))
theorem dirOk_of {x : Str} (h : dirOkB x = true) : DirOk x := by
  unfold dirOkB at h
  simp only [Bool.and_eq_true, decide_eq_true_eq] at h
  obtain ⟨h1, h2, h3, h4, h5⟩ := h
  exact ⟨by simpa using h1, h2, h3, h4, h5⟩
theorem fileChk : ∀ s ∈ fileSteps, ∀ i ∈ List.range 12, dirOkB (joinS "/" (s ++ [nameOf i])) = true ∧ dirS (joinS "/" (s ++ [nameOf i])) = pathS s := by decide +kernel
theorem foldChk : ∀ s ∈ fileSteps, dirOkB (pathS s) = true ∧ dirS (pathS s) = pathS s.dropLast := by decide +kernel
theorem good_steps : ∀ s ∈ fileSteps, PGood s := fun s hs => good_all s (by unfold allSteps; rw [List.append_assoc, List.append_assoc]; unfold fileSteps at hs; rw [List.append_assoc] at hs; exact List.mem_append_right _ hs)
theorem good_nil : PGood [] := good_all [] (by unfold allSteps; simp)
end
/-! P3 -/
section
set_option maxHeartbeats 2000000
/-! exclusive or, bit by bit -/
theorem or_xor_and : ∀ (n a b : Nat), a ≤ n → (a ||| b) = (a ^^^ b) + (a &&& b) := by
  intro n
  induction n with
  | zero =>
    intro a b h
    have : a = 0 := by (first | lia | omega)
    subst this
    simp
  | succ n ih =>
    intro a b h
    by_cases h0 : a = 0
    · subst h0; simp
    have i := ih (a / 2) (b / 2) (by (first | lia | omega))
    rw [← Nat.or_div_two, ← Nat.xor_div_two, ← Nat.and_div_two] at i
    have m1 := Nat.or_mod_two_eq_one (a := a) (b := b)
    have m2 := Nat.xor_mod_two_eq_one (a := a) (b := b)
    have m3 := Nat.and_mod_two_eq_one (a := a) (b := b)
    generalize (a ||| b) = x at *
    generalize (a ^^^ b) = y at *
    generalize (a &&& b) = z at *
    by_cases ha : a % 2 = 1 <;> by_cases hb : b % 2 = 1 <;> simp [ha, hb] at m1 m2 m3 <;> (first | lia | omega)
theorem xor_nat (a b : Nat) : Builtin.bitXor (a : Int) (b : Int) = ((a ^^^ b : Nat) : Int) := by
  have h := or_xor_and a a b (Nat.le_refl _)
  have n1 : ∀ c : Nat, decide (0 ≤ Builtin.bitNot (c : Int)) = false := fun c => decide_eq_false (by unfold Builtin.bitNot; (first | lia | omega))
  have n2 : ∀ c : Nat, (Builtin.bitNot (Builtin.bitNot (c : Int))).toNat = c := fun c => by unfold Builtin.bitNot; (first | lia | omega)
  have p1 : ∀ c : Nat, decide (0 ≤ (c : Int)) = true := fun c => decide_eq_true (by (first | lia | omega))
  have o : Builtin.bitOr (a : Int) (b : Int) = ((a ||| b : Nat) : Int) := by
    unfold Builtin.bitOr Builtin.bitAnd
    rw [n1, n1]
    dsimp only
    rw [n2, n2]
    unfold Builtin.bitNot
    (first | lia | omega)
  have d : Builtin.bitAnd (a : Int) (b : Int) = ((a &&& b : Nat) : Int) := by
    unfold Builtin.bitAnd
    rw [p1, p1]
    dsimp only
    rw [Int.toNat_natCast, Int.toNat_natCast]
  unfold Builtin.bitXor
  rw [o, d]
  (first | lia | omega)
theorem xor_bit (a b j : Nat) : (a ^^^ b) / 2 ^ j % 2 = (a / 2 ^ j % 2 + b / 2 ^ j % 2) % 2 := by
  have h := Nat.testBit_xor a b j
  rw [Nat.testBit_eq_decide_div_mod_eq, Nat.testBit_eq_decide_div_mod_eq, Nat.testBit_eq_decide_div_mod_eq] at h
  rcases Nat.mod_two_eq_zero_or_one ((a ^^^ b) / 2 ^ j) with e | e <;> rcases Nat.mod_two_eq_zero_or_one (a / 2 ^ j) with ea | ea <;> rcases Nat.mod_two_eq_zero_or_one (b / 2 ^ j) with eb | eb <;> rw [e, ea, eb] at h <;> rw [e, ea, eb] <;> first | rfl | (exact absurd h (by decide))
noncomputable def xorN (ns : List Nat) (a : Nat) : Nat := ns.foldl (fun x y => x ^^^ y) a
theorem xorN_int : ∀ (ns : List Nat) (a : Nat), (ns.map fun (n : Nat) => (n : Int)).foldl Builtin.bitXor (a : Int) = (xorN ns a : Nat)
  | [], a => rfl
  | n :: ns, a => by
    rw [List.map_cons, List.foldl_cons, xor_nat, xorN_int ns]
    rfl
theorem xorN_lt : ∀ (ns : List Nat) (a : Nat), a < 2 ^ 10 → (∀ n ∈ ns, n < 2 ^ 10) → xorN ns a < 2 ^ 10
  | [], a, h, _ => h
  | n :: ns, a, h, hn => xorN_lt ns (a ^^^ n) (Nat.xor_lt_two_pow h (hn n (.head _))) fun m hm => hn m (.tail _ hm)
theorem xorN_bit (j : Nat) : ∀ (ns : List Nat) (a : Nat), xorN ns a / 2 ^ j % 2 = (a / 2 ^ j % 2 + (ns.map fun n => n / 2 ^ j % 2).sum) % 2
  | [], a => by simp [xorN]
  | n :: ns, a => by
    have := xorN_bit j ns (a ^^^ n)
    rw [xor_bit] at this
    rw [List.map_cons, List.sum_cons]
    show xorN ns (a ^^^ n) / 2 ^ j % 2 = _
    rw [this]
    (first | lia | omega)
theorem bits10' : ∀ x, x < 1024 → x = ((List.range 10).map fun j => 2 ^ j * (x / 2 ^ j % 2)).sum := by decide +kernel
theorem bits10 (x : Nat) (h : x < 2 ^ 10) : x = ((List.range 10).map fun j => 2 ^ j * (x / 2 ^ j % 2)).sum := bits10' x h
theorem sum_cast : ∀ l : List Nat, (l.map fun (n : Nat) => (n : Int)).sum = ((l.sum : Nat) : Int)
  | [] => rfl
  | n :: l => by rw [List.map_cons, List.sum_cons, List.sum_cons, sum_cast l]; (first | lia | omega)
theorem bitT_nat (ns : List Nat) (j : Nat) : bitT (ns.map fun (n : Nat) => (n : Int)) j = ((2 ^ j * ((ns.map fun n => n / 2 ^ j % 2).sum % 2) : Nat) : Int) := by
  unfold bitT
  rw [List.map_map]
  have e : ((fun (z : Int) => (z.fdiv (2 ^ j)).fmod 2) ∘ fun (n : Nat) => (n : Int)) = fun (n : Nat) => ((n / 2 ^ j % 2 : Nat) : Int) := by
    funext n
    show (((n : Int)).fdiv (2 ^ j)).fmod 2 = _
    rw [Int.fdiv_eq_ediv_of_nonneg _ (Int.pow_nonneg (by decide)), Int.fmod_eq_emod_of_nonneg _ (by decide), Int.natCast_emod, Int.natCast_ediv, Int.natCast_pow]
    rfl
  rw [e]
  have e2 : (ns.map fun (n : Nat) => ((n / 2 ^ j % 2 : Nat) : Int)) = ((ns.map fun n => n / 2 ^ j % 2).map fun (n : Nat) => (n : Int)) := by rw [List.map_map]; rfl
  rw [e2, sum_cast, Int.fmod_eq_emod_of_nonneg _ (by decide), Int.natCast_mul, Int.natCast_emod, Int.natCast_pow]
  rfl
/-- the bits' parities put together are the exclusive or -/
theorem check_xor (zs : List Int) (h : ∀ z ∈ zs, 0 ≤ z ∧ z < 1000) : zs.foldl Builtin.bitXor 0 = ((List.range 10).map (bitT zs)).sum := by
  have ez : zs = (zs.map Int.toNat).map fun (n : Nat) => (n : Int) := by
    rw [List.map_map]
    have : zs.map ((fun n : Nat => (n : Int)) ∘ Int.toNat) = zs.map id := List.map_congr_left fun z hz => Int.toNat_of_nonneg (h z hz).1
    rw [this, List.map_id]
  have hn : ∀ n ∈ zs.map Int.toNat, n < 2 ^ 10 := fun n hn => by
    obtain ⟨z, hz, rfl⟩ := List.mem_map.mp hn
    have := h z hz
    show z.toNat < 1024
    (first | lia | omega)
  generalize zs.map Int.toNat = ns at ez hn
  subst ez
  have h1 := xorN_int ns 0
  have h2 := bits10 _ (xorN_lt ns 0 (by decide) hn)
  have h3 : ((List.range 10).map fun j => 2 ^ j * (xorN ns 0 / 2 ^ j % 2)) = (List.range 10).map fun j => 2 ^ j * ((ns.map fun n => n / 2 ^ j % 2).sum % 2) := by
    refine List.map_congr_left fun j _ => ?_
    rw [xorN_bit]
    simp
  rw [h3] at h2
  have h4 : (List.range 10).map (bitT (ns.map fun (n : Nat) => (n : Int))) = ((List.range 10).map fun j => 2 ^ j * ((ns.map fun n => n / 2 ^ j % 2).sum % 2)).map fun (n : Nat) => (n : Int) := by
    rw [List.map_map]
    exact List.map_congr_left fun j _ => bitT_nat ns j
  rw [h4, sum_cast, ← h2]
  exact h1
end
/-! P4 -/
section
set_option maxHeartbeats 2000000
/-! the files' steps, the chains of their folders -/
theorem pathS_nil : pathS [] = "/" := by decide
theorem stepOf_path {s : List Str} (g : PGood s) : stepOf (pathS s) = s := g.parts
theorem path_inj {s t : List Str} (g : PGood s) (g' : PGood t) (e : pathS s = pathS t) : s = t := by rw [← stepOf_path g, ← stepOf_path g', e]
theorem menuPick : ∀ a ∈ List.range 3, ∀ b ∈ List.range 3, ∀ c ∈ List.range 3, [menu.getD a Str.empty] ∈ fileSteps ∧ [menu.getD a Str.empty, menu.getD b Str.empty] ∈ fileSteps ∧ [menu.getD a Str.empty, menu.getD b Str.empty, menu.getD c Str.empty] ∈ fileSteps := by decide +kernel
theorem stepsOf_mem (x : Int) : stepsOf x ∈ fileSteps := by
  have hp : ∀ j, ((x.fdiv (3 ^ (j + 1))).fmod 3).toNat ∈ List.range 3 := fun j => by
    have := fmod3 (x.fdiv (3 ^ (j + 1)))
    rw [List.mem_range]
    (first | lia | omega)
  obtain ⟨h1, h2, h3⟩ := menuPick _ (hp 0) _ (hp 1) _ (hp 2)
  have hm := fmod3 x
  unfold stepsOf
  have : (1 + x.fmod 3).toNat = 1 ∨ (1 + x.fmod 3).toNat = 2 ∨ (1 + x.fmod 3).toNat = 3 := by (first | lia | omega)
  rcases this with e | e | e <;> rw [e]
  · exact h1
  · exact h2
  · exact h3
theorem steps_pos : ∀ s ∈ fileSteps, 1 ≤ s.length ∧ s.length ≤ 3 ∧ ∀ c ∈ s, c.length ≤ 10 := by decide +kernel
theorem steps_cut : ∀ s ∈ fileSteps, s.dropLast ∈ fileSteps ∨ s.dropLast = [] := by decide +kernel
theorem root_dir : dirS "/" = "/" := by decide +kernel
/-- the lists of steps above one -/
noncomputable def lows : Nat → List Str → List (List Str)
  | 0, _ => []
  | n + 1, s => s.dropLast :: lows n s.dropLast
noncomputable def Fold (s : List Str) : Prop := s ∈ fileSteps ∨ s = []
theorem Fold.good {s : List Str} (h : Fold s) : PGood s := by
  rcases h with h | rfl
  · exact good_steps s h
  · exact good_nil
theorem Fold.cut {s : List Str} (h : Fold s) : Fold s.dropLast := by
  rcases h with h | rfl
  · exact steps_cut s h
  · exact .inr rfl
theorem Fold.dir {s : List Str} (h : Fold s) : dirS (pathS s) = pathS s.dropLast := by
  rcases h with h | rfl
  · exact (foldChk s h).2
  · show dirS (pathS []) = pathS []
    rw [pathS_nil, root_dir]
theorem Fold.take {s : List Str} (h : Fold s) : ∀ j, Fold (s.take j) := by
  have : ∀ d, Fold (s.take (s.length - d)) := by
    intro d
    induction d with
    | zero => rw [Nat.sub_zero, List.take_length]; exact h
    | succ d ih =>
      have := ih.cut
      rw [List.dropLast_eq_take, List.take_take, List.length_take] at this
      have e : min (min (s.length - d) s.length - 1) (s.length - d) = s.length - (d + 1) := by rw [Nat.min_eq_left (Nat.sub_le _ d), Nat.min_eq_left (Nat.sub_le _ 1), Nat.sub_sub]
      rw [e] at this
      exact this
  intro j
  by_cases hj : j ≤ s.length
  · have := this (s.length - j)
    have e : s.length - (s.length - j) = j := by (first | lia | omega)
    rw [e] at this
    exact this
  · rw [List.take_of_length_le (by (first | lia | omega))]; exact h
theorem chain_path : ∀ (k : Nat) (s : List Str), Fold s → s.length = k → chain k (pathS s) = (lows k s).map pathS
  | 0, _, _, _ => rfl
  | k + 1, s, h, hk => by
    have ne : pathS s ≠ "/" := fun e => by
      have := path_inj h.good good_nil (e.trans pathS_nil.symm)
      subst this
      cases hk
    unfold chain lows
    rw [if_neg ne, h.dir, List.map_cons, chain_path k _ h.cut (by rw [List.length_dropLast, hk]; rfl)]
noncomputable def FileOk (f : FileD) : Prop := f.steps ∈ fileSteps ∧ (∃ i ∈ List.range 12, f.name = nameOf i) ∧ 0 ≤ f.size ∧ f.size < 1000
noncomputable def pres (s : List Str) : List (List Str) := s :: lows s.length s
noncomputable def flen (f : FileD) : Nat := f.steps.length + 1
theorem FileOk.dir {f : FileD} (h : FileOk f) : dirOkB f.path = true ∧ dirS f.path = pathS f.steps := by
  obtain ⟨h1, ⟨i, hi, e⟩, _⟩ := h
  have := fileChk f.steps h1 i hi
  unfold FileD.path
  rw [e]
  exact this
theorem FileOk.ne {f : FileD} (h : FileOk f) : f.path ≠ "/" := fun e => by
  have h1 := h.dir.2
  rw [e, root_dir, ← pathS_nil] at h1
  have := path_inj good_nil (good_steps _ h.1) h1
  have := (steps_pos _ h.1).1
  rw [← ‹[] = f.steps›] at this
  cases this
theorem FileOk.chain {f : FileD} (h : FileOk f) : Mine.chain (flen f) f.path = (pres f.steps).map pathS := by
  unfold flen Mine.chain pres
  rw [if_neg h.ne, h.dir.2, List.map_cons, chain_path _ _ (.inl h.1) rfl]
theorem iter_fold : ∀ (n : Nat) (s : List Str), Fold s → ∃ t, Fold t ∧ iterDir n (pathS s) = pathS t ∧ t = s.take (s.length - n)
  | 0, s, h => ⟨s, h, rfl, by rw [Nat.sub_zero, List.take_length]⟩
  | n + 1, s, h => by
    obtain ⟨t, h1, h2, h3⟩ := iter_fold n s.dropLast h.cut
    refine ⟨t, h1, ?_, ?_⟩
    · show iterDir n (dirS (pathS s)) = _
      rw [h.dir, h2]
    · rw [h3, List.dropLast_eq_take, List.take_take, List.length_take]
      rw [Nat.min_eq_left (Nat.sub_le s.length 1), Nat.min_eq_left (Nat.sub_le _ n), Nat.sub_sub, Nat.add_comm 1 n]
theorem joinStep_len (a b : Str) : (joinStep a b).length ≤ a.length + b.length + 1 := by
  have ap : ∀ x y : Str, (x ++ y).length = x.length + y.length := fun x y => by show (x.cps ++ y.cps).size = _; exact Array.size_append
  have one : ("/" : Str).length = 1 := by decide
  unfold joinStep
  split
  · (first | lia | omega)
  · split
    · rw [ap]; (first | lia | omega)
    · rw [ap, ap, one]; (first | lia | omega)
theorem joinS_len : ∀ (ps : List Str) (a : Str), (∀ p ∈ ps, p.length ≤ 10) → (joinS a ps).length ≤ a.length + 11 * ps.length
  | [], a, _ => Nat.le_add_right _ _
  | p :: ps, a, h => by
    have h1 := joinS_len ps (joinStep a p) fun q hq => h q (.tail _ hq)
    have h2 := joinStep_len a p
    have h3 := h p (.head _)
    have h4 : joinS a (p :: ps) = joinS (joinStep a p) ps := rfl
    rw [h4, List.length_cons]
    (first | lia | omega)
theorem FileOk.ok {f : FileD} (h : FileOk f) : PathOk (flen f) f := by
  obtain ⟨i, hi, e⟩ := h.2.1
  have sp := steps_pos _ h.1
  have l10 : ∀ p ∈ f.steps ++ [f.name], p.length ≤ 10 := fun p hp => by
    rcases List.mem_append.mp hp with hp | hp
    · exact sp.2.2 p hp
    · rw [List.mem_singleton.mp hp, e]; exact nameOf_len i (List.mem_range.mp hi)
  have ll : (f.steps ++ [f.name]).length = f.steps.length + 1 := by simp
  have chn : ∀ n, iterDir (n + 1) f.path = iterDir n (pathS f.steps) := fun n => by show iterDir n (dirS f.path) = _; rw [h.dir.2]
  refine ⟨⟨by rw [ll]; (first | lia | omega), fun j hj => ?_, fun p hp => Nat.le_trans (l10 p hp) (by decide)⟩, dirOk_of h.dir.1, fun n hn => ?_, ?_, ?_⟩
  · have := joinS_len ((f.steps ++ [f.name]).take j) "/" fun p hp => l10 p (List.mem_of_mem_take hp)
    have one : ("/" : Str).length = 1 := by decide
    rw [List.length_take] at this
    (first | lia | omega)
  · cases n with
    | zero => exact dirOk_of h.dir.1
    | succ n =>
      rw [chn] at hn ⊢
      obtain ⟨t, ht, e1, _⟩ := iter_fold n f.steps (.inl h.1)
      rw [e1] at hn ⊢
      rcases ht with ht | ht
      · exact dirOk_of (foldChk t ht).1
      · rw [ht, pathS_nil] at hn; exact absurd rfl hn
  · unfold flen
    rw [chn]
    obtain ⟨t, _, e1, e2⟩ := iter_fold f.steps.length f.steps (.inl h.1)
    rw [e1, e2, Nat.sub_self, List.take_zero, pathS_nil]
  · unfold flen; (first | lia | omega)
theorem mem_lows : ∀ (k : Nat) (s t : List Str), s.length = k → (t ∈ lows k s ↔ ∃ j, j < k ∧ t = s.take j)
  | 0, s, t, _ => by simp [lows]
  | k + 1, s, t, hk => by
    have hd : s.dropLast = s.take k := by rw [List.dropLast_eq_take, hk]; rfl
    have hl : s.dropLast.length = k := by rw [List.length_dropLast, hk]; rfl
    unfold lows
    rw [List.mem_cons, mem_lows k _ t hl]
    constructor
    · rintro (rfl | ⟨j, hj, rfl⟩)
      · exact ⟨k, by (first | lia | omega), hd⟩
      · refine ⟨j, by (first | lia | omega), ?_⟩
        rw [hd, List.take_take]
        congr 1
        (first | lia | omega)
    · rintro ⟨j, hj, rfl⟩
      by_cases e : j = k
      · subst e; exact .inl hd.symm
      · refine .inr ⟨j, by (first | lia | omega), ?_⟩
        rw [hd, List.take_take]
        congr 1
        (first | lia | omega)
theorem mem_pres {s t : List Str} : t ∈ pres s ↔ s.take t.length = t := by
  unfold pres
  rw [List.mem_cons, mem_lows _ _ _ rfl]
  constructor
  · rintro (rfl | ⟨j, hj, rfl⟩)
    · exact List.take_length
    · rw [List.length_take]
      congr 1
      (first | lia | omega)
  · intro h
    by_cases e : t.length < s.length
    · exact .inr ⟨_, e, h.symm⟩
    · rw [List.take_of_length_le (by (first | lia | omega))] at h
      exact .inl h.symm
theorem lows_len : ∀ (k : Nat) (s t : List Str), s.length = k → t ∈ lows k s → t.length < k := fun k s t hk h => by
  obtain ⟨j, hj, rfl⟩ := (mem_lows k s t hk).mp h
  rw [List.length_take]
  (first | lia | omega)
theorem lows_nd : ∀ (k : Nat) (s : List Str), s.length = k → (lows k s).Nodup
  | 0, _, _ => List.nodup_nil
  | k + 1, s, hk => by
    have hl : s.dropLast.length = k := by rw [List.length_dropLast, hk]; rfl
    refine List.nodup_cons.mpr ⟨fun h => ?_, lows_nd k _ hl⟩
    have := lows_len k _ _ hl h
    (first | lia | omega)
theorem pres_nd (s : List Str) : (pres s).Nodup := List.nodup_cons.mpr ⟨fun h => absurd (lows_len _ _ _ rfl h) (Nat.lt_irrefl _), lows_nd _ _ rfl⟩
theorem pres_fold {s t : List Str} (h : Fold s) (ht : t ∈ pres s) : Fold t := by
  have := mem_pres.mp ht
  rw [← this]
  exact h.take _
theorem nd_path {l : List (List Str)} (hg : ∀ s ∈ l, PGood s) (nd : l.Nodup) : (l.map pathS).Nodup := by
  refine List.pairwise_map.mpr (List.Pairwise.imp_of_mem (fun {a b} ha hb ne e => ne (path_inj (hg a ha) (hg b hb) e)) nd)
end
/-! P5 -/
section
set_option maxHeartbeats 2000000
/-! the table that the files lay up -/
theorem iget_iput : ∀ (ks : List Str) (ds : List Int) (y : Str) (e : Int) (x : Str), ks.length = ds.length →
    iget (if ks.contains y then ks else ks ++ [y]) (iput ks ds y e) x = if x = y then some e else iget ks ds x
  | [], [], y, e, x, _ => by
    show iget [y] [e] x = _
    unfold iget
    by_cases q : x = y
    · rw [if_pos q, if_pos q.symm]
    · rw [if_neg q, if_neg fun r => q r.symm]
      rfl
  | k :: ks, d :: ds, y, e, x, h => by
    have ih := iget_iput ks ds y e x (by simpa using h)
    by_cases q : k = y
    · subst q
      rw [if_pos (by simp)]
      unfold iput
      rw [if_pos rfl]
      by_cases r : x = k
      · subst r; rw [if_pos rfl]; unfold iget; rw [if_pos rfl]
      · rw [if_neg r]; unfold iget; rw [if_neg fun a => r a.symm, if_neg fun a => r a.symm]
    · have hc : (k :: ks).contains y = ks.contains y := by
        rw [List.contains_cons]
        have : (y == k) = false := by simpa using fun e => q e.symm
        rw [this, Bool.false_or]
      have hk : (if (k :: ks).contains y = true then k :: ks else k :: ks ++ [y]) = k :: (if ks.contains y = true then ks else ks ++ [y]) := by
        rw [hc]; split <;> rfl
      rw [hk]
      unfold iput
      rw [if_neg q]
      by_cases r : k = x
      · subst r
        rw [if_neg q]
        unfold iget
        rw [if_pos rfl, if_pos rfl]
      · have e1 : ∀ l m (u : Int), iget (k :: l) (u :: m) x = iget l m x := fun l m u => by
          conv => lhs; unfold iget
          rw [if_neg r]
        rw [e1, e1, ih]
theorem step_sum {T : Tab} (h : T.Wf) (y : Str) (z : Int) (x : Str) : sumOf (T.step y z) x = sumOf T x + if x = y then z else 0 := by
  unfold sumOf Tab.step
  dsimp only
  rw [iget_iput _ _ _ _ _ h.1]
  by_cases q : x = y
  · subst q; rw [if_pos rfl, if_pos rfl]; rfl
  · rw [if_neg q, if_neg q, Int.add_zero]
theorem step_ck {T : Tab} (h : T.Wf) (y : Str) (z : Int) (x : Str) : ckOf (T.step y z) x = if x = y then Builtin.bitXor (ckOf T x) z else ckOf T x := by
  unfold ckOf Tab.step
  dsimp only
  rw [iget_iput _ _ _ _ _ h.2]
  by_cases q : x = y
  · subst q; rw [if_pos rfl, if_pos rfl]; rfl
  · rw [if_neg q, if_neg q]
theorem step_mem {T : Tab} (y : Str) (z : Int) (x : Str) : x ∈ (T.step y z).names ↔ x ∈ T.names ∨ x = y := by
  unfold Tab.step
  dsimp only
  split
  · rename_i hc
    rw [List.contains_iff_mem] at hc
    constructor
    · exact .inl
    · rintro (h | rfl)
      · exact h
      · exact hc
  · rw [List.mem_append, List.mem_singleton]
theorem step_nd {T : Tab} (h : T.names.Nodup) (y : Str) (z : Int) : (T.step y z).names.Nodup := by
  unfold Tab.step
  dsimp only
  split
  · exact h
  · rename_i hc
    rw [List.contains_iff_mem] at hc
    exact List.nodup_append.mpr ⟨h, by simp, fun a ha b hb e => hc (by rw [List.mem_singleton.mp hb] at e; exact e ▸ ha)⟩
theorem steps_sum (z : Int) (x : Str) : ∀ (xs : List Str) (T : Tab), T.Wf → xs.Nodup → sumOf (T.steps xs z) x = sumOf T x + if x ∈ xs then z else 0
  | [], T, _, _ => by
    rw [if_neg (by simp), Int.add_zero]
    rfl
  | y :: ys, T, h, nd => by
    have nd' := List.nodup_cons.mp nd
    show sumOf ((T.step y z).steps ys z) x = _
    rw [steps_sum z x ys _ (h.step y z) nd'.2, step_sum h]
    by_cases q : x = y
    · subst q
      rw [if_pos rfl, if_neg nd'.1, if_pos (.head _)]
      (first | lia | omega)
    · rw [if_neg q]
      by_cases r : x ∈ ys
      · rw [if_pos r, if_pos (.tail _ r)]; (first | lia | omega)
      · rw [if_neg r, if_neg (by simp [q, r])]; (first | lia | omega)
theorem steps_ck (z : Int) (x : Str) : ∀ (xs : List Str) (T : Tab), T.Wf → xs.Nodup → ckOf (T.steps xs z) x = if x ∈ xs then Builtin.bitXor (ckOf T x) z else ckOf T x
  | [], T, _, _ => by
    rw [if_neg (by simp)]
    rfl
  | y :: ys, T, h, nd => by
    have nd' := List.nodup_cons.mp nd
    show ckOf ((T.step y z).steps ys z) x = _
    rw [steps_ck z x ys _ (h.step y z) nd'.2, step_ck h]
    by_cases q : x = y
    · subst q
      rw [if_neg nd'.1, if_pos rfl, if_pos (.head _)]
    · rw [if_neg q]
      by_cases r : x ∈ ys
      · rw [if_pos r, if_pos (.tail _ r)]
      · rw [if_neg r, if_neg (by simp [q, r])]
theorem steps_mem (z : Int) (x : Str) : ∀ (xs : List Str) (T : Tab), x ∈ (T.steps xs z).names ↔ x ∈ T.names ∨ x ∈ xs
  | [], T => by
    constructor
    · exact .inl
    · rintro (h | h)
      · exact h
      · cases h
  | y :: ys, T => by
    show x ∈ ((T.step y z).steps ys z).names ↔ _
    rw [steps_mem z x ys, step_mem, List.mem_cons, or_assoc]
theorem steps_nd (z : Int) : ∀ (xs : List Str) (T : Tab), T.names.Nodup → (T.steps xs z).names.Nodup
  | [], _, h => h
  | y :: ys, _, h => steps_nd z ys _ (step_nd h y z)
noncomputable def layUp (fs : List FileD) (T : Tab) : Tab := fs.foldl (fun T f => T.steps (chain (flen f) f.path) f.size) T
theorem tabOf_lay (fs : List FileD) : tabOf fs flen = layUp fs ⟨[], [], []⟩ := rfl
/-- the sizes of the files under a folder -/
theorem in_chain {f : FileD} (h : FileOk f) {fo : List Str} (hf : Fold fo) : pathS fo ∈ chain (flen f) f.path ↔ f.steps.take fo.length = fo := by
  rw [h.chain, List.mem_map, ← mem_pres]
  constructor
  · rintro ⟨t, ht, e⟩
    have := path_inj (pres_fold (.inl h.1) ht).good hf.good e
    exact this ▸ ht
  · exact fun h => ⟨fo, h, rfl⟩
theorem chain_nd {f : FileD} (h : FileOk f) : (chain (flen f) f.path).Nodup := by
  rw [h.chain]
  exact nd_path (fun s hs => (pres_fold (.inl h.1) hs).good) (pres_nd _)
theorem lay_sum {fo : List Str} (hf : Fold fo) : ∀ (fs : List FileD) (T : Tab), (∀ f ∈ fs, FileOk f) → T.Wf → sumOf (layUp fs T) (pathS fo) = sumOf T (pathS fo) + (sizesOf fs fo).sum
  | [], T, _, _ => by
    show sumOf T _ = _ + 0
    rw [Int.add_zero]
  | f :: fs, T, hok, h => by
    have ok := hok f (.head _)
    show sumOf (layUp fs (T.steps (chain (flen f) f.path) f.size)) _ = _
    rw [lay_sum hf fs _ (fun g hg => hok g (.tail _ hg)) h.steps, steps_sum _ _ _ _ h (chain_nd ok)]
    have e : (f.steps.take fo.length == fo) = decide (pathS fo ∈ chain (flen f) f.path) := by
      rw [Bool.eq_iff_iff, beq_iff_eq, decide_eq_true_eq, in_chain ok hf]
    unfold sizesOf
    rw [List.filter_cons, e]
    by_cases q : pathS fo ∈ chain (flen f) f.path
    · rw [if_pos q, decide_eq_true q, if_pos rfl, List.map_cons, List.sum_cons]; (first | lia | omega)
    · rw [if_neg q, decide_eq_false q, if_neg (by decide)]; (first | lia | omega)
theorem lay_ck {fo : List Str} (hf : Fold fo) : ∀ (fs : List FileD) (T : Tab), (∀ f ∈ fs, FileOk f) → T.Wf → ckOf (layUp fs T) (pathS fo) = (sizesOf fs fo).foldl Builtin.bitXor (ckOf T (pathS fo))
  | [], T, _, _ => rfl
  | f :: fs, T, hok, h => by
    have ok := hok f (.head _)
    show ckOf (layUp fs (T.steps (chain (flen f) f.path) f.size)) _ = _
    rw [lay_ck hf fs _ (fun g hg => hok g (.tail _ hg)) h.steps, steps_ck _ _ _ _ h (chain_nd ok)]
    have e : (f.steps.take fo.length == fo) = decide (pathS fo ∈ chain (flen f) f.path) := by
      rw [Bool.eq_iff_iff, beq_iff_eq, decide_eq_true_eq, in_chain ok hf]
    unfold sizesOf
    rw [List.filter_cons, e]
    by_cases q : pathS fo ∈ chain (flen f) f.path
    · rw [if_pos q, decide_eq_true q, if_pos rfl, List.map_cons, List.foldl_cons]
    · rw [if_neg q, decide_eq_false q, if_neg (by decide)]
theorem lay_mem (x : Str) : ∀ (fs : List FileD) (T : Tab), x ∈ (layUp fs T).names ↔ x ∈ T.names ∨ ∃ f ∈ fs, x ∈ chain (flen f) f.path
  | [], T => by
    constructor
    · exact .inl
    · rintro (h | ⟨f, hf, _⟩)
      · exact h
      · cases hf
  | f :: fs, T => by
    show x ∈ (layUp fs (T.steps (chain (flen f) f.path) f.size)).names ↔ _
    rw [lay_mem x fs, steps_mem, or_assoc]
    constructor
    · rintro (h | h | ⟨g, hg, h⟩)
      · exact .inl h
      · exact .inr ⟨f, .head _, h⟩
      · exact .inr ⟨g, .tail _ hg, h⟩
    · rintro (h | ⟨g, hg, h⟩)
      · exact .inl h
      · rcases List.mem_cons.mp hg with rfl | hg
        · exact .inr (.inl h)
        · exact .inr (.inr ⟨g, hg, h⟩)
theorem lay_nd : ∀ (fs : List FileD) (T : Tab), T.names.Nodup → (layUp fs T).names.Nodup
  | [], _, h => h
  | f :: fs, _, h => lay_nd fs _ (steps_nd _ _ _ h)
/-! told's folders -/
theorem mem_newOf {acc : List (List Str)} {st t : List Str} : t ∈ newOf acc st ↔ (∃ j, j < st.length ∧ t = st.take (j + 1)) ∧ t ∉ acc := by
  unfold newOf
  rw [List.mem_filter, List.mem_map]
  constructor
  · rintro ⟨⟨j, hj, rfl⟩, h⟩
    refine ⟨⟨j, List.mem_range.mp hj, rfl⟩, fun hm => ?_⟩
    rw [List.contains_iff_mem.mpr hm] at h
    cases h
  · rintro ⟨⟨j, hj, rfl⟩, h⟩
    refine ⟨⟨j, List.mem_range.mpr hj, rfl⟩, ?_⟩
    cases e : acc.contains (st.take (j + 1)) with
    | false => rfl
    | true => exact absurd (List.contains_iff_mem.mp e) h
theorem newOf_nd (acc : List (List Str)) (st : List Str) : (newOf acc st).Nodup := by
  unfold newOf
  refine List.Nodup.sublist List.filter_sublist (List.pairwise_map.mpr (List.Pairwise.imp_of_mem (fun {a b} ha hb ne e => ?_) List.nodup_range))
  have h := congrArg List.length e
  rw [List.length_take, List.length_take] at h
  have := List.mem_range.mp ha
  have := List.mem_range.mp hb
  (first | lia | omega)
noncomputable def foldUp (fs : List FileD) (acc : List (List Str)) : List (List Str) := fs.foldl (fun acc f => acc ++ newOf acc f.steps) acc
theorem foldUp_mem (t : List Str) : ∀ (fs : List FileD) (acc : List (List Str)), t ∈ foldUp fs acc ↔ t ∈ acc ∨ ∃ f ∈ fs, ∃ j, j < f.steps.length ∧ t = f.steps.take (j + 1)
  | [], acc => by
    constructor
    · exact .inl
    · rintro (h | ⟨f, hf, _⟩)
      · exact h
      · cases hf
  | f :: fs, acc => by
    show t ∈ foldUp fs (acc ++ newOf acc f.steps) ↔ _
    rw [foldUp_mem t fs, List.mem_append, mem_newOf]
    constructor
    · rintro ((h | ⟨h, _⟩) | ⟨g, hg, h⟩)
      · exact .inl h
      · exact .inr ⟨f, .head _, h⟩
      · exact .inr ⟨g, .tail _ hg, h⟩
    · rintro (h | ⟨g, hg, h⟩)
      · exact .inl (.inl h)
      · rcases List.mem_cons.mp hg with rfl | hg
        · by_cases q : t ∈ acc
          · exact .inl (.inl q)
          · exact .inl (.inr ⟨h, q⟩)
        · exact .inr ⟨g, hg, h⟩
theorem foldUp_nd : ∀ (fs : List FileD) (acc : List (List Str)), acc.Nodup → (foldUp fs acc).Nodup
  | [], _, h => h
  | f :: fs, acc, h => foldUp_nd fs _ (List.nodup_append.mpr ⟨h, newOf_nd _ _, fun a ha b hb e => (mem_newOf.mp hb).2 (e ▸ ha)⟩)
theorem foldUp_len : ∀ (fs : List FileD) (acc : List (List Str)), (∀ f ∈ fs, f.steps.length ≤ 3) → (foldUp fs acc).length ≤ acc.length + 3 * fs.length
  | [], _, _ => Nat.le_add_right _ _
  | f :: fs, acc, h => by
    have h1 := foldUp_len fs (acc ++ newOf acc f.steps) fun g hg => h g (.tail _ hg)
    have h2 : (newOf acc f.steps).length ≤ f.steps.length := by
      unfold newOf
      refine Nat.le_trans (List.length_filter_le _ _) ?_
      rw [List.length_map, List.length_range]
      exact Nat.le_refl _
    have h3 := h f (.head _)
    rw [List.length_append] at h1
    rw [List.length_cons]
    show (foldUp fs (acc ++ newOf acc f.steps)).length ≤ _
    (first | lia | omega)
theorem nodup_le {α : Type} [BEq α] [LawfulBEq α] : ∀ {l m : List α}, l.Nodup → (∀ x ∈ l, x ∈ m) → l.length ≤ m.length
  | [], _, _, _ => Nat.zero_le _
  | a :: l, m, nd, h => by
    have nd' := List.nodup_cons.mp nd
    have ha := h a (.head _)
    have := nodup_le (l := l) (m := m.erase a) nd'.2 fun x hx => (List.mem_erase_of_ne (a := x) (b := a) fun e => nd'.1 (e ▸ hx)).mpr (h x (.tail _ hx))
    rw [List.length_erase_of_mem ha] at this
    have := List.length_pos_of_mem ha
    rw [List.length_cons]
    (first | lia | omega)
end
/-! P6 -/
section
set_option maxHeartbeats 2000000
/-! the plain law -/
theorem filesOf_ok (ns : List Int) : ∀ f ∈ filesOf ns, FileOk f := by
  intro f hf
  unfold filesOf at hf
  obtain ⟨⟨x, i⟩, hp, rfl⟩ := List.mem_map.mp hf
  have hi : i < (nums ns).length := by
    have := List.mem_zipIdx hp
    (first | lia | omega)
  have := nums_len ns
  exact ⟨stepsOf_mem x, ⟨i, List.mem_range.mpr (by (first | lia | omega)), rfl⟩, Int.fmod_nonneg_of_pos _ (by decide), Int.fmod_lt_of_pos _ (by decide)⟩
theorem filesOf_len (ns : List Int) : (filesOf ns).length ≤ 12 := by
  unfold filesOf
  rw [List.length_map, List.length_zipIdx]
  exact nums_len ns
theorem filesOf_has (ns : List Int) {x : Int} (h : x ∈ ([406, 5, 410, 331, 1] : List Int)) : ∃ f ∈ filesOf ns, f.steps = stepsOf x := by
  have hm : x ∈ nums ns := List.mem_append_right _ h
  obtain ⟨i, hi, e⟩ := List.mem_iff_getElem.mp hm
  refine ⟨fileOf (x, i), ?_, rfl⟩
  unfold filesOf
  refine List.mem_map.mpr ⟨(x, i), ?_, rfl⟩
  refine List.mem_iff_getElem?.mpr ⟨i, ?_⟩
  rw [List.getElem?_zipIdx, List.getElem?_eq_getElem hi, e]
  simp
section
variable {fs : List FileD}
theorem folds_mem {t : List Str} (h0 : fs ≠ []) (hok : ∀ f ∈ fs, FileOk f) : t ∈ foldersOf fs ↔ ∃ f ∈ fs, f.steps.take t.length = t := by
  show t ∈ foldUp fs [[]] ↔ _
  rw [foldUp_mem]
  constructor
  · rintro (h | ⟨f, hf, j, hj, rfl⟩)
    · rw [List.mem_singleton.mp h]
      obtain ⟨f, hf⟩ := List.exists_mem_of_ne_nil fs h0
      exact ⟨f, hf, rfl⟩
    · refine ⟨f, hf, ?_⟩
      rw [List.length_take]
      congr 1
      (first | lia | omega)
  · rintro ⟨f, hf, h⟩
    cases t with
    | nil => exact .inl (List.mem_singleton.mpr rfl)
    | cons a t =>
      have hl := congrArg List.length h
      rw [List.length_take, List.length_cons] at hl
      exact .inr ⟨f, hf, t.length, by (first | lia | omega), h.symm⟩
theorem folds_fold {t : List Str} (h0 : fs ≠ []) (hok : ∀ f ∈ fs, FileOk f) (ht : t ∈ foldersOf fs) : Fold t := by
  obtain ⟨f, hf, e⟩ := (folds_mem h0 hok).mp ht
  rw [← e]
  exact Fold.take (.inl (hok f hf).1) _
theorem folds_nd : (foldersOf fs).Nodup := foldUp_nd fs _ (by simp)
theorem names_perm (h0 : fs ≠ []) (hok : ∀ f ∈ fs, FileOk f) : (tabOf fs flen).names.Perm ((foldersOf fs).map pathS) := by
  refine (List.perm_ext_iff_of_nodup (lay_nd fs _ List.nodup_nil) (nd_path (fun s hs => (folds_fold h0 hok hs).good) folds_nd)).mpr fun x => ?_
  rw [lay_mem, List.mem_map]
  constructor
  · rintro (h | ⟨f, hf, h⟩)
    · cases h
    · have ok := hok f hf
      rw [ok.chain, List.mem_map] at h
      obtain ⟨t, ht, rfl⟩ := h
      exact ⟨t, (folds_mem h0 hok).mpr ⟨f, hf, mem_pres.mp ht⟩, rfl⟩
  · rintro ⟨t, ht, rfl⟩
    obtain ⟨f, hf, e⟩ := (folds_mem h0 hok).mp ht
    exact .inr ⟨f, hf, (in_chain (hok f hf) (folds_fold h0 hok ht)).mpr e⟩
theorem sum_same (hok : ∀ f ∈ fs, FileOk f) {t : List Str} (ht : Fold t) : sumOf (tabOf fs flen) (pathS t) = sumT fs t := by
  rw [tabOf_lay, lay_sum ht fs _ hok ⟨rfl, rfl⟩]
  show (0 : Int) + _ = _
  rw [Int.zero_add]
  rfl
theorem ck_same (hok : ∀ f ∈ fs, FileOk f) {t : List Str} (ht : Fold t) : ckOf (tabOf fs flen) (pathS t) = checkT fs t := by
  rw [tabOf_lay, lay_ck ht fs _ hok ⟨rfl, rfl⟩]
  refine check_xor _ fun z hz => ?_
  unfold sizesOf at hz
  obtain ⟨f, hf, rfl⟩ := List.mem_map.mp hz
  exact (hok f (List.mem_filter.mp hf).1).2.2
theorem count_same (hok : ∀ f ∈ fs, FileOk f) {t : List Str} (ht : Fold t) : (((withinOf fs).countP (· == pathS t) : Nat) : Int) = countT fs t := by
  unfold withinOf countT
  rw [List.countP_map, List.countP_eq_length_filter]
  congr 2
  refine List.filter_congr fun f hf => ?_
  have ok := hok f hf
  show (dirS f.path == pathS t) = (f.steps == t)
  rw [ok.dir.2, Bool.eq_iff_iff, beq_iff_eq, beq_iff_eq]
  exact ⟨path_inj (good_steps _ ok.1) ht.good, fun e => by rw [e]⟩
theorem row_same (hok : ∀ f ∈ fs, FileOk f) {t : List Str} (ht : Fold t) : rowR (tabOf fs flen) (withinOf fs) (pathS t) = rowT fs t := by
  unfold rowR rowT
  rw [sum_same hok ht, ck_same hok ht, count_same hok ht]
theorem rowLt_found (a b : List Str) : rowLt (foundD fs a) (foundD fs b) = pairLt (-(sumT fs a)) (pathS a) (-(sumT fs b)) (pathS b) := rfl
theorem rowLt_conn {a b : List Str} (ne : pathS a ≠ pathS b) : rowLt (foundD fs a) (foundD fs b) = true ∨ rowLt (foundD fs b) (foundD fs a) = true := by
  rw [rowLt_found, rowLt_found, pairLt_iff, pairLt_iff]
  rcases Int.lt_trichotomy (-(sumT fs a)) (-(sumT fs b)) with h | h | h
  · exact .inl (.inl h)
  · rcases slt_total ne with q | q
    · exact .inl (.inr ⟨h, q⟩)
    · exact .inr (.inr ⟨h.symm, q⟩)
  · exact .inr (.inl h)
/-- told's folders in told's order -/
noncomputable def fosOf (fs : List FileD) : List (List Str) := (foldersOf fs).mergeSort fun a b => !rowLt (foundD fs b) (foundD fs a)
theorem fos_perm : (fosOf fs).Perm (foldersOf fs) := List.mergeSort_perm _ _
theorem fos_ord (h0 : fs ≠ []) (hok : ∀ f ∈ fs, FileOk f) : ((fosOf fs).map (foundD fs)).Pairwise fun d e => rowLt d e = true := by
  refine List.pairwise_map.mpr ?_
  have h1 : (fosOf fs).Pairwise fun a b => (!rowLt (foundD fs b) (foundD fs a)) = true := by
    refine List.pairwise_mergeSort (le := fun a b => !rowLt (foundD fs b) (foundD fs a)) (fun a b c x y => ?_) (fun a b => ?_) _
    · rw [Bool.not_eq_true'] at *
      rw [rowLt_found, pairLt_false] at *
      rcases x with x | ⟨x, x'⟩ <;> rcases y with y | ⟨y, y'⟩
      · exact .inl (Int.lt_trans x y)
      · exact .inl (y ▸ x)
      · exact .inl (x ▸ y)
      · exact .inr ⟨y.trans x, slt_neg y' x'⟩
    · cases q : rowLt (foundD fs b) (foundD fs a) with
      | false => rfl
      | true =>
        cases r : rowLt (foundD fs a) (foundD fs b) with
        | false => rfl
        | true => exact absurd (rowLt_trans _ _ _ q r) (rowLt_irr _)
  have h2 : (fosOf fs).Nodup := fos_perm.nodup_iff.mpr folds_nd
  refine List.Pairwise.imp_of_mem (fun {a b} ha hb ⟨x, ne⟩ => ?_) (h1.and h2)
  rw [Bool.not_eq_true'] at x
  rcases rowLt_conn (fs := fs) (a := a) (b := b) (fun e => ne (path_inj (folds_fold h0 hok (fos_perm.mem_iff.mp ha)).good (folds_fold h0 hok (fos_perm.mem_iff.mp hb)).good e)) with h | h
  · exact h
  · rw [h] at x; cases x
theorem same_res (h0 : fs ≠ []) (hok : ∀ f ∈ fs, FileOk f) (xs : List Str) (hp : xs.Perm (tabOf fs flen).names)
    (hx : xs.Pairwise fun x y => pairLt (-(sumOf (tabOf fs flen) x)) x (-(sumOf (tabOf fs flen) y)) y = true) : runRes (tabOf fs flen) (withinOf fs) xs = toldRes fs (fosOf fs) := by
  have hF : ∀ t ∈ fosOf fs, Fold t := fun t ht => folds_fold h0 hok (fos_perm.mem_iff.mp ht)
  have e : xs = (fosOf fs).map pathS := by
    refine perm_uniq (R := fun x y => pairLt (-(sumOf (tabOf fs flen) x)) x (-(sumOf (tabOf fs flen) y)) y = true) (fun a h => ?_) (fun a b c h1 h2 => ?_) (hp.trans ((names_perm h0 hok).trans (fos_perm.map pathS).symm)) hx ?_
    · rw [pairLt_iff, slt_irr] at h
      rcases h with h | ⟨_, h⟩
      · (first | lia | omega)
      · cases h
    · rw [pairLt_iff] at *
      rcases h1 with h1 | ⟨h1, h1'⟩ <;> rcases h2 with h2 | ⟨h2, h2'⟩
      · exact .inl (Int.lt_trans h1 h2)
      · exact .inl (h2 ▸ h1)
      · exact .inl (h1 ▸ h2)
      · exact .inr ⟨h1.trans h2, slt_trans h1' h2'⟩
    · refine List.pairwise_map.mpr (List.Pairwise.imp_of_mem (fun {a b} ha hb h => ?_) (List.pairwise_map.mp (fos_ord h0 hok)))
      rw [rowLt_found] at h
      rw [sum_same hok (hF a ha), sum_same hok (hF b hb)]
      exact h
  subst e
  have r1 : ((fosOf fs).map pathS).map (rowR (tabOf fs flen) (withinOf fs)) = (fosOf fs).map (rowT fs) := by
    rw [List.map_map]
    exact List.map_congr_left fun t ht => row_same hok (hF t ht)
  have r2 : ((fosOf fs).map pathS).map (ckOf (tabOf fs flen)) = (fosOf fs).map (checkT fs) := by
    rw [List.map_map]
    exact List.map_congr_left fun t ht => ck_same hok (hF t ht)
  have r3 : ((List.range ((fosOf fs).length - 1)).map fun j => D.str (commS ((fosOf fs).map pathS) j)) = (List.range ((fosOf fs).length - 1)).map fun j => D.str (commT (fosOf fs) j) := by
    refine List.map_congr_left fun j hj => ?_
    have hj' := List.mem_range.mp hj
    have at1 : ∀ i, i < (fosOf fs).length → stepOf (((fosOf fs).map pathS).getD i Str.empty) = (fosOf fs).getD i [] := fun i hi => by
      have e1 : ((fosOf fs).map pathS).getD i Str.empty = pathS (fosOf fs)[i] := by simp [hi]
      have e2 : (fosOf fs).getD i [] = (fosOf fs)[i] := by simp [hi]
      rw [e1, e2]
      exact stepOf_path (hF _ (List.getElem_mem hi)).good
    unfold commS commT
    rw [at1 j (by (first | lia | omega)), at1 (j + 1) (by (first | lia | omega))]
  unfold runRes toldRes
  rw [r1, r2, List.length_map, r3]
theorem fivesteps : stepsOf 406 = (["a", "a"] : List Str) ∧ stepsOf 5 = (["ab", "a", "a"] : List Str) := by decide +kernel
theorem plainLaw (ns : List Int) : ∃ len fos, PlainLaw (filesOf ns) len fos := by
  have hok := filesOf_ok ns
  have hl := filesOf_len ns
  have h0 : filesOf ns ≠ [] := fun e => by
    obtain ⟨f, hf, _⟩ := filesOf_has ns (x := 406) (by decide)
    rw [e] at hf
    cases hf
  have st3 : ∀ f ∈ filesOf ns, f.steps.length ≤ 3 := fun f hf => (steps_pos _ (hok f hf).1).2.1
  have fl : ∀ i, (foldersOf ((filesOf ns).take i)).length ≤ 1 + 3 * i := fun i => by
    have := foldUp_len ((filesOf ns).take i) [[]] fun f hf => st3 f (List.mem_of_mem_take hf)
    rw [List.length_take] at this
    have e : foldersOf ((filesOf ns).take i) = foldUp ((filesOf ns).take i) [[]] := rfl
    rw [e]
    rw [List.length_singleton] at this
    (first | lia | omega)
  have fl37 : (foldersOf (filesOf ns)).length ≤ 37 := by
    have := foldUp_len (filesOf ns) [[]] st3
    rw [List.length_singleton] at this
    have e : foldersOf (filesOf ns) = foldUp (filesOf ns) [[]] := rfl
    rw [e]
    (first | lia | omega)
  have fl4 : 4 ≤ (foldersOf (filesOf ns)).length := by
    obtain ⟨f, hf, ef⟩ := filesOf_has ns (x := 406) (by decide)
    obtain ⟨g, hg, eg⟩ := filesOf_has ns (x := 5) (by decide)
    rw [fivesteps.1] at ef
    rw [fivesteps.2] at eg
    have : ([[], ["a"], ["ab"], ["ab", "a"]] : List (List Str)).length ≤ (foldersOf (filesOf ns)).length := by
      refine nodup_le (by decide) (allC ?_ (allC ?_ (allC ?_ (allC ?_ allN))))
      · exact (folds_mem h0 hok).mpr ⟨f, hf, rfl⟩
      · exact (folds_mem h0 hok).mpr ⟨f, hf, by rw [ef]; rfl⟩
      · exact (folds_mem h0 hok).mpr ⟨g, hg, by rw [eg]; rfl⟩
      · exact (folds_mem h0 hok).mpr ⟨g, hg, by rw [eg]; rfl⟩
    exact this
  have np := names_perm h0 hok
  have nl : (tabOf (filesOf ns) flen).names.length = (foldersOf (filesOf ns)).length := by rw [np.length_eq, List.length_map]
  refine ⟨flen, fosOf (filesOf ns), ⟨by (first | lia | omega), fun f hf => (hok f hf).ok, fun x hx => ?_, lay_nd _ _ List.nodup_nil, by (first | lia | omega), by (first | lia | omega), st3, fl, fun s hs => (folds_fold h0 hok hs).good, by (first | lia | omega), by (first | lia | omega), ?_, fos_perm, fos_ord h0 hok, same_res h0 hok⟩⟩
  · obtain ⟨t, ht, rfl⟩ := List.mem_map.mp (np.mem_iff.mp hx)
    exact ⟨t, (folds_fold h0 hok ht).good, rfl⟩
  · refine List.pairwise_map.mpr (List.Pairwise.imp_of_mem (fun {a b} ha hb ne => ?_) folds_nd)
    exact rowLt_conn fun e => ne (path_inj (folds_fold h0 hok ha).good (folds_fold h0 hok hb).good e)
end
end
end Mine
theorem PySem.Challenge.cw_ik0067_01_holds : PySem.Challenge.rw_ik0067_01.Holds :=
  Mine.fin Mine.plainLaw
