import PyProof.Rows.All
import Wide.All
import OpenK.AllK
import Wide.FinOn
import PySem.Challenge.RW_of0118_01
set_option Elab.async false
set_option maxRecDepth 100000
set_option maxHeartbeats 0
set_option linter.unusedVariables false
set_option linter.unusedSimpArgs false
open PySem PySem.W PyProof.Rows PySem.Calls
namespace Mine
local macro_rules | `(tactic| walk_at $s:str) => `(tactic| k_extra $s)
local macro_rules | `(tactic| k_room) => `(tactic| ktr_room)
local macro_rules | `(tactic| k_ne) => `(tactic| (refine neN ?_; (try dsimp only); first | with_reducible assumption | (refine Ne.symm ?_; with_reducible assumption) | exact Nat.ne_of_lt (by with_reducible assumption) | exact Nat.ne_of_gt (by with_reducible assumption) | ((repeat (rename (@Ne Nat _ _ ∧ _) => zk9; obtain ⟨_, _⟩ := zk9)); first | with_reducible assumption | (refine Ne.symm ?_; with_reducible assumption) | ((repeat (rename (@Ne Nat _ _) => zk9; clear zk9)); omega))))
section -- Base
noncomputable abbrev P0 : Program := PySem.Challenge.pw_of0118_01

section
variable {prog : Program} {w : World} {A A₀ : Around} {E : Value → Shared → Prop} {s : Shared} {K : Frag} {L : Addr} {h₀ base : Heap} {m mg mb : Str → Option Value} {mtl news news' : List (Addr × Obj)} {p : Program} {loose : List Str} {mean : ExcName → Option Value}

/-- entering a def with a small ledger: all else stays in the callee's base -/
theorem enterM {env : Env} {outer : List Env} {R : Result → Shared → Prop} {name qual : Str} {params : Arguments} {body : List Stmt} {scope : Scope} {dV kV doc pm cdv ct oc : Value} {an od : Option Addr} {osl : Array (Option Value)} {f : Addr} {args : Args} {binds : List (Str × Value)}
    (B : Below A₀ base outer h₀) (F : Fr h₀ L s.heap m) (X₀ : K.In h₀) (N : News h₀ L s.heap mtl) (T : Top p loose mean mg mb h₀) (hA : A.frames = some (env :: outer)) (hf : env.frame = some L) (hke : env.scope.kind = .function)
    (ho : K.lookup f = some ⟨oc, od, .func (fnOf name qual params body scope dV kV doc pm an cdv ct), osl⟩) (hcd : codeIn K cdv qual = true) (hroom : A.depth < recursionLimit)
    (hbind : BindsTo s (fnOf name qual params body scope dV kV doc pm an cdv ct) args binds) (hloc : ∀ y ∈ binds, scope.names.lookup y.1 = some .local)
    (h : ∀ g L' h₁, (∀ b o, s.heap.get? b = some o → (∀ p ∈ mtl, p.1 ≠ b) → g.get? b = some o) → Fr h₀ L g m → Fr g L' h₁ (fun y => binds.reverse.lookup y) → News g L' h₁ mtl → Below A base (env :: outer) g → K.In g → Top p loose mean mg mb g → (∀ p ∈ mtl, p.1 < L') →
      wpAny (model prog w) (A.deeper (envOf qual scope L' f cdv)) (execs body (envOf qual scope L' f cdv))
        (fun fl s' => LeaveK h₀ L m g R (match fl with | .ret v => v | _ => .none) s')
        (fun e s' => wpAny (model prog w) (A.deeper (envOf qual scope L' f cdv)) (leaving (envOf qual scope L' f cdv) e) (fun _ s'' => R (.error e) s'') (fun e' s'' => R (.error e') s'') s')
        { s with heap := h₁, toks := s.toks + binds.length })
    (hco : scope.isCoroutine = false) (hgen : scope.isGenerator = false) (hk : scope.kind = .function)
    (hcell : ∀ x ∈ scope.names, x.2 ≠ .cell) : codeAny (model prog w) A (.call (.ref f) args) R s := by
  obtain ⟨FG, BG, st, lv⟩ := groundX (R := R) B F N hA hf hke
  refine codeAny_call_def (fd := fnOf name qual params body scope dV kV doc pm an cdv ct) (body := body) (binds := binds) hroom ((X₀.keeps F.keep) _ _ ho) rfl (T.nolimit.keeps F.keep) (codeRec_of (X₀.keeps F.keep) hcd) rfl hbind hcell hloc (fun h₁ hns hk₁ => ?_) hco hgen hk
  refine wpAny_mono (h _ s.heap.objs.size h₁ (fun b o e q => hideAll_get _ e fun hb => ?_) FG ⟨hns, fun b o e => hk₁ b o (of_hideAll _ e), Nat.le_of_eq (hideAll_size _ _)⟩
    (fun p hp => ⟨hk₁ _ _ (N p hp).1, Nat.ne_of_lt (Heap.lt_size (N p hp).1), hideAll_none _ (List.mem_map_of_mem hp)⟩) BG (X₀.keeps st) (T.keeps st) (fun p hp => Heap.lt_size (N p hp).1)) (fun fl s' hl => lv _ _ hl) fun _ _ y => y
  obtain ⟨p, hp, rfl⟩ := List.mem_map.mp hb
  exact q p hp rfl

/-- what a change of one entry leaves -/
theorem Upd.mem {d : Addr} {o o' : Obj} (U : Upd d o o' news news') : (d, o) ∈ news ∧ ∀ q ∈ news', q = (d, o') ∨ (q ∈ news ∧ q.1 ≠ d) := by
  obtain ⟨pre, post, rfl, rfl, h1, h2⟩ := U.split
  refine ⟨by simp, fun q hq => ?_⟩
  rcases List.mem_append.mp hq with hq | hq
  · exact .inr ⟨by simp [hq], h1 q hq⟩
  · rcases List.mem_cons.mp hq with rfl | hq
    · exact .inl rfl
    · exact .inr ⟨by simp [hq], h2 q hq⟩

/-- the ledger behind a call that changed one object -/
theorem News.upd1 {h h' : Heap} {d : Addr} {o o' : Obj} (N : News h₀ L h news) (U : Upd d o o' news news') (hd : h'.get? d = some o') (hk : ∀ q ∈ news, q.1 ≠ d → h'.get? q.1 = some q.2) : News h₀ L h' news' := fun q hq => by
  obtain ⟨hm, hr⟩ := Upd.mem U
  rcases hr q hq with rfl | ⟨h1, h2⟩
  · exact ⟨hd, (N _ hm).2⟩
  · exact ⟨hk q h1 h2, (N _ h1).2⟩
/-- a call that changed nothing -/
theorem News.stay {h h' : Heap} (N : News h₀ L h news) (hk : ∀ b o, h.get? b = some o → h'.get? b = some o) : News h₀ L h' news := fun q hq => ⟨hk _ _ (N q hq).1, (N q hq).2⟩
theorem Fr.stay {h h' : Heap} (F : Fr h₀ L h m) (hk : ∀ b o, h.get? b = some o → h'.get? b = some o) : Fr h₀ L h' m := by
  obtain ⟨⟨oL, a1, a2, hL, a3⟩, k, ab⟩ := F
  exact ⟨⟨oL, a1, a2, hk _ _ hL, a3⟩, fun b o e => hk _ _ (k b o e), ab⟩
theorem News.consN {h : Heap} {a : Addr × Obj} {l : List (Addr × Obj)} (ha : h.get? a.1 = some a.2 ∧ a.1 ≠ L ∧ h₀.get? a.1 = none) (N : News h₀ L h l) : News h₀ L h (a :: l) := fun q hq => (List.mem_cons.mp hq).elim (fun e => e ▸ ha) (N q)
/-- a new object onto the ledger -/
theorem News.fresh' {h h' : Heap} {a : Addr} {o : Obj} (F : Fr h₀ L h m) (N : News h₀ L h' news) (hn : h.get? a = none) (ho : h'.get? a = some o) : News h₀ L h' ((a, o) :: news) := fun q hq => by
  rcases List.mem_cons.mp hq with rfl | hq
  · refine ⟨ho, fun e => ?_, ?_⟩
    · obtain ⟨⟨oL, a1, a2, hL, a3⟩, _, _⟩ := F
      have e' : a = L := e
      rw [e', hL] at hn; cases hn
    · cases q : h₀.get? a with
      | none => rfl
      | some o' => rw [F.keep _ _ q] at hn; cases hn
  · exact N q hq
end

end
section -- KF
noncomputable def stAt : List Stmt → Nat → Stmt
  | [], _ => .Pass default
  | s :: _, 0 => s
  | _ :: r, n + 1 => stAt r n
noncomputable def clsBody : Stmt → List Stmt
  | .ClassDef _ _ _ b _ _ _ _ _ _ _ => b
  | _ => []
@[reducible] noncomputable def litA {x : Stmt} {n a b d r t s ts bn p} (_ : x = Stmt.FunctionDef n a b d r t s ts bn p) : Arguments := a
@[reducible] noncomputable def litB {x : Stmt} {n a b d r t s ts bn p} (_ : x = Stmt.FunctionDef n a b d r t s ts bn p) : List Stmt := b
@[reducible] noncomputable def litS {x : Stmt} {n a b d r t s ts bn p} (_ : x = Stmt.FunctionDef n a b d r t s ts bn p) : Scope := s
@[reducible] noncomputable def o3 (P : PySem.Params) : PySem.Obj := PySem.Obj.mk (PySem.Value.type "dict") Option.none
  (PySem.Data.dict
    #[PySem.DictEntry.mk (PySem.PyData.keyHash P (PySem.Str.ofString "__name__"))
        (PySem.Value.str (PySem.Str.ofString "__name__") 165)
        (PySem.Value.str (PySem.Str.ofString "law_of0118_01") 1525),
      PySem.DictEntry.mk (PySem.PyData.keyHash P (PySem.Str.ofString "__doc__"))
        (PySem.Value.str (PySem.Str.ofString "__doc__") 166) PySem.Value.none,
      PySem.DictEntry.mk (PySem.PyData.keyHash P (PySem.Str.ofString "__package__"))
        (PySem.Value.str (PySem.Str.ofString "__package__") 167) PySem.Value.none,
      PySem.DictEntry.mk (PySem.PyData.keyHash P (PySem.Str.ofString "__loader__"))
        (PySem.Value.str (PySem.Str.ofString "__loader__") 168) (PySem.Value.builtin "__main__.__loader__#opaque"),
      PySem.DictEntry.mk (PySem.PyData.keyHash P (PySem.Str.ofString "__spec__"))
        (PySem.Value.str (PySem.Str.ofString "__spec__") 169) PySem.Value.none,
      PySem.DictEntry.mk (PySem.PyData.keyHash P (PySem.Str.ofString "__annotations__"))
        (PySem.Value.str (PySem.Str.ofString "__annotations__") 170) (PySem.Value.ref 6),
      PySem.DictEntry.mk (PySem.PyData.keyHash P (PySem.Str.ofString "__builtins__"))
        (PySem.Value.str (PySem.Str.ofString "__builtins__") 171) (PySem.Value.ref 4),
      PySem.DictEntry.mk (PySem.PyData.keyHash P (PySem.Str.ofString "__file__"))
        (PySem.Value.str (PySem.Str.ofString "__file__") 173)
        (PySem.Value.str (PySem.Str.ofString "/claim/cut.py") 172),
      PySem.DictEntry.mk (PySem.PyData.keyHash P (PySem.Str.ofString "__cached__"))
        (PySem.Value.str (PySem.Str.ofString "__cached__") 174) PySem.Value.none,
      PySem.DictEntry.mk (PySem.PyData.keyHash P (PySem.Str.ofString "_sre"))
        (PySem.Value.str (PySem.Str.ofString "_sre") 275) (PySem.Value.ref 12),
      PySem.DictEntry.mk (PySem.PyData.keyHash P (PySem.Str.ofString "deque"))
        (PySem.Value.str (PySem.Str.ofString "deque") 317) (PySem.Value.type "collections.deque"),
      PySem.DictEntry.mk (PySem.PyData.keyHash P (PySem.Str.ofString "_wall"))
        (PySem.Value.str (PySem.Str.ofString "_wall") 330) (PySem.Value.ref 44),
      PySem.DictEntry.mk (PySem.PyData.keyHash P (PySem.Str.ofString "tspecials"))
        (PySem.Value.str (PySem.Str.ofString "tspecials") 366) (PySem.Value.ref 49),
      PySem.DictEntry.mk (PySem.PyData.keyHash P (PySem.Str.ofString "_name_disallowed_re"))
        (PySem.Value.str (PySem.Str.ofString "_name_disallowed_re") 392) (PySem.Value.ref 54),
      PySem.DictEntry.mk (PySem.PyData.keyHash P (PySem.Str.ofString "_value_disallowed_re"))
        (PySem.Value.str (PySem.Str.ofString "_value_disallowed_re") 426) (PySem.Value.ref 59),
      PySem.DictEntry.mk (PySem.PyData.keyHash P (PySem.Str.ofString "_formatparam"))
        (PySem.Value.str (PySem.Str.ofString "_formatparam") 436) (PySem.Value.ref 67),
      PySem.DictEntry.mk (PySem.PyData.keyHash P (PySem.Str.ofString "Headers"))
        (PySem.Value.str (PySem.Str.ofString "Headers") 593) (PySem.Value.ref 188),
      PySem.DictEntry.mk (PySem.PyData.keyHash P (PySem.Str.ofString "sorted_list_difference"))
        (PySem.Value.str (PySem.Str.ofString "sorted_list_difference") 609) (PySem.Value.ref 199),
      PySem.DictEntry.mk (PySem.PyData.keyHash P (PySem.Str.ofString "_twin_re_1"))
        (PySem.Value.str (PySem.Str.ofString "_twin_re_1") 649) (PySem.Value.ref 204),
      PySem.DictEntry.mk (PySem.PyData.keyHash P (PySem.Str.ofString "_whence"))
        (PySem.Value.str (PySem.Str.ofString "_whence") 659) (PySem.Value.ref 211),
      PySem.DictEntry.mk (PySem.PyData.keyHash P (PySem.Str.ofString "_index"))
        (PySem.Value.str (PySem.Str.ofString "_index") 667) (PySem.Value.ref 218),
      PySem.DictEntry.mk (PySem.PyData.keyHash P (PySem.Str.ofString "UnsupportedOperation"))
        (PySem.Value.str (PySem.Str.ofString "UnsupportedOperation") 689) (PySem.Value.ref 228),
      PySem.DictEntry.mk (PySem.PyData.keyHash P (PySem.Str.ofString "IOBase"))
        (PySem.Value.str (PySem.Str.ofString "IOBase") 721) (PySem.Value.ref 248),
      PySem.DictEntry.mk (PySem.PyData.keyHash P (PySem.Str.ofString "BufferedIOBase"))
        (PySem.Value.str (PySem.Str.ofString "BufferedIOBase") 739) (PySem.Value.ref 263),
      PySem.DictEntry.mk (PySem.PyData.keyHash P (PySem.Str.ofString "TextIOBase"))
        (PySem.Value.str (PySem.Str.ofString "TextIOBase") 757) (PySem.Value.ref 275),
      PySem.DictEntry.mk (PySem.PyData.keyHash P (PySem.Str.ofString "BytesIO"))
        (PySem.Value.str (PySem.Str.ofString "BytesIO") 1019) (PySem.Value.ref 505),
      PySem.DictEntry.mk (PySem.PyData.keyHash P (PySem.Str.ofString "StringIO"))
        (PySem.Value.str (PySem.Str.ofString "StringIO") 1306) (PySem.Value.ref 752),
      PySem.DictEntry.mk (PySem.PyData.keyHash P (PySem.Str.ofString "_kind"))
        (PySem.Value.str (PySem.Str.ofString "_kind") 1317) (PySem.Value.ref 761),
      PySem.DictEntry.mk (PySem.PyData.keyHash P (PySem.Str.ofString "_fspath"))
        (PySem.Value.str (PySem.Str.ofString "_fspath") 1326) (PySem.Value.ref 768),
      PySem.DictEntry.mk (PySem.PyData.keyHash P (PySem.Str.ofString "_check_arg_types"))
        (PySem.Value.str (PySem.Str.ofString "_check_arg_types") 1336) (PySem.Value.ref 775),
      PySem.DictEntry.mk (PySem.PyData.keyHash P (PySem.Str.ofString "isabs"))
        (PySem.Value.str (PySem.Str.ofString "isabs") 1343) (PySem.Value.ref 782),
      PySem.DictEntry.mk (PySem.PyData.keyHash P (PySem.Str.ofString "join"))
        (PySem.Value.str (PySem.Str.ofString "join") 1354) (PySem.Value.ref 789),
      PySem.DictEntry.mk (PySem.PyData.keyHash P (PySem.Str.ofString "dirname"))
        (PySem.Value.str (PySem.Str.ofString "dirname") 1364) (PySem.Value.ref 796),
      PySem.DictEntry.mk (PySem.PyData.keyHash P (PySem.Str.ofString "shlex"))
        (PySem.Value.str (PySem.Str.ofString "shlex") 1505) (PySem.Value.ref 887),
      PySem.DictEntry.mk (PySem.PyData.keyHash P (PySem.Str.ofString "split"))
        (PySem.Value.str (PySem.Str.ofString "split") 1515) (PySem.Value.ref 899),
      PySem.DictEntry.mk (PySem.PyData.keyHash P (PySem.Str.ofString "_find_unsafe"))
        (PySem.Value.str (PySem.Str.ofString "_find_unsafe") 1517) (PySem.Value.ref 900),
      PySem.DictEntry.mk (PySem.PyData.keyHash P (PySem.Str.ofString "quote"))
        (PySem.Value.str (PySem.Str.ofString "quote") 1524) (PySem.Value.ref 907),
      PySem.DictEntry.mk (PySem.PyData.keyHash P (PySem.Str.ofString "_law_arrows"))
        (PySem.Value.str (PySem.Str.ofString "_law_arrows") 1536) (PySem.Value.ref 914),
      PySem.DictEntry.mk (PySem.PyData.keyHash P (PySem.Str.ofString "_law_table"))
        (PySem.Value.str (PySem.Str.ofString "_law_table") 1551) (PySem.Value.ref 921),
      PySem.DictEntry.mk (PySem.PyData.keyHash P (PySem.Str.ofString "_law_rounds"))
        (PySem.Value.str (PySem.Str.ofString "_law_rounds") 1567) (PySem.Value.ref 928),
      PySem.DictEntry.mk (PySem.PyData.keyHash P (PySem.Str.ofString "_law_due"))
        (PySem.Value.str (PySem.Str.ofString "_law_due") 1573) (PySem.Value.ref 933),
      PySem.DictEntry.mk (PySem.PyData.keyHash P (PySem.Str.ofString "law"))
        (PySem.Value.str (PySem.Str.ofString "law") 1583) (PySem.Value.ref 940)]
    42)
  #[]
@[reducible] noncomputable def o505 (P : PySem.Params) : PySem.Obj := PySem.Obj.mk (PySem.Value.type "type") Option.none
  (PySem.Data.cls
    (PySem.ClassData.mk (PySem.Str.ofString "BytesIO") [PySem.Value.ref 263]
      [PySem.Value.ref 505, PySem.Value.ref 263, PySem.Value.ref 248, PySem.Value.type "object"] 504
      (PySem.Str.ofString "BytesIO") Bool.true [] [] Bool.false Option.none Bool.false))
  #[Option.some (PySem.Value.ref 278), Option.none, Option.some (PySem.Value.str (PySem.Str.ofString "BytesIO") 758),
    Option.some (PySem.Value.str (PySem.Str.ofString "BytesIO") 766), Option.some PySem.Value.none,
    Option.some (PySem.Value.bool Bool.true)]
@[reducible] noncomputable def o887 (P : PySem.Params) : PySem.Obj := PySem.Obj.mk (PySem.Value.type "type") Option.none
  (PySem.Data.cls
    (PySem.ClassData.mk (PySem.Str.ofString "shlex") [PySem.Value.type "object"]
      [PySem.Value.ref 887, PySem.Value.type "object"] 886 (PySem.Str.ofString "shlex") Bool.true [] [] Bool.false
      Option.none Bool.false))
  #[Option.none, Option.none, Option.some (PySem.Value.str (PySem.Str.ofString "shlex") 1367),
    Option.some (PySem.Value.str (PySem.Str.ofString "shlex") 1375), Option.some (PySem.Value.builtin "object.__new__"),
    Option.some (PySem.Value.bool Bool.true)]
@[reducible] noncomputable def o886 (P : PySem.Params) : PySem.Obj := PySem.Obj.mk (PySem.Value.type "dict") Option.none
  (PySem.Data.dict
    #[PySem.DictEntry.mk (PySem.PyData.keyHash P (PySem.Str.ofString "__module__"))
        (PySem.Value.str (PySem.Str.ofString "__module__") 1374)
        (PySem.Value.str (PySem.Str.ofString "cpy313.shlex") 1365),
      PySem.DictEntry.mk (PySem.PyData.keyHash P (PySem.Str.ofString "__firstlineno__"))
        (PySem.Value.str (PySem.Str.ofString "__firstlineno__") 1378) (PySem.Value.int 600 1377),
      PySem.DictEntry.mk (PySem.PyData.keyHash P (PySem.Str.ofString "__init__"))
        (PySem.Value.str (PySem.Str.ofString "__init__") 1390) (PySem.Value.ref 811),
      PySem.DictEntry.mk (PySem.PyData.keyHash P (PySem.Str.ofString "punctuation_chars"))
        (PySem.Value.str (PySem.Str.ofString "punctuation_chars") 1398) (PySem.Value.ref 819),
      PySem.DictEntry.mk (PySem.PyData.keyHash P (PySem.Str.ofString "push_token"))
        (PySem.Value.str (PySem.Str.ofString "push_token") 1406) (PySem.Value.ref 826),
      PySem.DictEntry.mk (PySem.PyData.keyHash P (PySem.Str.ofString "push_source"))
        (PySem.Value.str (PySem.Str.ofString "push_source") 1415) (PySem.Value.ref 834),
      PySem.DictEntry.mk (PySem.PyData.keyHash P (PySem.Str.ofString "pop_source"))
        (PySem.Value.str (PySem.Str.ofString "pop_source") 1422) (PySem.Value.ref 841),
      PySem.DictEntry.mk (PySem.PyData.keyHash P (PySem.Str.ofString "get_token"))
        (PySem.Value.str (PySem.Str.ofString "get_token") 1434) (PySem.Value.ref 848),
      PySem.DictEntry.mk (PySem.PyData.keyHash P (PySem.Str.ofString "read_token"))
        (PySem.Value.str (PySem.Str.ofString "read_token") 1445) (PySem.Value.ref 855),
      PySem.DictEntry.mk (PySem.PyData.keyHash P (PySem.Str.ofString "sourcehook"))
        (PySem.Value.str (PySem.Str.ofString "sourcehook") 1453) (PySem.Value.ref 862),
      PySem.DictEntry.mk (PySem.PyData.keyHash P (PySem.Str.ofString "error_leader"))
        (PySem.Value.str (PySem.Str.ofString "error_leader") 1462) (PySem.Value.ref 870),
      PySem.DictEntry.mk (PySem.PyData.keyHash P (PySem.Str.ofString "__iter__"))
        (PySem.Value.str (PySem.Str.ofString "__iter__") 1469) (PySem.Value.ref 877),
      PySem.DictEntry.mk (PySem.PyData.keyHash P (PySem.Str.ofString "__next__"))
        (PySem.Value.str (PySem.Str.ofString "__next__") 1477) (PySem.Value.ref 884),
      PySem.DictEntry.mk (PySem.PyData.keyHash P (PySem.Str.ofString "__static_attributes__"))
        (PySem.Value.str (PySem.Str.ofString "__static_attributes__") 1498) (PySem.Value.ref 885),
      PySem.DictEntry.mk (PySem.PyData.keyHash P (PySem.Str.ofString "__dict__"))
        (PySem.Value.str (PySem.Str.ofString "__dict__") 1500) (PySem.Value.ref 888),
      PySem.DictEntry.mk (PySem.PyData.keyHash P (PySem.Str.ofString "__weakref__"))
        (PySem.Value.str (PySem.Str.ofString "__weakref__") 1502) (PySem.Value.ref 889),
      PySem.DictEntry.mk (PySem.PyData.keyHash P (PySem.Str.ofString "__doc__"))
        (PySem.Value.str (PySem.Str.ofString "__doc__") 1503) PySem.Value.none]
    4)
  #[]
@[reducible] noncomputable def o752 (P : PySem.Params) : PySem.Obj := PySem.Obj.mk (PySem.Value.type "type") Option.none
  (PySem.Data.cls
    (PySem.ClassData.mk (PySem.Str.ofString "StringIO") [PySem.Value.ref 275]
      [PySem.Value.ref 752, PySem.Value.ref 275, PySem.Value.ref 248, PySem.Value.type "object"] 751
      (PySem.Str.ofString "StringIO") Bool.true [] [] Bool.false Option.none Bool.false))
  #[Option.some (PySem.Value.ref 508), Option.none, Option.some (PySem.Value.str (PySem.Str.ofString "StringIO") 1020),
    Option.some (PySem.Value.str (PySem.Str.ofString "StringIO") 1028), Option.some PySem.Value.none,
    Option.some (PySem.Value.bool Bool.true)]
@[reducible] noncomputable def o751 (P : PySem.Params) : PySem.Obj := PySem.Obj.mk (PySem.Value.type "dict") Option.none
  (PySem.Data.dict
    #[PySem.DictEntry.mk (PySem.PyData.keyHash P (PySem.Str.ofString "__module__"))
        (PySem.Value.str (PySem.Str.ofString "__module__") 1027) (PySem.Value.str (PySem.Str.ofString "_io") 1032),
      PySem.DictEntry.mk (PySem.PyData.keyHash P (PySem.Str.ofString "__firstlineno__"))
        (PySem.Value.str (PySem.Str.ofString "__firstlineno__") 1031) (PySem.Value.int 331 1030),
      PySem.DictEntry.mk (PySem.PyData.keyHash P (PySem.Str.ofString "__init__"))
        (PySem.Value.str (PySem.Str.ofString "__init__") 1044) (PySem.Value.ref 522),
      PySem.DictEntry.mk (PySem.PyData.keyHash P (PySem.Str.ofString "_StringIO__translated"))
        (PySem.Value.str (PySem.Str.ofString "_StringIO__translated") 1053) (PySem.Value.ref 529),
      PySem.DictEntry.mk (PySem.PyData.keyHash P (PySem.Str.ofString "_StringIO__check"))
        (PySem.Value.str (PySem.Str.ofString "_StringIO__check") 1060) (PySem.Value.ref 536),
      PySem.DictEntry.mk (PySem.PyData.keyHash P (PySem.Str.ofString "_StringIO__check_dot"))
        (PySem.Value.str (PySem.Str.ofString "_StringIO__check_dot") 1067) (PySem.Value.ref 543),
      PySem.DictEntry.mk (PySem.PyData.keyHash P (PySem.Str.ofString "_StringIO__line"))
        (PySem.Value.str (PySem.Str.ofString "_StringIO__line") 1082) (PySem.Value.ref 550),
      PySem.DictEntry.mk (PySem.PyData.keyHash P (PySem.Str.ofString "closed"))
        (PySem.Value.str (PySem.Str.ofString "closed") 1090) (PySem.Value.ref 558),
      PySem.DictEntry.mk (PySem.PyData.keyHash P (PySem.Str.ofString "line_buffering"))
        (PySem.Value.str (PySem.Str.ofString "line_buffering") 1098) (PySem.Value.ref 566),
      PySem.DictEntry.mk (PySem.PyData.keyHash P (PySem.Str.ofString "newlines"))
        (PySem.Value.str (PySem.Str.ofString "newlines") 1106) (PySem.Value.ref 574),
      PySem.DictEntry.mk (PySem.PyData.keyHash P (PySem.Str.ofString "encoding"))
        (PySem.Value.str (PySem.Str.ofString "encoding") 1114) (PySem.Value.ref 582),
      PySem.DictEntry.mk (PySem.PyData.keyHash P (PySem.Str.ofString "errors"))
        (PySem.Value.str (PySem.Str.ofString "errors") 1122) (PySem.Value.ref 590),
      PySem.DictEntry.mk (PySem.PyData.keyHash P (PySem.Str.ofString "close"))
        (PySem.Value.str (PySem.Str.ofString "close") 1129) (PySem.Value.ref 597),
      PySem.DictEntry.mk (PySem.PyData.keyHash P (PySem.Str.ofString "__enter__"))
        (PySem.Value.str (PySem.Str.ofString "__enter__") 1136) (PySem.Value.ref 604),
      PySem.DictEntry.mk (PySem.PyData.keyHash P (PySem.Str.ofString "__exit__"))
        (PySem.Value.str (PySem.Str.ofString "__exit__") 1144) (PySem.Value.ref 611),
      PySem.DictEntry.mk (PySem.PyData.keyHash P (PySem.Str.ofString "readable"))
        (PySem.Value.str (PySem.Str.ofString "readable") 1151) (PySem.Value.ref 618),
      PySem.DictEntry.mk (PySem.PyData.keyHash P (PySem.Str.ofString "writable"))
        (PySem.Value.str (PySem.Str.ofString "writable") 1158) (PySem.Value.ref 625),
      PySem.DictEntry.mk (PySem.PyData.keyHash P (PySem.Str.ofString "seekable"))
        (PySem.Value.str (PySem.Str.ofString "seekable") 1165) (PySem.Value.ref 632),
      PySem.DictEntry.mk (PySem.PyData.keyHash P (PySem.Str.ofString "isatty"))
        (PySem.Value.str (PySem.Str.ofString "isatty") 1172) (PySem.Value.ref 639),
      PySem.DictEntry.mk (PySem.PyData.keyHash P (PySem.Str.ofString "flush"))
        (PySem.Value.str (PySem.Str.ofString "flush") 1179) (PySem.Value.ref 646),
      PySem.DictEntry.mk (PySem.PyData.keyHash P (PySem.Str.ofString "fileno"))
        (PySem.Value.str (PySem.Str.ofString "fileno") 1186) (PySem.Value.ref 653),
      PySem.DictEntry.mk (PySem.PyData.keyHash P (PySem.Str.ofString "detach"))
        (PySem.Value.str (PySem.Str.ofString "detach") 1193) (PySem.Value.ref 660),
      PySem.DictEntry.mk (PySem.PyData.keyHash P (PySem.Str.ofString "getvalue"))
        (PySem.Value.str (PySem.Str.ofString "getvalue") 1200) (PySem.Value.ref 667),
      PySem.DictEntry.mk (PySem.PyData.keyHash P (PySem.Str.ofString "tell"))
        (PySem.Value.str (PySem.Str.ofString "tell") 1207) (PySem.Value.ref 674),
      PySem.DictEntry.mk (PySem.PyData.keyHash P (PySem.Str.ofString "seek"))
        (PySem.Value.str (PySem.Str.ofString "seek") 1217) (PySem.Value.ref 682),
      PySem.DictEntry.mk (PySem.PyData.keyHash P (PySem.Str.ofString "truncate"))
        (PySem.Value.str (PySem.Str.ofString "truncate") 1225) (PySem.Value.ref 690),
      PySem.DictEntry.mk (PySem.PyData.keyHash P (PySem.Str.ofString "read"))
        (PySem.Value.str (PySem.Str.ofString "read") 1237) (PySem.Value.ref 698),
      PySem.DictEntry.mk (PySem.PyData.keyHash P (PySem.Str.ofString "readline"))
        (PySem.Value.str (PySem.Str.ofString "readline") 1247) (PySem.Value.ref 706),
      PySem.DictEntry.mk (PySem.PyData.keyHash P (PySem.Str.ofString "readlines"))
        (PySem.Value.str (PySem.Str.ofString "readlines") 1257) (PySem.Value.ref 714),
      PySem.DictEntry.mk (PySem.PyData.keyHash P (PySem.Str.ofString "__iter__"))
        (PySem.Value.str (PySem.Str.ofString "__iter__") 1264) (PySem.Value.ref 721),
      PySem.DictEntry.mk (PySem.PyData.keyHash P (PySem.Str.ofString "__next__"))
        (PySem.Value.str (PySem.Str.ofString "__next__") 1272) (PySem.Value.ref 728),
      PySem.DictEntry.mk (PySem.PyData.keyHash P (PySem.Str.ofString "write"))
        (PySem.Value.str (PySem.Str.ofString "write") 1284) (PySem.Value.ref 735),
      PySem.DictEntry.mk (PySem.PyData.keyHash P (PySem.Str.ofString "writelines"))
        (PySem.Value.str (PySem.Str.ofString "writelines") 1292) (PySem.Value.ref 742),
      PySem.DictEntry.mk (PySem.PyData.keyHash P (PySem.Str.ofString "__repr__"))
        (PySem.Value.str (PySem.Str.ofString "__repr__") 1299) (PySem.Value.ref 749),
      PySem.DictEntry.mk (PySem.PyData.keyHash P (PySem.Str.ofString "__static_attributes__"))
        (PySem.Value.str (PySem.Str.ofString "__static_attributes__") 1303) (PySem.Value.ref 750),
      PySem.DictEntry.mk (PySem.PyData.keyHash P (PySem.Str.ofString "__doc__"))
        (PySem.Value.str (PySem.Str.ofString "__doc__") 1304) PySem.Value.none]
    2)
  #[]
@[reducible] noncomputable def o188 (P : PySem.Params) : PySem.Obj := PySem.Obj.mk (PySem.Value.type "type") Option.none
  (PySem.Data.cls
    (PySem.ClassData.mk (PySem.Str.ofString "Headers") [PySem.Value.type "object"]
      [PySem.Value.ref 188, PySem.Value.type "object"] 187 (PySem.Str.ofString "Headers") Bool.true [] [] Bool.false
      Option.none Bool.false))
  #[Option.none, Option.none, Option.some (PySem.Value.str (PySem.Str.ofString "Headers") 437),
    Option.some (PySem.Value.str (PySem.Str.ofString "Headers") 445),
    Option.some (PySem.Value.builtin "object.__new__"), Option.some (PySem.Value.bool Bool.true)]
@[reducible] noncomputable def o187 (P : PySem.Params) : PySem.Obj := PySem.Obj.mk (PySem.Value.type "dict") Option.none
  (PySem.Data.dict
    #[PySem.DictEntry.mk (PySem.PyData.keyHash P (PySem.Str.ofString "__module__"))
        (PySem.Value.str (PySem.Str.ofString "__module__") 444)
        (PySem.Value.str (PySem.Str.ofString "cpy313.wsgiref.headers") 331),
      PySem.DictEntry.mk (PySem.PyData.keyHash P (PySem.Str.ofString "__firstlineno__"))
        (PySem.Value.str (PySem.Str.ofString "__firstlineno__") 448) (PySem.Value.int 19 447),
      PySem.DictEntry.mk (PySem.PyData.keyHash P (PySem.Str.ofString "__init__"))
        (PySem.Value.str (PySem.Str.ofString "__init__") 458) (PySem.Value.ref 82),
      PySem.DictEntry.mk (PySem.PyData.keyHash P (PySem.Str.ofString "_convert_string_type"))
        (PySem.Value.str (PySem.Str.ofString "_convert_string_type") 468) (PySem.Value.ref 89),
      PySem.DictEntry.mk (PySem.PyData.keyHash P (PySem.Str.ofString "__len__"))
        (PySem.Value.str (PySem.Str.ofString "__len__") 475) (PySem.Value.ref 96),
      PySem.DictEntry.mk (PySem.PyData.keyHash P (PySem.Str.ofString "__setitem__"))
        (PySem.Value.str (PySem.Str.ofString "__setitem__") 484) (PySem.Value.ref 103),
      PySem.DictEntry.mk (PySem.PyData.keyHash P (PySem.Str.ofString "__delitem__"))
        (PySem.Value.str (PySem.Str.ofString "__delitem__") 490) (PySem.Value.ref 108),
      PySem.DictEntry.mk (PySem.PyData.keyHash P (PySem.Str.ofString "__getitem__"))
        (PySem.Value.str (PySem.Str.ofString "__getitem__") 498) (PySem.Value.ref 115),
      PySem.DictEntry.mk (PySem.PyData.keyHash P (PySem.Str.ofString "__contains__"))
        (PySem.Value.str (PySem.Str.ofString "__contains__") 506) (PySem.Value.ref 122),
      PySem.DictEntry.mk (PySem.PyData.keyHash P (PySem.Str.ofString "get_all"))
        (PySem.Value.str (PySem.Str.ofString "get_all") 512) (PySem.Value.ref 127),
      PySem.DictEntry.mk (PySem.PyData.keyHash P (PySem.Str.ofString "get"))
        (PySem.Value.str (PySem.Str.ofString "get") 523) (PySem.Value.ref 135),
      PySem.DictEntry.mk (PySem.PyData.keyHash P (PySem.Str.ofString "keys"))
        (PySem.Value.str (PySem.Str.ofString "keys") 529) (PySem.Value.ref 140),
      PySem.DictEntry.mk (PySem.PyData.keyHash P (PySem.Str.ofString "values"))
        (PySem.Value.str (PySem.Str.ofString "values") 535) (PySem.Value.ref 145),
      PySem.DictEntry.mk (PySem.PyData.keyHash P (PySem.Str.ofString "items"))
        (PySem.Value.str (PySem.Str.ofString "items") 542) (PySem.Value.ref 152),
      PySem.DictEntry.mk (PySem.PyData.keyHash P (PySem.Str.ofString "__repr__"))
        (PySem.Value.str (PySem.Str.ofString "__repr__") 549) (PySem.Value.ref 159),
      PySem.DictEntry.mk (PySem.PyData.keyHash P (PySem.Str.ofString "__str__"))
        (PySem.Value.str (PySem.Str.ofString "__str__") 555) (PySem.Value.ref 164),
      PySem.DictEntry.mk (PySem.PyData.keyHash P (PySem.Str.ofString "__bytes__"))
        (PySem.Value.str (PySem.Str.ofString "__bytes__") 562) (PySem.Value.ref 171),
      PySem.DictEntry.mk (PySem.PyData.keyHash P (PySem.Str.ofString "setdefault"))
        (PySem.Value.str (PySem.Str.ofString "setdefault") 571) (PySem.Value.ref 178),
      PySem.DictEntry.mk (PySem.PyData.keyHash P (PySem.Str.ofString "add_header"))
        (PySem.Value.str (PySem.Str.ofString "add_header") 584) (PySem.Value.ref 185),
      PySem.DictEntry.mk (PySem.PyData.keyHash P (PySem.Str.ofString "__static_attributes__"))
        (PySem.Value.str (PySem.Str.ofString "__static_attributes__") 586) (PySem.Value.ref 186),
      PySem.DictEntry.mk (PySem.PyData.keyHash P (PySem.Str.ofString "__dict__"))
        (PySem.Value.str (PySem.Str.ofString "__dict__") 588) (PySem.Value.ref 189),
      PySem.DictEntry.mk (PySem.PyData.keyHash P (PySem.Str.ofString "__weakref__"))
        (PySem.Value.str (PySem.Str.ofString "__weakref__") 590) (PySem.Value.ref 190),
      PySem.DictEntry.mk (PySem.PyData.keyHash P (PySem.Str.ofString "__doc__"))
        (PySem.Value.str (PySem.Str.ofString "__doc__") 591) PySem.Value.none]
    4)
  #[]
@[reducible] noncomputable def a855 : PySem.Arguments := litA (show (stAt (clsBody (stAt P0.main.body 29)) 6) = PySem.Stmt.FunctionDef _ _ _ _ _ _ _ _ _ _ from rfl)
@[reducible] noncomputable def b855 : List PySem.Stmt := litB (show (stAt (clsBody (stAt P0.main.body 29)) 6) = PySem.Stmt.FunctionDef _ _ _ _ _ _ _ _ _ _ from rfl)
@[reducible] noncomputable def s855 : PySem.Scope := litS (show (stAt (clsBody (stAt P0.main.body 29)) 6) = PySem.Stmt.FunctionDef _ _ _ _ _ _ _ _ _ _ from rfl)
@[reducible] noncomputable def o855 (P : PySem.Params) : PySem.Obj := PySem.Obj.mk (PySem.Value.type "function") none (PySem.Data.func (fnOf (PySem.Str.ofString "read_token") (PySem.Str.ofString "shlex.read_token") a855 b855 s855 (PySem.Value.none) (PySem.Value.none) (PySem.Value.none) (PySem.Value.str (PySem.Str.ofString "cpy313.shlex") 1365) none (PySem.Value.ref 854) (PySem.Value.none))) #[]
@[reducible] noncomputable def o854 (P : PySem.Params) : PySem.Obj := PySem.Obj.mk (PySem.Value.type "code") Option.none
  (PySem.Data.fields
    #[PySem.Value.str (PySem.Str.ofString "read_token") 1435,
      PySem.Value.str (PySem.Str.ofString "shlex.read_token") 1436,
      PySem.Value.str (PySem.Str.ofString "/claim/cut.py") 1437, PySem.Value.int 697 0, PySem.Value.int 1 0,
      PySem.Value.int 0 0, PySem.Value.int 0 0, PySem.Value.int 3 0, PySem.Value.ref 849, PySem.Value.bool Bool.true,
      PySem.Value.int 318 0, PySem.Value.ref 850, PySem.Value.none, PySem.Value.ref 851, PySem.Value.ref 852,
      PySem.Value.ref 853, PySem.Value.int 1443 0, PySem.Value.int 697 0,
      PySem.Value.str (PySem.Str.ofString "/claim/cut.py") 1444])
  #[]
@[reducible] noncomputable def a698 : PySem.Arguments := litA (show (stAt (clsBody (stAt P0.main.body 20)) 25) = PySem.Stmt.FunctionDef _ _ _ _ _ _ _ _ _ _ from rfl)
@[reducible] noncomputable def b698 : List PySem.Stmt := litB (show (stAt (clsBody (stAt P0.main.body 20)) 25) = PySem.Stmt.FunctionDef _ _ _ _ _ _ _ _ _ _ from rfl)
@[reducible] noncomputable def s698 : PySem.Scope := litS (show (stAt (clsBody (stAt P0.main.body 20)) 25) = PySem.Stmt.FunctionDef _ _ _ _ _ _ _ _ _ _ from rfl)
@[reducible] noncomputable def o698 (P : PySem.Params) : PySem.Obj := PySem.Obj.mk (PySem.Value.type "function") none (PySem.Data.func (fnOf (PySem.Str.ofString "read") (PySem.Str.ofString "StringIO.read") a698 b698 s698 (PySem.Value.ref 691) (PySem.Value.none) (PySem.Value.none) (PySem.Value.str (PySem.Str.ofString "io") 650) none (PySem.Value.ref 697) (PySem.Value.none))) #[]
@[reducible] noncomputable def o697 (P : PySem.Params) : PySem.Obj := PySem.Obj.mk (PySem.Value.type "code") Option.none
  (PySem.Data.fields
    #[PySem.Value.str (PySem.Str.ofString "read") 1228, PySem.Value.str (PySem.Str.ofString "StringIO.read") 1229,
      PySem.Value.str (PySem.Str.ofString "/claim/cut.py") 1230, PySem.Value.int 477 0, PySem.Value.int 2 0,
      PySem.Value.int 2 0, PySem.Value.int 0 0, PySem.Value.int 3 0, PySem.Value.ref 692, PySem.Value.bool Bool.true,
      PySem.Value.int 318 0, PySem.Value.ref 693, PySem.Value.none, PySem.Value.ref 694, PySem.Value.ref 695,
      PySem.Value.ref 696, PySem.Value.int 1235 0, PySem.Value.int 477 0,
      PySem.Value.str (PySem.Str.ofString "/claim/cut.py") 1236])
  #[]
@[reducible] noncomputable def o691 (P : PySem.Params) : PySem.Obj := PySem.Obj.mk (PySem.Value.type "tuple") Option.none (PySem.Data.seq #[PySem.Value.int (-1) 1227]) #[]
@[reducible] noncomputable def a218 : PySem.Arguments := litA (show (stAt P0.main.body 14) = PySem.Stmt.FunctionDef _ _ _ _ _ _ _ _ _ _ from rfl)
@[reducible] noncomputable def b218 : List PySem.Stmt := litB (show (stAt P0.main.body 14) = PySem.Stmt.FunctionDef _ _ _ _ _ _ _ _ _ _ from rfl)
@[reducible] noncomputable def s218 : PySem.Scope := litS (show (stAt P0.main.body 14) = PySem.Stmt.FunctionDef _ _ _ _ _ _ _ _ _ _ from rfl)
@[reducible] noncomputable def o218 (P : PySem.Params) : PySem.Obj := PySem.Obj.mk (PySem.Value.type "function") none (PySem.Data.func (fnOf (PySem.Str.ofString "_index") (PySem.Str.ofString "_index") a218 b218 s218 (PySem.Value.none) (PySem.Value.none) (PySem.Value.none) (PySem.Value.str (PySem.Str.ofString "io") 650) none (PySem.Value.ref 217) (PySem.Value.none))) #[]
@[reducible] noncomputable def o217 (P : PySem.Params) : PySem.Obj := PySem.Obj.mk (PySem.Value.type "code") Option.none
  (PySem.Data.fields
    #[PySem.Value.str (PySem.Str.ofString "_index") 660, PySem.Value.str (PySem.Str.ofString "_index") 661,
      PySem.Value.str (PySem.Str.ofString "/claim/cut.py") 662, PySem.Value.int 141 0, PySem.Value.int 2 0,
      PySem.Value.int 0 0, PySem.Value.int 0 0, PySem.Value.int 3 0, PySem.Value.ref 212, PySem.Value.bool Bool.true,
      PySem.Value.int 318 0, PySem.Value.ref 213, PySem.Value.none, PySem.Value.ref 214, PySem.Value.ref 215,
      PySem.Value.ref 216, PySem.Value.int 665 0, PySem.Value.int 141 0,
      PySem.Value.str (PySem.Str.ofString "/claim/cut.py") 666])
  #[]
@[reducible] noncomputable def a536 : PySem.Arguments := litA (show (stAt (clsBody (stAt P0.main.body 20)) 3) = PySem.Stmt.FunctionDef _ _ _ _ _ _ _ _ _ _ from rfl)
@[reducible] noncomputable def b536 : List PySem.Stmt := litB (show (stAt (clsBody (stAt P0.main.body 20)) 3) = PySem.Stmt.FunctionDef _ _ _ _ _ _ _ _ _ _ from rfl)
@[reducible] noncomputable def s536 : PySem.Scope := litS (show (stAt (clsBody (stAt P0.main.body 20)) 3) = PySem.Stmt.FunctionDef _ _ _ _ _ _ _ _ _ _ from rfl)
@[reducible] noncomputable def o536 (P : PySem.Params) : PySem.Obj := PySem.Obj.mk (PySem.Value.type "function") none (PySem.Data.func (fnOf (PySem.Str.ofString "__check") (PySem.Str.ofString "StringIO.__check") a536 b536 s536 (PySem.Value.none) (PySem.Value.none) (PySem.Value.none) (PySem.Value.str (PySem.Str.ofString "io") 650) none (PySem.Value.ref 535) (PySem.Value.none))) #[]
@[reducible] noncomputable def o535 (P : PySem.Params) : PySem.Obj := PySem.Obj.mk (PySem.Value.type "code") Option.none
  (PySem.Data.fields
    #[PySem.Value.str (PySem.Str.ofString "__check") 1054, PySem.Value.str (PySem.Str.ofString "StringIO.__check") 1055,
      PySem.Value.str (PySem.Str.ofString "/claim/cut.py") 1056, PySem.Value.int 355 0, PySem.Value.int 1 0,
      PySem.Value.int 0 0, PySem.Value.int 0 0, PySem.Value.int 3 0, PySem.Value.ref 530, PySem.Value.bool Bool.true,
      PySem.Value.int 318 0, PySem.Value.ref 531, PySem.Value.none, PySem.Value.ref 532, PySem.Value.ref 533,
      PySem.Value.ref 534, PySem.Value.int 1058 0, PySem.Value.int 355 0,
      PySem.Value.str (PySem.Str.ofString "/claim/cut.py") 1059])
  #[]
@[reducible] noncomputable def a818 : PySem.Arguments := litA (show (stAt (clsBody (stAt P0.main.body 29)) 1) = PySem.Stmt.FunctionDef _ _ _ _ _ _ _ _ _ _ from rfl)
@[reducible] noncomputable def b818 : List PySem.Stmt := litB (show (stAt (clsBody (stAt P0.main.body 29)) 1) = PySem.Stmt.FunctionDef _ _ _ _ _ _ _ _ _ _ from rfl)
@[reducible] noncomputable def s818 : PySem.Scope := litS (show (stAt (clsBody (stAt P0.main.body 29)) 1) = PySem.Stmt.FunctionDef _ _ _ _ _ _ _ _ _ _ from rfl)
@[reducible] noncomputable def o818 (P : PySem.Params) : PySem.Obj := PySem.Obj.mk (PySem.Value.type "function") none (PySem.Data.func (fnOf (PySem.Str.ofString "punctuation_chars") (PySem.Str.ofString "shlex.punctuation_chars") a818 b818 s818 (PySem.Value.none) (PySem.Value.none) (PySem.Value.none) (PySem.Value.str (PySem.Str.ofString "cpy313.shlex") 1365) none (PySem.Value.ref 817) (PySem.Value.none))) #[]
@[reducible] noncomputable def o817 (P : PySem.Params) : PySem.Obj := PySem.Obj.mk (PySem.Value.type "code") Option.none
  (PySem.Data.fields
    #[PySem.Value.str (PySem.Str.ofString "punctuation_chars") 1391,
      PySem.Value.str (PySem.Str.ofString "shlex.punctuation_chars") 1392,
      PySem.Value.str (PySem.Str.ofString "/claim/cut.py") 1393, PySem.Value.int 643 0, PySem.Value.int 1 0,
      PySem.Value.int 0 0, PySem.Value.int 0 0, PySem.Value.int 3 0, PySem.Value.ref 812, PySem.Value.bool Bool.true,
      PySem.Value.int 318 0, PySem.Value.ref 813, PySem.Value.none, PySem.Value.ref 814, PySem.Value.ref 815,
      PySem.Value.ref 816, PySem.Value.int 1395 0, PySem.Value.int 643 0,
      PySem.Value.str (PySem.Str.ofString "/claim/cut.py") 1396])
  #[]
@[reducible] noncomputable def o819 (P : PySem.Params) : PySem.Obj := PySem.Obj.mk (PySem.Value.type "property") Option.none
  (PySem.Data.fields
    #[PySem.Value.ref 818, PySem.Value.none, PySem.Value.none, PySem.Value.none,
      PySem.Value.str (PySem.Str.ofString "punctuation_chars") 1398, PySem.Value.bool Bool.false])
  #[]
@[reducible] noncomputable def a848 : PySem.Arguments := litA (show (stAt (clsBody (stAt P0.main.body 29)) 5) = PySem.Stmt.FunctionDef _ _ _ _ _ _ _ _ _ _ from rfl)
@[reducible] noncomputable def b848 : List PySem.Stmt := litB (show (stAt (clsBody (stAt P0.main.body 29)) 5) = PySem.Stmt.FunctionDef _ _ _ _ _ _ _ _ _ _ from rfl)
@[reducible] noncomputable def s848 : PySem.Scope := litS (show (stAt (clsBody (stAt P0.main.body 29)) 5) = PySem.Stmt.FunctionDef _ _ _ _ _ _ _ _ _ _ from rfl)
@[reducible] noncomputable def o848 (P : PySem.Params) : PySem.Obj := PySem.Obj.mk (PySem.Value.type "function") none (PySem.Data.func (fnOf (PySem.Str.ofString "get_token") (PySem.Str.ofString "shlex.get_token") a848 b848 s848 (PySem.Value.none) (PySem.Value.none) (PySem.Value.none) (PySem.Value.str (PySem.Str.ofString "cpy313.shlex") 1365) none (PySem.Value.ref 847) (PySem.Value.none))) #[]
@[reducible] noncomputable def o847 (P : PySem.Params) : PySem.Obj := PySem.Obj.mk (PySem.Value.type "code") Option.none
  (PySem.Data.fields
    #[PySem.Value.str (PySem.Str.ofString "get_token") 1423,
      PySem.Value.str (PySem.Str.ofString "shlex.get_token") 1424,
      PySem.Value.str (PySem.Str.ofString "/claim/cut.py") 1425, PySem.Value.int 670 0, PySem.Value.int 1 0,
      PySem.Value.int 0 0, PySem.Value.int 0 0, PySem.Value.int 3 0, PySem.Value.ref 842, PySem.Value.bool Bool.true,
      PySem.Value.int 318 0, PySem.Value.ref 843, PySem.Value.none, PySem.Value.ref 844, PySem.Value.ref 845,
      PySem.Value.ref 846, PySem.Value.int 1432 0, PySem.Value.int 670 0,
      PySem.Value.str (PySem.Str.ofString "/claim/cut.py") 1433])
  #[]
@[reducible] noncomputable def a884 : PySem.Arguments := litA (show (stAt (clsBody (stAt P0.main.body 29)) 10) = PySem.Stmt.FunctionDef _ _ _ _ _ _ _ _ _ _ from rfl)
@[reducible] noncomputable def b884 : List PySem.Stmt := litB (show (stAt (clsBody (stAt P0.main.body 29)) 10) = PySem.Stmt.FunctionDef _ _ _ _ _ _ _ _ _ _ from rfl)
@[reducible] noncomputable def s884 : PySem.Scope := litS (show (stAt (clsBody (stAt P0.main.body 29)) 10) = PySem.Stmt.FunctionDef _ _ _ _ _ _ _ _ _ _ from rfl)
@[reducible] noncomputable def o884 (P : PySem.Params) : PySem.Obj := PySem.Obj.mk (PySem.Value.type "function") none (PySem.Data.func (fnOf (PySem.Str.ofString "__next__") (PySem.Str.ofString "shlex.__next__") a884 b884 s884 (PySem.Value.none) (PySem.Value.none) (PySem.Value.none) (PySem.Value.str (PySem.Str.ofString "cpy313.shlex") 1365) none (PySem.Value.ref 883) (PySem.Value.none))) #[]
@[reducible] noncomputable def o883 (P : PySem.Params) : PySem.Obj := PySem.Obj.mk (PySem.Value.type "code") Option.none
  (PySem.Data.fields
    #[PySem.Value.str (PySem.Str.ofString "__next__") 1470, PySem.Value.str (PySem.Str.ofString "shlex.__next__") 1471,
      PySem.Value.str (PySem.Str.ofString "/claim/cut.py") 1472, PySem.Value.int 847 0, PySem.Value.int 1 0,
      PySem.Value.int 0 0, PySem.Value.int 0 0, PySem.Value.int 3 0, PySem.Value.ref 878, PySem.Value.bool Bool.true,
      PySem.Value.int 318 0, PySem.Value.ref 879, PySem.Value.none, PySem.Value.ref 880, PySem.Value.ref 881,
      PySem.Value.ref 882, PySem.Value.int 1475 0, PySem.Value.int 847 0,
      PySem.Value.str (PySem.Str.ofString "/claim/cut.py") 1476])
  #[]
@[reducible] noncomputable def a877 : PySem.Arguments := litA (show (stAt (clsBody (stAt P0.main.body 29)) 9) = PySem.Stmt.FunctionDef _ _ _ _ _ _ _ _ _ _ from rfl)
@[reducible] noncomputable def b877 : List PySem.Stmt := litB (show (stAt (clsBody (stAt P0.main.body 29)) 9) = PySem.Stmt.FunctionDef _ _ _ _ _ _ _ _ _ _ from rfl)
@[reducible] noncomputable def s877 : PySem.Scope := litS (show (stAt (clsBody (stAt P0.main.body 29)) 9) = PySem.Stmt.FunctionDef _ _ _ _ _ _ _ _ _ _ from rfl)
@[reducible] noncomputable def o877 (P : PySem.Params) : PySem.Obj := PySem.Obj.mk (PySem.Value.type "function") none (PySem.Data.func (fnOf (PySem.Str.ofString "__iter__") (PySem.Str.ofString "shlex.__iter__") a877 b877 s877 (PySem.Value.none) (PySem.Value.none) (PySem.Value.none) (PySem.Value.str (PySem.Str.ofString "cpy313.shlex") 1365) none (PySem.Value.ref 876) (PySem.Value.none))) #[]
@[reducible] noncomputable def o876 (P : PySem.Params) : PySem.Obj := PySem.Obj.mk (PySem.Value.type "code") Option.none
  (PySem.Data.fields
    #[PySem.Value.str (PySem.Str.ofString "__iter__") 1463, PySem.Value.str (PySem.Str.ofString "shlex.__iter__") 1464,
      PySem.Value.str (PySem.Str.ofString "/claim/cut.py") 1465, PySem.Value.int 844 0, PySem.Value.int 1 0,
      PySem.Value.int 0 0, PySem.Value.int 0 0, PySem.Value.int 3 0, PySem.Value.ref 871, PySem.Value.bool Bool.true,
      PySem.Value.int 318 0, PySem.Value.ref 872, PySem.Value.none, PySem.Value.ref 873, PySem.Value.ref 874,
      PySem.Value.ref 875, PySem.Value.int 1467 0, PySem.Value.int 844 0,
      PySem.Value.str (PySem.Str.ofString "/claim/cut.py") 1468])
  #[]
@[reducible] noncomputable def a811 : PySem.Arguments := litA (show (stAt (clsBody (stAt P0.main.body 29)) 0) = PySem.Stmt.FunctionDef _ _ _ _ _ _ _ _ _ _ from rfl)
@[reducible] noncomputable def b811 : List PySem.Stmt := litB (show (stAt (clsBody (stAt P0.main.body 29)) 0) = PySem.Stmt.FunctionDef _ _ _ _ _ _ _ _ _ _ from rfl)
@[reducible] noncomputable def s811 : PySem.Scope := litS (show (stAt (clsBody (stAt P0.main.body 29)) 0) = PySem.Stmt.FunctionDef _ _ _ _ _ _ _ _ _ _ from rfl)
@[reducible] noncomputable def o811 (P : PySem.Params) : PySem.Obj := PySem.Obj.mk (PySem.Value.type "function") none (PySem.Data.func (fnOf (PySem.Str.ofString "__init__") (PySem.Str.ofString "shlex.__init__") a811 b811 s811 (PySem.Value.ref 804) (PySem.Value.none) (PySem.Value.none) (PySem.Value.str (PySem.Str.ofString "cpy313.shlex") 1365) none (PySem.Value.ref 810) (PySem.Value.none))) #[]
@[reducible] noncomputable def o810 (P : PySem.Params) : PySem.Obj := PySem.Obj.mk (PySem.Value.type "code") Option.none
  (PySem.Data.fields
    #[PySem.Value.str (PySem.Str.ofString "__init__") 1379, PySem.Value.str (PySem.Str.ofString "shlex.__init__") 1380,
      PySem.Value.str (PySem.Str.ofString "/claim/cut.py") 1381, PySem.Value.int 602 0, PySem.Value.int 5 0,
      PySem.Value.int 0 0, PySem.Value.int 0 0, PySem.Value.int 3 0, PySem.Value.ref 805, PySem.Value.bool Bool.true,
      PySem.Value.int 318 0, PySem.Value.ref 806, PySem.Value.none, PySem.Value.ref 807, PySem.Value.ref 808,
      PySem.Value.ref 809, PySem.Value.int 1388 0, PySem.Value.int 602 0,
      PySem.Value.str (PySem.Str.ofString "/claim/cut.py") 1389])
  #[]
@[reducible] noncomputable def o804 (P : PySem.Params) : PySem.Obj := PySem.Obj.mk (PySem.Value.type "tuple") Option.none
  (PySem.Data.seq #[PySem.Value.none, PySem.Value.none, PySem.Value.bool Bool.false, PySem.Value.bool Bool.false]) #[]
@[reducible] noncomputable def a899 : PySem.Arguments := litA (show (stAt P0.main.body 30) = PySem.Stmt.FunctionDef _ _ _ _ _ _ _ _ _ _ from rfl)
@[reducible] noncomputable def b899 : List PySem.Stmt := litB (show (stAt P0.main.body 30) = PySem.Stmt.FunctionDef _ _ _ _ _ _ _ _ _ _ from rfl)
@[reducible] noncomputable def s899 : PySem.Scope := litS (show (stAt P0.main.body 30) = PySem.Stmt.FunctionDef _ _ _ _ _ _ _ _ _ _ from rfl)
@[reducible] noncomputable def o899 (P : PySem.Params) : PySem.Obj := PySem.Obj.mk (PySem.Value.type "function") none (PySem.Data.func (fnOf (PySem.Str.ofString "split") (PySem.Str.ofString "split") a899 b899 s899 (PySem.Value.ref 892) (PySem.Value.none) (PySem.Value.none) (PySem.Value.str (PySem.Str.ofString "cpy313.shlex") 1365) none (PySem.Value.ref 898) (PySem.Value.none))) #[]
@[reducible] noncomputable def o898 (P : PySem.Params) : PySem.Obj := PySem.Obj.mk (PySem.Value.type "code") Option.none
  (PySem.Data.fields
    #[PySem.Value.str (PySem.Str.ofString "split") 1506, PySem.Value.str (PySem.Str.ofString "split") 1507,
      PySem.Value.str (PySem.Str.ofString "/claim/cut.py") 1508, PySem.Value.int 852 0, PySem.Value.int 3 0,
      PySem.Value.int 0 0, PySem.Value.int 0 0, PySem.Value.int 3 0, PySem.Value.ref 893, PySem.Value.bool Bool.true,
      PySem.Value.int 318 0, PySem.Value.ref 894, PySem.Value.none, PySem.Value.ref 895, PySem.Value.ref 896,
      PySem.Value.ref 897, PySem.Value.int 1513 0, PySem.Value.int 852 0,
      PySem.Value.str (PySem.Str.ofString "/claim/cut.py") 1514])
  #[]
@[reducible] noncomputable def o892 (P : PySem.Params) : PySem.Obj := PySem.Obj.mk (PySem.Value.type "tuple") Option.none
  (PySem.Data.seq #[PySem.Value.bool Bool.false, PySem.Value.bool Bool.true]) #[]
@[reducible] noncomputable def a522 : PySem.Arguments := litA (show (stAt (clsBody (stAt P0.main.body 20)) 1) = PySem.Stmt.FunctionDef _ _ _ _ _ _ _ _ _ _ from rfl)
@[reducible] noncomputable def b522 : List PySem.Stmt := litB (show (stAt (clsBody (stAt P0.main.body 20)) 1) = PySem.Stmt.FunctionDef _ _ _ _ _ _ _ _ _ _ from rfl)
@[reducible] noncomputable def s522 : PySem.Scope := litS (show (stAt (clsBody (stAt P0.main.body 20)) 1) = PySem.Stmt.FunctionDef _ _ _ _ _ _ _ _ _ _ from rfl)
@[reducible] noncomputable def o522 (P : PySem.Params) : PySem.Obj := PySem.Obj.mk (PySem.Value.type "function") none (PySem.Data.func (fnOf (PySem.Str.ofString "__init__") (PySem.Str.ofString "StringIO.__init__") a522 b522 s522 (PySem.Value.ref 515) (PySem.Value.none) (PySem.Value.none) (PySem.Value.str (PySem.Str.ofString "io") 650) none (PySem.Value.ref 521) (PySem.Value.none))) #[]
@[reducible] noncomputable def o521 (P : PySem.Params) : PySem.Obj := PySem.Obj.mk (PySem.Value.type "code") Option.none
  (PySem.Data.fields
    #[PySem.Value.str (PySem.Str.ofString "__init__") 1036,
      PySem.Value.str (PySem.Str.ofString "StringIO.__init__") 1037,
      PySem.Value.str (PySem.Str.ofString "/claim/cut.py") 1038, PySem.Value.int 334 0, PySem.Value.int 3 0,
      PySem.Value.int 0 0, PySem.Value.int 0 0, PySem.Value.int 3 0, PySem.Value.ref 516, PySem.Value.bool Bool.true,
      PySem.Value.int 318 0, PySem.Value.ref 517, PySem.Value.none, PySem.Value.ref 518, PySem.Value.ref 519,
      PySem.Value.ref 520, PySem.Value.int 1042 0, PySem.Value.int 334 0,
      PySem.Value.str (PySem.Str.ofString "/claim/cut.py") 1043])
  #[]
@[reducible] noncomputable def o515 (P : PySem.Params) : PySem.Obj := PySem.Obj.mk (PySem.Value.type "tuple") Option.none
  (PySem.Data.seq #[PySem.Value.str (PySem.Str.ofString "") 1034, PySem.Value.str (PySem.Str.ofString "\n") 1035]) #[]
@[reducible] noncomputable def a529 : PySem.Arguments := litA (show (stAt (clsBody (stAt P0.main.body 20)) 2) = PySem.Stmt.FunctionDef _ _ _ _ _ _ _ _ _ _ from rfl)
@[reducible] noncomputable def b529 : List PySem.Stmt := litB (show (stAt (clsBody (stAt P0.main.body 20)) 2) = PySem.Stmt.FunctionDef _ _ _ _ _ _ _ _ _ _ from rfl)
@[reducible] noncomputable def s529 : PySem.Scope := litS (show (stAt (clsBody (stAt P0.main.body 20)) 2) = PySem.Stmt.FunctionDef _ _ _ _ _ _ _ _ _ _ from rfl)
@[reducible] noncomputable def o529 (P : PySem.Params) : PySem.Obj := PySem.Obj.mk (PySem.Value.type "function") none (PySem.Data.func (fnOf (PySem.Str.ofString "__translated") (PySem.Str.ofString "StringIO.__translated") a529 b529 s529 (PySem.Value.none) (PySem.Value.none) (PySem.Value.none) (PySem.Value.str (PySem.Str.ofString "io") 650) none (PySem.Value.ref 528) (PySem.Value.none))) #[]
@[reducible] noncomputable def o528 (P : PySem.Params) : PySem.Obj := PySem.Obj.mk (PySem.Value.type "code") Option.none
  (PySem.Data.fields
    #[PySem.Value.str (PySem.Str.ofString "__translated") 1045,
      PySem.Value.str (PySem.Str.ofString "StringIO.__translated") 1046,
      PySem.Value.str (PySem.Str.ofString "/claim/cut.py") 1047, PySem.Value.int 347 0, PySem.Value.int 2 0,
      PySem.Value.int 0 0, PySem.Value.int 0 0, PySem.Value.int 3 0, PySem.Value.ref 523, PySem.Value.bool Bool.true,
      PySem.Value.int 318 0, PySem.Value.ref 524, PySem.Value.none, PySem.Value.ref 525, PySem.Value.ref 526,
      PySem.Value.ref 527, PySem.Value.int 1051 0, PySem.Value.int 347 0,
      PySem.Value.str (PySem.Str.ofString "/claim/cut.py") 1052])
  #[]
@[reducible] noncomputable def o248 (P : PySem.Params) : PySem.Obj := PySem.Obj.mk (PySem.Value.type "type") Option.none
  (PySem.Data.cls
    (PySem.ClassData.mk (PySem.Str.ofString "IOBase") [PySem.Value.type "object"]
      [PySem.Value.ref 248, PySem.Value.type "object"] 247 (PySem.Str.ofString "IOBase") Bool.true []
      [PySem.Value.ref 263, PySem.Value.ref 275] Bool.false Option.none Bool.false))
  #[Option.none, Option.none, Option.some (PySem.Value.str (PySem.Str.ofString "IOBase") 690),
    Option.some (PySem.Value.str (PySem.Str.ofString "IOBase") 698), Option.some PySem.Value.none,
    Option.some (PySem.Value.bool Bool.true)]
@[reducible] noncomputable def o247 (P : PySem.Params) : PySem.Obj := PySem.Obj.mk (PySem.Value.type "dict") Option.none
  (PySem.Data.dict
    #[PySem.DictEntry.mk (PySem.PyData.keyHash P (PySem.Str.ofString "__module__"))
        (PySem.Value.str (PySem.Str.ofString "__module__") 697) (PySem.Value.str (PySem.Str.ofString "io") 702),
      PySem.DictEntry.mk (PySem.PyData.keyHash P (PySem.Str.ofString "__firstlineno__"))
        (PySem.Value.str (PySem.Str.ofString "__firstlineno__") 701) (PySem.Value.int 150 700),
      PySem.DictEntry.mk (PySem.PyData.keyHash P (PySem.Str.ofString "__new__"))
        (PySem.Value.str (PySem.Str.ofString "__new__") 712) (PySem.Value.ref 249),
      PySem.DictEntry.mk (PySem.PyData.keyHash P (PySem.Str.ofString "__static_attributes__"))
        (PySem.Value.str (PySem.Str.ofString "__static_attributes__") 713) (PySem.Value.ref 246),
      PySem.DictEntry.mk (PySem.PyData.keyHash P (PySem.Str.ofString "__dict__"))
        (PySem.Value.str (PySem.Str.ofString "__dict__") 716) (PySem.Value.ref 250),
      PySem.DictEntry.mk (PySem.PyData.keyHash P (PySem.Str.ofString "__weakref__"))
        (PySem.Value.str (PySem.Str.ofString "__weakref__") 718) (PySem.Value.ref 251),
      PySem.DictEntry.mk (PySem.PyData.keyHash P (PySem.Str.ofString "__doc__"))
        (PySem.Value.str (PySem.Str.ofString "__doc__") 719) PySem.Value.none]
    4)
  #[]
@[reducible] noncomputable def o249 (P : PySem.Params) : PySem.Obj := PySem.Obj.mk (PySem.Value.type "staticmethod") Option.none (PySem.Data.fields #[PySem.Value.ref 245]) #[]
@[reducible] noncomputable def a245 : PySem.Arguments := litA (show (stAt (clsBody (stAt P0.main.body 16)) 1) = PySem.Stmt.FunctionDef _ _ _ _ _ _ _ _ _ _ from rfl)
@[reducible] noncomputable def b245 : List PySem.Stmt := litB (show (stAt (clsBody (stAt P0.main.body 16)) 1) = PySem.Stmt.FunctionDef _ _ _ _ _ _ _ _ _ _ from rfl)
@[reducible] noncomputable def s245 : PySem.Scope := litS (show (stAt (clsBody (stAt P0.main.body 16)) 1) = PySem.Stmt.FunctionDef _ _ _ _ _ _ _ _ _ _ from rfl)
@[reducible] noncomputable def o245 (P : PySem.Params) : PySem.Obj := PySem.Obj.mk (PySem.Value.type "function") none (PySem.Data.func (fnOf (PySem.Str.ofString "__new__") (PySem.Str.ofString "IOBase.__new__") a245 b245 s245 (PySem.Value.none) (PySem.Value.none) (PySem.Value.none) (PySem.Value.str (PySem.Str.ofString "io") 650) none (PySem.Value.ref 244) (PySem.Value.none))) #[]
@[reducible] noncomputable def o244 (P : PySem.Params) : PySem.Obj := PySem.Obj.mk (PySem.Value.type "code") Option.none
  (PySem.Data.fields
    #[PySem.Value.str (PySem.Str.ofString "__new__") 704, PySem.Value.str (PySem.Str.ofString "IOBase.__new__") 705,
      PySem.Value.str (PySem.Str.ofString "/claim/cut.py") 706, PySem.Value.int 153 0, PySem.Value.int 1 0,
      PySem.Value.int 1 0, PySem.Value.int 0 0, PySem.Value.int 15 0, PySem.Value.ref 239, PySem.Value.bool Bool.true,
      PySem.Value.int 318 0, PySem.Value.ref 240, PySem.Value.none, PySem.Value.ref 241, PySem.Value.ref 242,
      PySem.Value.ref 243, PySem.Value.int 710 0, PySem.Value.int 153 0,
      PySem.Value.str (PySem.Str.ofString "/claim/cut.py") 711])
  #[]
@[reducible] noncomputable def o275 (P : PySem.Params) : PySem.Obj := PySem.Obj.mk (PySem.Value.type "type") Option.none
  (PySem.Data.cls
    (PySem.ClassData.mk (PySem.Str.ofString "TextIOBase") [PySem.Value.ref 248]
      [PySem.Value.ref 275, PySem.Value.ref 248, PySem.Value.type "object"] 274 (PySem.Str.ofString "TextIOBase")
      Bool.true [] [PySem.Value.ref 752] Bool.false Option.none Bool.false))
  #[Option.some (PySem.Value.ref 266), Option.none, Option.some (PySem.Value.str (PySem.Str.ofString "TextIOBase") 740),
    Option.some (PySem.Value.str (PySem.Str.ofString "TextIOBase") 748), Option.some PySem.Value.none,
    Option.some (PySem.Value.bool Bool.true)]
@[reducible] noncomputable def o274 (P : PySem.Params) : PySem.Obj := PySem.Obj.mk (PySem.Value.type "dict") Option.none
  (PySem.Data.dict
    #[PySem.DictEntry.mk (PySem.PyData.keyHash P (PySem.Str.ofString "__module__"))
        (PySem.Value.str (PySem.Str.ofString "__module__") 747) (PySem.Value.str (PySem.Str.ofString "io") 752),
      PySem.DictEntry.mk (PySem.PyData.keyHash P (PySem.Str.ofString "__firstlineno__"))
        (PySem.Value.str (PySem.Str.ofString "__firstlineno__") 751) (PySem.Value.int 159 750),
      PySem.DictEntry.mk (PySem.PyData.keyHash P (PySem.Str.ofString "__static_attributes__"))
        (PySem.Value.str (PySem.Str.ofString "__static_attributes__") 754) (PySem.Value.ref 273),
      PySem.DictEntry.mk (PySem.PyData.keyHash P (PySem.Str.ofString "__doc__"))
        (PySem.Value.str (PySem.Str.ofString "__doc__") 755) PySem.Value.none]
    2)
  #[]
@[reducible] noncomputable def o250 (P : PySem.Params) : PySem.Obj := PySem.Obj.mk (PySem.Value.type "getset_descriptor") Option.none
  (PySem.Data.fields
    #[PySem.Value.str (PySem.Str.ofString "__dict__") 715, PySem.Value.ref 248, PySem.Value.builtin "function.__dict__",
      PySem.Value.builtin "function.__dict__#set"])
  #[]
@[reducible] noncomputable def o888 (P : PySem.Params) : PySem.Obj := PySem.Obj.mk (PySem.Value.type "getset_descriptor") Option.none
  (PySem.Data.fields
    #[PySem.Value.str (PySem.Str.ofString "__dict__") 1499, PySem.Value.ref 887,
      PySem.Value.builtin "function.__dict__", PySem.Value.builtin "function.__dict__#set"])
  #[]
@[reducible] noncomputable def o189 (P : PySem.Params) : PySem.Obj := PySem.Obj.mk (PySem.Value.type "getset_descriptor") Option.none
  (PySem.Data.fields
    #[PySem.Value.str (PySem.Str.ofString "__dict__") 587, PySem.Value.ref 188, PySem.Value.builtin "function.__dict__",
      PySem.Value.builtin "function.__dict__#set"])
  #[]
@[reducible] noncomputable def a907 : PySem.Arguments := litA (show (stAt P0.main.body 32) = PySem.Stmt.FunctionDef _ _ _ _ _ _ _ _ _ _ from rfl)
@[reducible] noncomputable def b907 : List PySem.Stmt := litB (show (stAt P0.main.body 32) = PySem.Stmt.FunctionDef _ _ _ _ _ _ _ _ _ _ from rfl)
@[reducible] noncomputable def s907 : PySem.Scope := litS (show (stAt P0.main.body 32) = PySem.Stmt.FunctionDef _ _ _ _ _ _ _ _ _ _ from rfl)
@[reducible] noncomputable def o907 (P : PySem.Params) : PySem.Obj := PySem.Obj.mk (PySem.Value.type "function") none (PySem.Data.func (fnOf (PySem.Str.ofString "quote") (PySem.Str.ofString "quote") a907 b907 s907 (PySem.Value.none) (PySem.Value.none) (PySem.Value.none) (PySem.Value.str (PySem.Str.ofString "cpy313.shlex") 1365) none (PySem.Value.ref 906) (PySem.Value.none))) #[]
@[reducible] noncomputable def o906 (P : PySem.Params) : PySem.Obj := PySem.Obj.mk (PySem.Value.type "code") Option.none
  (PySem.Data.fields
    #[PySem.Value.str (PySem.Str.ofString "quote") 1518, PySem.Value.str (PySem.Str.ofString "quote") 1519,
      PySem.Value.str (PySem.Str.ofString "/claim/cut.py") 1520, PySem.Value.int 861 0, PySem.Value.int 1 0,
      PySem.Value.int 0 0, PySem.Value.int 0 0, PySem.Value.int 3 0, PySem.Value.ref 901, PySem.Value.bool Bool.true,
      PySem.Value.int 318 0, PySem.Value.ref 902, PySem.Value.none, PySem.Value.ref 903, PySem.Value.ref 904,
      PySem.Value.ref 905, PySem.Value.int 1522 0, PySem.Value.int 861 0,
      PySem.Value.str (PySem.Str.ofString "/claim/cut.py") 1523])
  #[]
@[reducible] noncomputable def o900 (P : PySem.Params) : PySem.Obj := PySem.Obj.mk (PySem.Value.type "builtin_function_or_method") Option.none
  (PySem.Data.fields #[PySem.Value.builtin "re.Pattern.search", PySem.Value.ref 204]) #[]
@[reducible] noncomputable def o204 (P : PySem.Params) : PySem.Obj := PySem.Obj.mk (PySem.Value.type "re.Pattern") Option.none
  (PySem.Data.fields
    #[PySem.Value.str (PySem.Str.ofString "[^\\w@%+=:,./-]") 611, PySem.Value.int 256 648, PySem.Value.int 0 0,
      PySem.Value.none, PySem.Value.none, PySem.Value.ref 203, PySem.Value.int 0 0])
  #[]
@[reducible] noncomputable def o203 (P : PySem.Params) : PySem.Obj := PySem.Obj.mk (PySem.Value.type "tuple") Option.none
  (PySem.Data.seq
    #[PySem.Value.int 14 0, PySem.Value.int 17 0, PySem.Value.int 4 0, PySem.Value.int 1 0, PySem.Value.int 1 0,
      PySem.Value.int 21 0, PySem.Value.int 9 0, PySem.Value.int 0 0, PySem.Value.int 604043296 0, PySem.Value.int 1 0,
      PySem.Value.int 0 0, PySem.Value.int 0 0, PySem.Value.int 0 0, PySem.Value.int 0 0, PySem.Value.int 0 0,
      PySem.Value.int 8 0, PySem.Value.int 4 0, PySem.Value.int 0 0, PySem.Value.int 13 0, PySem.Value.int 14 0,
      PySem.Value.int 21 0, PySem.Value.int 9 0, PySem.Value.int 0 0, PySem.Value.int 604043296 0, PySem.Value.int 1 0,
      PySem.Value.int 0 0, PySem.Value.int 0 0, PySem.Value.int 0 0, PySem.Value.int 0 0, PySem.Value.int 0 0,
      PySem.Value.int 8 0, PySem.Value.int 4 0, PySem.Value.int 0 0, PySem.Value.int 1 0])
  #[]
@[reducible] noncomputable def o59 (P : PySem.Params) : PySem.Obj := PySem.Obj.mk (PySem.Value.type "re.Pattern") Option.none
  (PySem.Data.fields
    #[PySem.Value.str (PySem.Str.ofString "[\\x00-\\x08\\x0A-\\x1F\\x7F]") 394, PySem.Value.int 32 425,
      PySem.Value.int 0 0, PySem.Value.none, PySem.Value.none, PySem.Value.ref 58, PySem.Value.int 0 0])
  #[]
@[reducible] noncomputable def o58 (P : PySem.Params) : PySem.Obj := PySem.Obj.mk (PySem.Value.type "tuple") Option.none
  (PySem.Data.seq
    #[PySem.Value.int 14 0, PySem.Value.int 14 0, PySem.Value.int 4 0, PySem.Value.int 1 0, PySem.Value.int 1 0,
      PySem.Value.int 9 0, PySem.Value.int 4294966783 0, PySem.Value.int 0 0, PySem.Value.int 0 0,
      PySem.Value.int 2147483648 0, PySem.Value.int 0 0, PySem.Value.int 0 0, PySem.Value.int 0 0, PySem.Value.int 0 0,
      PySem.Value.int 0 0, PySem.Value.int 13 0, PySem.Value.int 11 0, PySem.Value.int 9 0,
      PySem.Value.int 4294966783 0, PySem.Value.int 0 0, PySem.Value.int 0 0, PySem.Value.int 2147483648 0,
      PySem.Value.int 0 0, PySem.Value.int 0 0, PySem.Value.int 0 0, PySem.Value.int 0 0, PySem.Value.int 0 0,
      PySem.Value.int 1 0])
  #[]
@[reducible] noncomputable def o54 (P : PySem.Params) : PySem.Obj := PySem.Obj.mk (PySem.Value.type "re.Pattern") Option.none
  (PySem.Data.fields
    #[PySem.Value.str (PySem.Str.ofString "[\\x00-\\x1F\\x7F]") 368, PySem.Value.int 32 391, PySem.Value.int 0 0,
      PySem.Value.none, PySem.Value.none, PySem.Value.ref 53, PySem.Value.int 0 0])
  #[]
@[reducible] noncomputable def o53 (P : PySem.Params) : PySem.Obj := PySem.Obj.mk (PySem.Value.type "tuple") Option.none
  (PySem.Data.seq
    #[PySem.Value.int 14 0, PySem.Value.int 10 0, PySem.Value.int 4 0, PySem.Value.int 1 0, PySem.Value.int 1 0,
      PySem.Value.int 22 0, PySem.Value.int 0 0, PySem.Value.int 31 0, PySem.Value.int 16 0, PySem.Value.int 127 0,
      PySem.Value.int 0 0, PySem.Value.int 13 0, PySem.Value.int 7 0, PySem.Value.int 22 0, PySem.Value.int 0 0,
      PySem.Value.int 31 0, PySem.Value.int 16 0, PySem.Value.int 127 0, PySem.Value.int 0 0, PySem.Value.int 1 0])
  #[]
@[reducible] noncomputable def a89 : PySem.Arguments := litA (show (stAt (clsBody (stAt P0.main.body 8)) 1) = PySem.Stmt.FunctionDef _ _ _ _ _ _ _ _ _ _ from rfl)
@[reducible] noncomputable def b89 : List PySem.Stmt := litB (show (stAt (clsBody (stAt P0.main.body 8)) 1) = PySem.Stmt.FunctionDef _ _ _ _ _ _ _ _ _ _ from rfl)
@[reducible] noncomputable def s89 : PySem.Scope := litS (show (stAt (clsBody (stAt P0.main.body 8)) 1) = PySem.Stmt.FunctionDef _ _ _ _ _ _ _ _ _ _ from rfl)
@[reducible] noncomputable def o89 (P : PySem.Params) : PySem.Obj := PySem.Obj.mk (PySem.Value.type "function") none (PySem.Data.func (fnOf (PySem.Str.ofString "_convert_string_type") (PySem.Str.ofString "Headers._convert_string_type") a89 b89 s89 (PySem.Value.none) (PySem.Value.none) (PySem.Value.none) (PySem.Value.str (PySem.Str.ofString "cpy313.wsgiref.headers") 331) none (PySem.Value.ref 88) (PySem.Value.none))) #[]
@[reducible] noncomputable def o88 (P : PySem.Params) : PySem.Obj := PySem.Obj.mk (PySem.Value.type "code") Option.none
  (PySem.Data.fields
    #[PySem.Value.str (PySem.Str.ofString "_convert_string_type") 459,
      PySem.Value.str (PySem.Str.ofString "Headers._convert_string_type") 460,
      PySem.Value.str (PySem.Str.ofString "/claim/cut.py") 461, PySem.Value.int 31 0, PySem.Value.int 2 0,
      PySem.Value.int 0 0, PySem.Value.int 1 0, PySem.Value.int 3 0, PySem.Value.ref 83, PySem.Value.bool Bool.true,
      PySem.Value.int 318 0, PySem.Value.ref 84, PySem.Value.none, PySem.Value.ref 85, PySem.Value.ref 86,
      PySem.Value.ref 87, PySem.Value.int 466 0, PySem.Value.int 31 0,
      PySem.Value.str (PySem.Str.ofString "/claim/cut.py") 467])
  #[]
@[reducible] noncomputable def a127 : PySem.Arguments := litA (show (stAt (clsBody (stAt P0.main.body 8)) 7) = PySem.Stmt.FunctionDef _ _ _ _ _ _ _ _ _ _ from rfl)
@[reducible] noncomputable def b127 : List PySem.Stmt := litB (show (stAt (clsBody (stAt P0.main.body 8)) 7) = PySem.Stmt.FunctionDef _ _ _ _ _ _ _ _ _ _ from rfl)
@[reducible] noncomputable def s127 : PySem.Scope := litS (show (stAt (clsBody (stAt P0.main.body 8)) 7) = PySem.Stmt.FunctionDef _ _ _ _ _ _ _ _ _ _ from rfl)
@[reducible] noncomputable def o127 (P : PySem.Params) : PySem.Obj := PySem.Obj.mk (PySem.Value.type "function") none (PySem.Data.func (fnOf (PySem.Str.ofString "get_all") (PySem.Str.ofString "Headers.get_all") a127 b127 s127 (PySem.Value.none) (PySem.Value.none) (PySem.Value.none) (PySem.Value.str (PySem.Str.ofString "cpy313.wsgiref.headers") 331) none (PySem.Value.ref 126) (PySem.Value.none))) #[]
@[reducible] noncomputable def o126 (P : PySem.Params) : PySem.Obj := PySem.Obj.mk (PySem.Value.type "code") Option.none
  (PySem.Data.fields
    #[PySem.Value.str (PySem.Str.ofString "get_all") 507, PySem.Value.str (PySem.Str.ofString "Headers.get_all") 508,
      PySem.Value.str (PySem.Str.ofString "/claim/cut.py") 509, PySem.Value.int 56 0, PySem.Value.int 2 0,
      PySem.Value.int 0 0, PySem.Value.int 0 0, PySem.Value.int 3 0, PySem.Value.ref 123, PySem.Value.bool Bool.true,
      PySem.Value.int 318 0, PySem.Value.ref 124, PySem.Value.none, PySem.Value.none, PySem.Value.none,
      PySem.Value.ref 125, PySem.Value.int 510 0, PySem.Value.int 56 0,
      PySem.Value.str (PySem.Str.ofString "/claim/cut.py") 511])
  #[]
@[reducible] noncomputable def a185 : PySem.Arguments := litA (show (stAt (clsBody (stAt P0.main.body 8)) 16) = PySem.Stmt.FunctionDef _ _ _ _ _ _ _ _ _ _ from rfl)
@[reducible] noncomputable def b185 : List PySem.Stmt := litB (show (stAt (clsBody (stAt P0.main.body 8)) 16) = PySem.Stmt.FunctionDef _ _ _ _ _ _ _ _ _ _ from rfl)
@[reducible] noncomputable def s185 : PySem.Scope := litS (show (stAt (clsBody (stAt P0.main.body 8)) 16) = PySem.Stmt.FunctionDef _ _ _ _ _ _ _ _ _ _ from rfl)
@[reducible] noncomputable def o185 (P : PySem.Params) : PySem.Obj := PySem.Obj.mk (PySem.Value.type "function") none (PySem.Data.func (fnOf (PySem.Str.ofString "add_header") (PySem.Str.ofString "Headers.add_header") a185 b185 s185 (PySem.Value.none) (PySem.Value.none) (PySem.Value.none) (PySem.Value.str (PySem.Str.ofString "cpy313.wsgiref.headers") 331) none (PySem.Value.ref 184) (PySem.Value.none))) #[]
@[reducible] noncomputable def o184 (P : PySem.Params) : PySem.Obj := PySem.Obj.mk (PySem.Value.type "code") Option.none
  (PySem.Data.fields
    #[PySem.Value.str (PySem.Str.ofString "add_header") 572,
      PySem.Value.str (PySem.Str.ofString "Headers.add_header") 573,
      PySem.Value.str (PySem.Str.ofString "/claim/cut.py") 574, PySem.Value.int 88 0, PySem.Value.int 3 0,
      PySem.Value.int 0 0, PySem.Value.int 0 0, PySem.Value.int 11 0, PySem.Value.ref 179, PySem.Value.bool Bool.true,
      PySem.Value.int 318 0, PySem.Value.ref 180, PySem.Value.none, PySem.Value.ref 181, PySem.Value.ref 182,
      PySem.Value.ref 183, PySem.Value.int 582 0, PySem.Value.int 88 0,
      PySem.Value.str (PySem.Str.ofString "/claim/cut.py") 583])
  #[]
@[reducible] noncomputable def a103 : PySem.Arguments := litA (show (stAt (clsBody (stAt P0.main.body 8)) 3) = PySem.Stmt.FunctionDef _ _ _ _ _ _ _ _ _ _ from rfl)
@[reducible] noncomputable def b103 : List PySem.Stmt := litB (show (stAt (clsBody (stAt P0.main.body 8)) 3) = PySem.Stmt.FunctionDef _ _ _ _ _ _ _ _ _ _ from rfl)
@[reducible] noncomputable def s103 : PySem.Scope := litS (show (stAt (clsBody (stAt P0.main.body 8)) 3) = PySem.Stmt.FunctionDef _ _ _ _ _ _ _ _ _ _ from rfl)
@[reducible] noncomputable def o103 (P : PySem.Params) : PySem.Obj := PySem.Obj.mk (PySem.Value.type "function") none (PySem.Data.func (fnOf (PySem.Str.ofString "__setitem__") (PySem.Str.ofString "Headers.__setitem__") a103 b103 s103 (PySem.Value.none) (PySem.Value.none) (PySem.Value.none) (PySem.Value.str (PySem.Str.ofString "cpy313.wsgiref.headers") 331) none (PySem.Value.ref 102) (PySem.Value.none))) #[]
@[reducible] noncomputable def o102 (P : PySem.Params) : PySem.Obj := PySem.Obj.mk (PySem.Value.type "code") Option.none
  (PySem.Data.fields
    #[PySem.Value.str (PySem.Str.ofString "__setitem__") 476,
      PySem.Value.str (PySem.Str.ofString "Headers.__setitem__") 477,
      PySem.Value.str (PySem.Str.ofString "/claim/cut.py") 478, PySem.Value.int 42 0, PySem.Value.int 3 0,
      PySem.Value.int 0 0, PySem.Value.int 0 0, PySem.Value.int 3 0, PySem.Value.ref 97, PySem.Value.bool Bool.true,
      PySem.Value.int 318 0, PySem.Value.ref 98, PySem.Value.none, PySem.Value.ref 99, PySem.Value.ref 100,
      PySem.Value.ref 101, PySem.Value.int 482 0, PySem.Value.int 42 0,
      PySem.Value.str (PySem.Str.ofString "/claim/cut.py") 483])
  #[]
@[reducible] noncomputable def a108 : PySem.Arguments := litA (show (stAt (clsBody (stAt P0.main.body 8)) 4) = PySem.Stmt.FunctionDef _ _ _ _ _ _ _ _ _ _ from rfl)
@[reducible] noncomputable def b108 : List PySem.Stmt := litB (show (stAt (clsBody (stAt P0.main.body 8)) 4) = PySem.Stmt.FunctionDef _ _ _ _ _ _ _ _ _ _ from rfl)
@[reducible] noncomputable def s108 : PySem.Scope := litS (show (stAt (clsBody (stAt P0.main.body 8)) 4) = PySem.Stmt.FunctionDef _ _ _ _ _ _ _ _ _ _ from rfl)
@[reducible] noncomputable def o108 (P : PySem.Params) : PySem.Obj := PySem.Obj.mk (PySem.Value.type "function") none (PySem.Data.func (fnOf (PySem.Str.ofString "__delitem__") (PySem.Str.ofString "Headers.__delitem__") a108 b108 s108 (PySem.Value.none) (PySem.Value.none) (PySem.Value.none) (PySem.Value.str (PySem.Str.ofString "cpy313.wsgiref.headers") 331) none (PySem.Value.ref 107) (PySem.Value.none))) #[]
@[reducible] noncomputable def o107 (P : PySem.Params) : PySem.Obj := PySem.Obj.mk (PySem.Value.type "code") Option.none
  (PySem.Data.fields
    #[PySem.Value.str (PySem.Str.ofString "__delitem__") 485,
      PySem.Value.str (PySem.Str.ofString "Headers.__delitem__") 486,
      PySem.Value.str (PySem.Str.ofString "/claim/cut.py") 487, PySem.Value.int 46 0, PySem.Value.int 2 0,
      PySem.Value.int 0 0, PySem.Value.int 0 0, PySem.Value.int 3 0, PySem.Value.ref 104, PySem.Value.bool Bool.true,
      PySem.Value.int 318 0, PySem.Value.ref 105, PySem.Value.none, PySem.Value.none, PySem.Value.none,
      PySem.Value.ref 106, PySem.Value.int 488 0, PySem.Value.int 46 0,
      PySem.Value.str (PySem.Str.ofString "/claim/cut.py") 489])
  #[]
@[reducible] noncomputable def a82 : PySem.Arguments := litA (show (stAt (clsBody (stAt P0.main.body 8)) 0) = PySem.Stmt.FunctionDef _ _ _ _ _ _ _ _ _ _ from rfl)
@[reducible] noncomputable def b82 : List PySem.Stmt := litB (show (stAt (clsBody (stAt P0.main.body 8)) 0) = PySem.Stmt.FunctionDef _ _ _ _ _ _ _ _ _ _ from rfl)
@[reducible] noncomputable def s82 : PySem.Scope := litS (show (stAt (clsBody (stAt P0.main.body 8)) 0) = PySem.Stmt.FunctionDef _ _ _ _ _ _ _ _ _ _ from rfl)
@[reducible] noncomputable def o82 (P : PySem.Params) : PySem.Obj := PySem.Obj.mk (PySem.Value.type "function") none (PySem.Data.func (fnOf (PySem.Str.ofString "__init__") (PySem.Str.ofString "Headers.__init__") a82 b82 s82 (PySem.Value.ref 75) (PySem.Value.none) (PySem.Value.none) (PySem.Value.str (PySem.Str.ofString "cpy313.wsgiref.headers") 331) none (PySem.Value.ref 81) (PySem.Value.none))) #[]
@[reducible] noncomputable def o81 (P : PySem.Params) : PySem.Obj := PySem.Obj.mk (PySem.Value.type "code") Option.none
  (PySem.Data.fields
    #[PySem.Value.str (PySem.Str.ofString "__init__") 449, PySem.Value.str (PySem.Str.ofString "Headers.__init__") 450,
      PySem.Value.str (PySem.Str.ofString "/claim/cut.py") 451, PySem.Value.int 21 0, PySem.Value.int 2 0,
      PySem.Value.int 0 0, PySem.Value.int 0 0, PySem.Value.int 3 0, PySem.Value.ref 76, PySem.Value.bool Bool.true,
      PySem.Value.int 318 0, PySem.Value.ref 77, PySem.Value.none, PySem.Value.ref 78, PySem.Value.ref 79,
      PySem.Value.ref 80, PySem.Value.int 456 0, PySem.Value.int 21 0,
      PySem.Value.str (PySem.Str.ofString "/claim/cut.py") 457])
  #[]
@[reducible] noncomputable def o75 (P : PySem.Params) : PySem.Obj := PySem.Obj.mk (PySem.Value.type "tuple") Option.none (PySem.Data.seq #[PySem.Value.none]) #[]
@[reducible] noncomputable def a199 : PySem.Arguments := litA (show (stAt P0.main.body 10) = PySem.Stmt.FunctionDef _ _ _ _ _ _ _ _ _ _ from rfl)
@[reducible] noncomputable def b199 : List PySem.Stmt := litB (show (stAt P0.main.body 10) = PySem.Stmt.FunctionDef _ _ _ _ _ _ _ _ _ _ from rfl)
@[reducible] noncomputable def s199 : PySem.Scope := litS (show (stAt P0.main.body 10) = PySem.Stmt.FunctionDef _ _ _ _ _ _ _ _ _ _ from rfl)
@[reducible] noncomputable def o199 (P : PySem.Params) : PySem.Obj := PySem.Obj.mk (PySem.Value.type "function") none (PySem.Data.func (fnOf (PySem.Str.ofString "sorted_list_difference") (PySem.Str.ofString "sorted_list_difference") a199 b199 s199 (PySem.Value.none) (PySem.Value.none) (PySem.Value.none) (PySem.Value.str (PySem.Str.ofString "cpy313.unittest.util") 594) none (PySem.Value.ref 198) (PySem.Value.none))) #[]
@[reducible] noncomputable def o198 (P : PySem.Params) : PySem.Obj := PySem.Obj.mk (PySem.Value.type "code") Option.none
  (PySem.Data.fields
    #[PySem.Value.str (PySem.Str.ofString "sorted_list_difference") 596,
      PySem.Value.str (PySem.Str.ofString "sorted_list_difference") 597,
      PySem.Value.str (PySem.Str.ofString "/claim/cut.py") 598, PySem.Value.int 102 0, PySem.Value.int 2 0,
      PySem.Value.int 0 0, PySem.Value.int 0 0, PySem.Value.int 3 0, PySem.Value.ref 193, PySem.Value.bool Bool.true,
      PySem.Value.int 318 0, PySem.Value.ref 194, PySem.Value.none, PySem.Value.ref 195, PySem.Value.ref 196,
      PySem.Value.ref 197, PySem.Value.int 607 0, PySem.Value.int 102 0,
      PySem.Value.str (PySem.Str.ofString "/claim/cut.py") 608])
  #[]
@[reducible] noncomputable def a914 : PySem.Arguments := litA (show (stAt P0.main.body 34) = PySem.Stmt.FunctionDef _ _ _ _ _ _ _ _ _ _ from rfl)
@[reducible] noncomputable def b914 : List PySem.Stmt := litB (show (stAt P0.main.body 34) = PySem.Stmt.FunctionDef _ _ _ _ _ _ _ _ _ _ from rfl)
@[reducible] noncomputable def s914 : PySem.Scope := litS (show (stAt P0.main.body 34) = PySem.Stmt.FunctionDef _ _ _ _ _ _ _ _ _ _ from rfl)
@[reducible] noncomputable def o914 (P : PySem.Params) : PySem.Obj := PySem.Obj.mk (PySem.Value.type "function") none (PySem.Data.func (fnOf (PySem.Str.ofString "_law_arrows") (PySem.Str.ofString "_law_arrows") a914 b914 s914 (PySem.Value.none) (PySem.Value.none) (PySem.Value.none) (PySem.Value.str (PySem.Str.ofString "law_of0118_01") 1525) none (PySem.Value.ref 913) (PySem.Value.none))) #[]
@[reducible] noncomputable def o913 (P : PySem.Params) : PySem.Obj := PySem.Obj.mk (PySem.Value.type "code") Option.none
  (PySem.Data.fields
    #[PySem.Value.str (PySem.Str.ofString "_law_arrows") 1527, PySem.Value.str (PySem.Str.ofString "_law_arrows") 1528,
      PySem.Value.str (PySem.Str.ofString "/claim/cut.py") 1529, PySem.Value.int 868 0, PySem.Value.int 1 0,
      PySem.Value.int 0 0, PySem.Value.int 0 0, PySem.Value.int 3 0, PySem.Value.ref 908, PySem.Value.bool Bool.true,
      PySem.Value.int 318 0, PySem.Value.ref 909, PySem.Value.none, PySem.Value.ref 910, PySem.Value.ref 911,
      PySem.Value.ref 912, PySem.Value.int 1534 0, PySem.Value.int 868 0,
      PySem.Value.str (PySem.Str.ofString "/claim/cut.py") 1535])
  #[]
@[reducible] noncomputable def a921 : PySem.Arguments := litA (show (stAt P0.main.body 35) = PySem.Stmt.FunctionDef _ _ _ _ _ _ _ _ _ _ from rfl)
@[reducible] noncomputable def b921 : List PySem.Stmt := litB (show (stAt P0.main.body 35) = PySem.Stmt.FunctionDef _ _ _ _ _ _ _ _ _ _ from rfl)
@[reducible] noncomputable def s921 : PySem.Scope := litS (show (stAt P0.main.body 35) = PySem.Stmt.FunctionDef _ _ _ _ _ _ _ _ _ _ from rfl)
@[reducible] noncomputable def o921 (P : PySem.Params) : PySem.Obj := PySem.Obj.mk (PySem.Value.type "function") none (PySem.Data.func (fnOf (PySem.Str.ofString "_law_table") (PySem.Str.ofString "_law_table") a921 b921 s921 (PySem.Value.none) (PySem.Value.none) (PySem.Value.none) (PySem.Value.str (PySem.Str.ofString "law_of0118_01") 1525) none (PySem.Value.ref 920) (PySem.Value.none))) #[]
@[reducible] noncomputable def o920 (P : PySem.Params) : PySem.Obj := PySem.Obj.mk (PySem.Value.type "code") Option.none
  (PySem.Data.fields
    #[PySem.Value.str (PySem.Str.ofString "_law_table") 1537, PySem.Value.str (PySem.Str.ofString "_law_table") 1538,
      PySem.Value.str (PySem.Str.ofString "/claim/cut.py") 1539, PySem.Value.int 874 0, PySem.Value.int 2 0,
      PySem.Value.int 0 0, PySem.Value.int 0 0, PySem.Value.int 3 0, PySem.Value.ref 915, PySem.Value.bool Bool.true,
      PySem.Value.int 318 0, PySem.Value.ref 916, PySem.Value.none, PySem.Value.ref 917, PySem.Value.ref 918,
      PySem.Value.ref 919, PySem.Value.int 1549 0, PySem.Value.int 874 0,
      PySem.Value.str (PySem.Str.ofString "/claim/cut.py") 1550])
  #[]
@[reducible] noncomputable def a928 : PySem.Arguments := litA (show (stAt P0.main.body 36) = PySem.Stmt.FunctionDef _ _ _ _ _ _ _ _ _ _ from rfl)
@[reducible] noncomputable def b928 : List PySem.Stmt := litB (show (stAt P0.main.body 36) = PySem.Stmt.FunctionDef _ _ _ _ _ _ _ _ _ _ from rfl)
@[reducible] noncomputable def s928 : PySem.Scope := litS (show (stAt P0.main.body 36) = PySem.Stmt.FunctionDef _ _ _ _ _ _ _ _ _ _ from rfl)
@[reducible] noncomputable def o928 (P : PySem.Params) : PySem.Obj := PySem.Obj.mk (PySem.Value.type "function") none (PySem.Data.func (fnOf (PySem.Str.ofString "_law_rounds") (PySem.Str.ofString "_law_rounds") a928 b928 s928 (PySem.Value.none) (PySem.Value.none) (PySem.Value.none) (PySem.Value.str (PySem.Str.ofString "law_of0118_01") 1525) none (PySem.Value.ref 927) (PySem.Value.none))) #[]
@[reducible] noncomputable def o927 (P : PySem.Params) : PySem.Obj := PySem.Obj.mk (PySem.Value.type "code") Option.none
  (PySem.Data.fields
    #[PySem.Value.str (PySem.Str.ofString "_law_rounds") 1552, PySem.Value.str (PySem.Str.ofString "_law_rounds") 1553,
      PySem.Value.str (PySem.Str.ofString "/claim/cut.py") 1554, PySem.Value.int 885 0, PySem.Value.int 2 0,
      PySem.Value.int 0 0, PySem.Value.int 0 0, PySem.Value.int 3 0, PySem.Value.ref 922, PySem.Value.bool Bool.true,
      PySem.Value.int 318 0, PySem.Value.ref 923, PySem.Value.none, PySem.Value.ref 924, PySem.Value.ref 925,
      PySem.Value.ref 926, PySem.Value.int 1565 0, PySem.Value.int 885 0,
      PySem.Value.str (PySem.Str.ofString "/claim/cut.py") 1566])
  #[]
@[reducible] noncomputable def a933 : PySem.Arguments := litA (show (stAt P0.main.body 37) = PySem.Stmt.FunctionDef _ _ _ _ _ _ _ _ _ _ from rfl)
@[reducible] noncomputable def b933 : List PySem.Stmt := litB (show (stAt P0.main.body 37) = PySem.Stmt.FunctionDef _ _ _ _ _ _ _ _ _ _ from rfl)
@[reducible] noncomputable def s933 : PySem.Scope := litS (show (stAt P0.main.body 37) = PySem.Stmt.FunctionDef _ _ _ _ _ _ _ _ _ _ from rfl)
@[reducible] noncomputable def o933 (P : PySem.Params) : PySem.Obj := PySem.Obj.mk (PySem.Value.type "function") none (PySem.Data.func (fnOf (PySem.Str.ofString "_law_due") (PySem.Str.ofString "_law_due") a933 b933 s933 (PySem.Value.none) (PySem.Value.none) (PySem.Value.none) (PySem.Value.str (PySem.Str.ofString "law_of0118_01") 1525) none (PySem.Value.ref 932) (PySem.Value.none))) #[]
@[reducible] noncomputable def o932 (P : PySem.Params) : PySem.Obj := PySem.Obj.mk (PySem.Value.type "code") Option.none
  (PySem.Data.fields
    #[PySem.Value.str (PySem.Str.ofString "_law_due") 1568, PySem.Value.str (PySem.Str.ofString "_law_due") 1569,
      PySem.Value.str (PySem.Str.ofString "/claim/cut.py") 1570, PySem.Value.int 900 0, PySem.Value.int 3 0,
      PySem.Value.int 0 0, PySem.Value.int 0 0, PySem.Value.int 3 0, PySem.Value.ref 929, PySem.Value.bool Bool.true,
      PySem.Value.int 318 0, PySem.Value.ref 930, PySem.Value.none, PySem.Value.none, PySem.Value.none,
      PySem.Value.ref 931, PySem.Value.int 1571 0, PySem.Value.int 900 0,
      PySem.Value.str (PySem.Str.ofString "/claim/cut.py") 1572])
  #[]
@[reducible] noncomputable def a940 : PySem.Arguments := litA (show (stAt P0.main.body 38) = PySem.Stmt.FunctionDef _ _ _ _ _ _ _ _ _ _ from rfl)
@[reducible] noncomputable def b940 : List PySem.Stmt := litB (show (stAt P0.main.body 38) = PySem.Stmt.FunctionDef _ _ _ _ _ _ _ _ _ _ from rfl)
@[reducible] noncomputable def s940 : PySem.Scope := litS (show (stAt P0.main.body 38) = PySem.Stmt.FunctionDef _ _ _ _ _ _ _ _ _ _ from rfl)
@[reducible] noncomputable def o940 (P : PySem.Params) : PySem.Obj := PySem.Obj.mk (PySem.Value.type "function") none (PySem.Data.func (fnOf (PySem.Str.ofString "law") (PySem.Str.ofString "law") a940 b940 s940 (PySem.Value.none) (PySem.Value.none) (PySem.Value.none) (PySem.Value.str (PySem.Str.ofString "law_of0118_01") 1525) none (PySem.Value.ref 939) (PySem.Value.none))) #[]
@[reducible] noncomputable def o939 (P : PySem.Params) : PySem.Obj := PySem.Obj.mk (PySem.Value.type "code") Option.none
  (PySem.Data.fields
    #[PySem.Value.str (PySem.Str.ofString "law") 1574, PySem.Value.str (PySem.Str.ofString "law") 1575,
      PySem.Value.str (PySem.Str.ofString "/claim/cut.py") 1576, PySem.Value.int 913 0, PySem.Value.int 1 0,
      PySem.Value.int 0 0, PySem.Value.int 0 0, PySem.Value.int 3 0, PySem.Value.ref 934, PySem.Value.bool Bool.true,
      PySem.Value.int 318 0, PySem.Value.ref 935, PySem.Value.none, PySem.Value.ref 936, PySem.Value.ref 937,
      PySem.Value.ref 938, PySem.Value.int 1581 0, PySem.Value.int 913 0,
      PySem.Value.str (PySem.Str.ofString "/claim/cut.py") 1582])
  #[]
@[reducible] noncomputable def o2 (P : PySem.Params) : PySem.Obj := PySem.Obj.mk PySem.Value.none Option.none
  (PySem.Data.dict
    #[PySem.DictEntry.mk (PySem.PyData.keyHash P (PySem.Str.ofString "\x69mport.loaded._sre"))
        (PySem.Value.str (PySem.Str.ofString "\x69mport.loaded._sre") 183) (PySem.Value.bool Bool.true),
      PySem.DictEntry.mk (PySem.PyData.keyHash P (PySem.Str.ofString "class._frozen_importlib.BuiltinImporter"))
        (PySem.Value.str (PySem.Str.ofString "class._frozen_importlib.BuiltinImporter") 185) (PySem.Value.ref 14),
      PySem.DictEntry.mk (PySem.PyData.keyHash P (PySem.Str.ofString "watched.\x69mport"))
        (PySem.Value.str (PySem.Str.ofString "watched.\x69mport") 206) (PySem.Value.ref 18),
      PySem.DictEntry.mk (PySem.PyData.keyHash P (PySem.Str.ofString "class._frozen_importlib.ModuleSpec"))
        (PySem.Value.str (PySem.Str.ofString "class._frozen_importlib.ModuleSpec") 216) (PySem.Value.ref 22),
      PySem.DictEntry.mk (PySem.PyData.keyHash P (PySem.Str.ofString "sys.modules.booked-epoch"))
        (PySem.Value.str (PySem.Str.ofString "sys.modules.booked-epoch") 245) (PySem.Value.int 4 0),
      PySem.DictEntry.mk (PySem.PyData.keyHash P (PySem.Str.ofString "\x69mport.later-laid._sre"))
        (PySem.Value.str (PySem.Str.ofString "\x69mport.later-laid._sre") 270) (PySem.Value.bool Bool.true),
      PySem.DictEntry.mk (PySem.PyData.keyHash P (PySem.Str.ofString "watched.library"))
        (PySem.Value.str (PySem.Str.ofString "watched.library") 272) (PySem.Value.ref 27),
      PySem.DictEntry.mk (PySem.PyData.keyHash P (PySem.Str.ofString "watched.library-objects"))
        (PySem.Value.str (PySem.Str.ofString "watched.library-objects") 0)
        (PySem.Value.str (PySem.Str.ofString "\x0c\x1e") 0),
      PySem.DictEntry.mk (PySem.PyData.keyHash P (PySem.Str.ofString "watched.library-deep._sre"))
        (PySem.Value.str (PySem.Str.ofString "watched.library-deep._sre") 273)
        (PySem.Value.str
          (PySem.Str.ofString "\x04\x00\x00\x0b\x04\x00\x00\x0b\x04\x00\x00\x03\x04\x00\x00\x0b\x08\x04dict\x02") 0),
      PySem.DictEntry.mk (PySem.PyData.keyHash P (PySem.Str.ofString "\x69mport.loaded._collections"))
        (PySem.Value.str (PySem.Str.ofString "\x69mport.loaded._collections") 280) (PySem.Value.bool Bool.true),
      PySem.DictEntry.mk (PySem.PyData.keyHash P (PySem.Str.ofString "sys.modules.landed._collections"))
        (PySem.Value.str (PySem.Str.ofString "sys.modules.landed._collections") 294) (PySem.Value.bool Bool.true),
      PySem.DictEntry.mk (PySem.PyData.keyHash P (PySem.Str.ofString "\x69mport.later-laid._collections"))
        (PySem.Value.str (PySem.Str.ofString "\x69mport.later-laid._collections") 309) (PySem.Value.bool Bool.true),
      PySem.DictEntry.mk (PySem.PyData.keyHash P (PySem.Str.ofString "watched.library-deep._collections"))
        (PySem.Value.str (PySem.Str.ofString "watched.library-deep._collections") 311)
        (PySem.Value.str
          (PySem.Str.ofString "\x04\x00\x00\x1d\x04\x00\x00\x1d\x04\x00\x00\x03\x04\x00\x00\x1d\x08\x04dict\x02") 0),
      PySem.DictEntry.mk (PySem.PyData.keyHash P (PySem.Str.ofString "type.__subclasses__.OSError.0"))
        (PySem.Value.str (PySem.Str.ofString "type.__subclasses__.OSError.0") 686) (PySem.Value.int 228 0),
      PySem.DictEntry.mk (PySem.PyData.keyHash P (PySem.Str.ofString "type.__subclasses__.OSError.n"))
        (PySem.Value.str (PySem.Str.ofString "type.__subclasses__.OSError.n") 687) (PySem.Value.int 1 0)]
    15)
  #[]

noncomputable def KF : PySem.Params → PySem.W.Frag := fun P => (nat_lit 3, o3 P) ::
  (nat_lit 505, o505 P) ::
  (nat_lit 887, o887 P) ::
  (nat_lit 886, o886 P) ::
  (nat_lit 752, o752 P) ::
  (nat_lit 751, o751 P) ::
  (nat_lit 188, o188 P) ::
  (nat_lit 187, o187 P) ::
  (nat_lit 855, o855 P) ::
  (nat_lit 854, o854 P) ::
  (nat_lit 698, o698 P) ::
  (nat_lit 697, o697 P) ::
  (nat_lit 691, o691 P) ::
  (nat_lit 218, o218 P) ::
  (nat_lit 217, o217 P) ::
  (nat_lit 536, o536 P) ::
  (nat_lit 535, o535 P) ::
  (nat_lit 818, o818 P) ::
  (nat_lit 817, o817 P) ::
  (nat_lit 819, o819 P) ::
  (nat_lit 848, o848 P) ::
  (nat_lit 847, o847 P) ::
  (nat_lit 884, o884 P) ::
  (nat_lit 883, o883 P) ::
  (nat_lit 877, o877 P) ::
  (nat_lit 876, o876 P) ::
  (nat_lit 811, o811 P) ::
  (nat_lit 810, o810 P) ::
  (nat_lit 804, o804 P) ::
  (nat_lit 899, o899 P) ::
  (nat_lit 898, o898 P) ::
  (nat_lit 892, o892 P) ::
  (nat_lit 522, o522 P) ::
  (nat_lit 521, o521 P) ::
  (nat_lit 515, o515 P) ::
  (nat_lit 529, o529 P) ::
  (nat_lit 528, o528 P) ::
  (nat_lit 248, o248 P) ::
  (nat_lit 247, o247 P) ::
  (nat_lit 249, o249 P) ::
  (nat_lit 245, o245 P) ::
  (nat_lit 244, o244 P) ::
  (nat_lit 275, o275 P) ::
  (nat_lit 274, o274 P) ::
  (nat_lit 250, o250 P) ::
  (nat_lit 888, o888 P) ::
  (nat_lit 189, o189 P) ::
  (nat_lit 907, o907 P) ::
  (nat_lit 906, o906 P) ::
  (nat_lit 900, o900 P) ::
  (nat_lit 204, o204 P) ::
  (nat_lit 203, o203 P) ::
  (nat_lit 59, o59 P) ::
  (nat_lit 58, o58 P) ::
  (nat_lit 54, o54 P) ::
  (nat_lit 53, o53 P) ::
  (nat_lit 89, o89 P) ::
  (nat_lit 88, o88 P) ::
  (nat_lit 127, o127 P) ::
  (nat_lit 126, o126 P) ::
  (nat_lit 185, o185 P) ::
  (nat_lit 184, o184 P) ::
  (nat_lit 103, o103 P) ::
  (nat_lit 102, o102 P) ::
  (nat_lit 108, o108 P) ::
  (nat_lit 107, o107 P) ::
  (nat_lit 82, o82 P) ::
  (nat_lit 81, o81 P) ::
  (nat_lit 75, o75 P) ::
  (nat_lit 199, o199 P) ::
  (nat_lit 198, o198 P) ::
  (nat_lit 914, o914 P) ::
  (nat_lit 913, o913 P) ::
  (nat_lit 921, o921 P) ::
  (nat_lit 920, o920 P) ::
  (nat_lit 928, o928 P) ::
  (nat_lit 927, o927 P) ::
  (nat_lit 933, o933 P) ::
  (nat_lit 932, o932 P) ::
  (nat_lit 940, o940 P) ::
  (nat_lit 939, o939 P) ::
  (nat_lit 2, o2 P) :: []

end
section -- HeadA
/-- the top's run over the tree of objects, in one piece -/
noncomputable def topRunT (tb : String → Option Builtin) (p : Program) (w : World) (n₀ : Nat) (ann : Option Value) : Nat → SharedT → Thread → Option SharedT
  | 0, _, _ => none
  | n + 1, s, t => match through t with
    | true => some s
    | false => match stepOk n₀ ann t with
      | false => none
      | true => match stepT (denote tb) p w s t with
        | some (s', t') => topRunT tb p w n₀ ann n s' t'
        | none => none
theorem topRunT_of {tb : String → Option Builtin} {p : Program} {w : World} {n₀ : Nat} {ann : Option Value} : ∀ {n : Nat} {s s' : SharedT} {t : Thread}, topRunT tb p w n₀ ann n s t = some s' → topRun tb p w n₀ ann n s.abs t = some s'.abs
  | 0, _, _, _, h => by cases h
  | n + 1, s, s', t, h => by
    unfold topRunT at h
    unfold topRun
    cases he : through t with
    | true => rw [he] at h; cases h; rfl
    | false =>
      rw [he] at h
      cases hk : stepOk n₀ ann t with
      | false => rw [hk] at h; cases h
      | true =>
        rw [hk] at h
        cases hs : stepT (denote tb) p w s t with
        | none => rw [hs] at h; cases h
        | some r => obtain ⟨s₂, t₂⟩ := r; rw [hs] at h; rw [stepT_spec hs]; exact topRunT_of h
/-- a list of objects as a tree -/
noncomputable def treeFrom : Nat → BT → List Obj → BT
  | _, t, [] => t
  | n, t, o :: l => treeFrom (n + 1) (t.ins n o) l
noncomputable def treeOk : Nat → BT → List Obj → Bool
  | _, _, [] => true
  | n, t, o :: l => ((t.ins n o).get n).isSome && treeOk (n + 1) (t.ins n o) l
theorem treeFrom_abs {life : Life} : ∀ (l : List Obj) (n : Nat) (t : BT) (pre : List Obj), treeOk n t l = true → absHeap t n life = ⟨pre.toArray, life⟩ → absHeap (treeFrom n t l) (n + l.length) life = ⟨(pre ++ l).toArray, life⟩
  | [], n, t, pre, _, e => by simpa [treeFrom] using e
  | o :: l, n, t, pre, hk, e => by
    obtain ⟨h1, h2⟩ := Bool.and_eq_true_iff.mp hk
    have e2 : absHeap (t.ins n o) (n + 1) life = ⟨(pre ++ [o]).toArray, life⟩ := by
      rw [absHeap_ins h1, e]
      simp [Heap.push]
    have := treeFrom_abs l (n + 1) (t.ins n o) (pre ++ [o]) h2 e2
    simp only [List.length_cons]
    rw [show n + (l.length + 1) = n + 1 + l.length by omega]
    simpa [treeFrom] using this
noncomputable def ofShared (s : Shared) : SharedT := ⟨treeFrom 0 .nil s.heap.objs.toList, s.heap.objs.size, s.heap.life, s.gens, s.drawn, s.toks, s.os⟩
theorem ofShared_abs {s : Shared} (h : treeOk 0 .nil s.heap.objs.toList = true) : (ofShared s).abs = s := by
  obtain ⟨⟨⟨l⟩, life⟩, g, d, k, os⟩ := s
  have := treeFrom_abs (life := life) l 0 .nil [] h (by unfold absHeap; rfl)
  unfold ofShared SharedT.abs
  simp only [Nat.zero_add, List.nil_append] at this
  simp only [List.size_toArray]
  rw [this]
noncomputable def openAll {α : Type} (p q : Program) (loose : List Str) (Xt : Shared → Bool) (Yf : Shared → α) (N : Nat) (w : World) :=
  (fencedOpening treeTable p w N).bind fun s₀ => match s₀.heap.isNs mainGlobals && s₀.gens.size == 0 && treeOk 0 .nil s₀.heap.objs.toList with
  | true => (topRunT treeTable p w s₀.heap.objs.size (s₀.heap.nsMap mainGlobals "__annotations__") N (ofShared s₀) (topStub p)).bind fun r => match staticsOk (importedModules p.main.body) s₀.heap r.abs.heap && namesBound p r.abs.heap && gensDone r.abs && laidKept s₀.heap r.abs.heap with
      | true => some (openSeen q loose (importedModules p.main.body) Xt true r.abs, Yf r.abs)
      | false => none
  | false => none
theorem left_of {p q : Program} {loose : List Str} {Xt : Shared → Bool} {α : Type} {Yf : Shared → α} {Ya : World → α} {N : Nat} (h : ∀ w, openAll p q loose Xt Yf N w = some (openGood q loose, Ya w)) : LeftO p q loose Xt Yf Ya N := fun w => by
  have h := h w
  unfold openAll at h
  unfold openEnds
  cases e : fencedOpening treeTable p w N with
  | none => rw [e] at h; cases h
  | some s₀ =>
    rw [e] at h
    simp only [Option.bind_some] at h ⊢
    unfold topFrom
    cases c : s₀.heap.isNs mainGlobals && s₀.gens.size == 0 with
    | false => rw [c] at h; cases h
    | true =>
      rw [c] at h
      cases k : treeOk 0 .nil s₀.heap.objs.toList with
      | false => rw [k] at h; cases h
      | true =>
        rw [k] at h
        simp only [Bool.and_self] at h ⊢
        cases r : topRunT treeTable p w s₀.heap.objs.size (s₀.heap.nsMap mainGlobals "__annotations__") N (ofShared s₀) (topStub p) with
        | none => rw [r] at h; cases h
        | some s₁ =>
          rw [r] at h
          have r' := topRunT_of r
          rw [ofShared_abs k] at r'
          rw [r']
          simp only [Option.bind_some] at h ⊢
          cases l : staticsOk (importedModules p.main.body) s₀.heap s₁.abs.heap && namesBound p s₁.abs.heap && gensDone s₁.abs && laidKept s₀.heap s₁.abs.heap with
          | false => rw [l] at h; cases h
          | true => rw [l] at h; simpa using h

end
section -- HeadB
noncomputable def topRunG (ok : Thread → Bool) (st : SharedT → Thread → Option (SharedT × Thread)) : Nat → SharedT → Thread → Option SharedT
  | 0, _, _ => none
  | n + 1, s, t => match through t with
    | true => some s
    | false => match ok t with
      | false => none
      | true => match st s t with
        | some (s', t') => topRunG ok st n s' t'
        | none => none
theorem topRunG_eq {tb : String → Option Builtin} {p : Program} {w : World} {n₀ : Nat} {ann : Option Value} : ∀ (n : Nat) (s : SharedT) (t : Thread), topRunT tb p w n₀ ann n s t = topRunG (stepOk n₀ ann) (stepT (denote tb) p w) n s t
  | 0, _, _ => rfl
  | n + 1, s, t => by
    unfold topRunT topRunG
    cases through t with
    | true => rfl
    | false =>
      dsimp only
      cases stepOk n₀ ann t with
      | false => rfl
      | true =>
        dsimp only
        cases stepT (denote tb) p w s t with
        | none => rfl
        | some r => exact topRunG_eq n r.1 r.2
noncomputable def openG {α β : Type} (fo : Option Shared) (nsm : Heap → Addr → Str → Option Value) (ok : Nat → Option Value → Thread → Bool) (st : SharedT → Thread → Option (SharedT × Thread)) (mods : List Str) (seen : Shared → β) (Yf : Shared → α) (p : Program) (N : Nat) : Option (β × α) :=
  fo.bind fun s₀ => match s₀.heap.isNs mainGlobals && s₀.gens.size == 0 && treeOk 0 .nil s₀.heap.objs.toList with
  | true => (topRunG (ok s₀.heap.objs.size (nsm s₀.heap mainGlobals (Str.ofString "__annotations__"))) st N (ofShared s₀) (topStub p)).bind fun r => match staticsOk mods s₀.heap r.abs.heap && namesBound p r.abs.heap && gensDone r.abs && laidKept s₀.heap r.abs.heap with
      | true => some (seen r.abs, Yf r.abs)
      | false => none
  | false => none
theorem openG_eq {α : Type} (p q : Program) (loose : List Str) (Xt : Shared → Bool) (Yf : Shared → α) (N : Nat) (w : World) :
    openAll p q loose Xt Yf N w = openG ((PySem.W.Fast.tw10274390034422433532 PySem.W.Fast.tw14364793385576792824 (opening p) w N (PySem.W.Fast.tw1435165496053646825 (opening p)).1 (PySem.W.Fast.tw1435165496053646825 (opening p)).2).bind (PySem.W.Fast.tw14289696077712309145 p))
      PySem.W.Fast.tw8920871248978507458 PySem.W.Fast.tw6613529449190102663 (PySem.W.Fast.tw10156331382660048174 (PySem.W.Fast.tw11892475500146522536 PySem.W.Fast.tw14364793385576792824) p w) (PySem.W.Fast.tw5923862056798008813 p.main.body)
      (PySem.W.Fast.tw4187177175401517315 q loose (PySem.W.Fast.tw5923862056798008813 p.main.body) Xt true) Yf p N := by
  rw [← PySem.W.Fast.te10274390034422433532, ← PySem.W.Fast.te14364793385576792824, ← PySem.W.Fast.te1435165496053646825, ← PySem.W.Fast.te14289696077712309145, ← PySem.W.Fast.te8920871248978507458, ← PySem.W.Fast.te6613529449190102663, ← PySem.W.Fast.te10156331382660048174, ← PySem.W.Fast.te11892475500146522536, ← PySem.W.Fast.te5923862056798008813, ← PySem.W.Fast.te4187177175401517315]
  unfold openAll openG fencedOpening
  simp only [topRunG_eq]
  try rfl

end
section -- HeadC
noncomputable def qv : Program := { P0 with main := { P0.main with body := [stAt P0.main.body 38] } }
noncomputable def looseL : List Str := [Str.ofString "_sre", Str.ofString "deque", Str.ofString "_wall", Str.ofString "tspecials", Str.ofString "_name_disallowed_re", Str.ofString "_value_disallowed_re", Str.ofString "_formatparam", Str.ofString "Headers", Str.ofString "sorted_list_difference", Str.ofString "_twin_re_1", Str.ofString "_whence", Str.ofString "_index", Str.ofString "UnsupportedOperation", Str.ofString "IOBase", Str.ofString "BufferedIOBase", Str.ofString "TextIOBase", Str.ofString "BytesIO", Str.ofString "StringIO", Str.ofString "_kind", Str.ofString "_fspath", Str.ofString "_check_arg_types", Str.ofString "isabs", Str.ofString "join", Str.ofString "dirname", Str.ofString "shlex", Str.ofString "split", Str.ofString "_find_unsafe", Str.ofString "quote", Str.ofString "_law_arrows", Str.ofString "_law_table", Str.ofString "_law_rounds", Str.ofString "_law_due"]
noncomputable def kAs : List Addr := [3, 505, 887, 886, 752, 751, 188, 187, 855, 854, 698, 697, 691, 218, 217, 536, 535, 818, 817, 819, 848, 847, 884, 883, 877, 876, 811, 810, 804, 899, 898, 892, 522, 521, 515, 529, 528, 248, 247, 249, 245, 244, 275, 274, 250, 888, 189, 907, 906, 900, 204, 203, 59, 58, 54, 53, 89, 88, 127, 126, 185, 184, 103, 102, 108, 107, 82, 81, 75, 199, 198, 914, 913, 921, 920, 928, 927, 933, 932, 940, 939, 2]
theorem kAs_eq (P : Params) : kAs = (KF P).map (·.1) := rfl
noncomputable def kH : Hook := kHook KF kAs kAs_eq
noncomputable abbrev XtL : Shared → Bool := fun s => xlAt qv [] s && recOk (RowW.records PySem.Challenge.rw_of0118_01.row.toRowW) s
theorem left1 (w : World) : openG ((PySem.W.Fast.tw10274390034422433532 PySem.W.Fast.tw14364793385576792824 (opening P0) w 13000 (PySem.W.Fast.tw1435165496053646825 (opening P0)).1 (PySem.W.Fast.tw1435165496053646825 (opening P0)).2).bind (PySem.W.Fast.tw14289696077712309145 P0))
      PySem.W.Fast.tw8920871248978507458 PySem.W.Fast.tw6613529449190102663 (PySem.W.Fast.tw10156331382660048174 (PySem.W.Fast.tw11892475500146522536 PySem.W.Fast.tw14364793385576792824) P0 w) (PySem.W.Fast.tw5923862056798008813 P0.main.body)
      (PySem.W.Fast.tw4187177175401517315 qv looseL (PySem.W.Fast.tw5923862056798008813 P0.main.body) XtL true) (fun s => kAs.map s.heap.get?) P0 13000 = some (openGood qv looseL, (KF w.params).map fun p => some p.2) := by
  kernel_rfl
theorem left0 : LeftO P0 qv looseL XtL (Hook.obs kH) (Hook.val kH) 13000 := left_of fun w => (openG_eq P0 qv looseL XtL (Hook.obs kH) 13000 w).trans (left1 w)

end
section -- HeadD
theorem said1 : PySem.Challenge.rw_of0118_01.wellSaid = true := by
  rw [PySem.W.Fast.te9446332074065402090]
  kernel_rfl

end
section -- HeadE
abbrev RL : OpenLaw := PySem.Challenge.rw_of0118_01
noncomputable def dv : DefRec × List (Str × Expr) := ((defOf qv (Str.ofString "law")).getD ⟨⟨Str.ofString "", default, [], default, default⟩, []⟩)
theorem head_of (hw : RL.row.toRowW.promised) (call : WalkO qv looseL (XL qv []) (Hook.says kH) RL.row.toRowW dv.1 dv.2 fun f vs => PySem.call f vs) : RL.Holds :=
  holds_law said1 fun said => holds_open (r := RL.row) (q := qv) (loose := looseL) (Xt := XtL) (XP := XL qv []) (Yf := Hook.obs kH) (Ya := Hook.val kH) (YP := Hook.says kH) (d := dv.1) (kwd := dv.2) (N := 13000) left0 (Hook.of kH) (Hook.keeps kH) (fun s e => xl_of s (Bool.and_eq_true_iff.mp e).1) XL.keeps (by rfl) (by rfl) (by rfl) (fun s e => recFacts_of (Bool.and_eq_true_iff.mp e).2) (by rfl) said (by decide +kernel) ⟨rfl, rfl, rfl, rfl, rfl, by decide +kernel⟩ hw call
theorem promised1 : RL.row.toRowW.promised := by w_witness2

end
section -- Pure1
theorem slice_at {buf : Str} {pos b : Int} (h0 : 0 ≤ pos) (h1 : pos < (buf.length : Int)) (hb : b = pos + 1) : Txt.slice buf (some pos) (some b) = ⟨#[buf.cps.getD pos.toNat 0]⟩ := by
  subst hb
  have hl : PySem.Builtin.Str.strSliceIndices (some pos) (some (pos + 1)) 1 buf.length = [pos.toNat] := by
    unfold PySem.Builtin.Str.strSliceIndices sliceRange
    have e1 : ¬ pos < 0 := by omega
    have e2 : ¬ pos + 1 < 0 := by omega
    have e3 : max 0 (min pos (buf.length : Int)) = pos := by omega
    have e4 : max 0 (min (pos + 1) (buf.length : Int)) = pos + 1 := by omega
    have e5 : pos < pos + 1 := by omega
    have e6 : ((pos + 1 - pos + 1 - 1) / 1).toNat = 1 := by omega
    simp only [e1, e2, e3, e4, e5, e6, if_true, if_false, show (1 : Int) > 0 by decide]
    simp
  have hs : buf.cps[pos.toNat]? = some (buf.cps.getD pos.toNat 0) := by
    have : pos.toNat < buf.cps.size := by have : (buf.length : Int) = (buf.cps.size : Int) := rfl; omega
    simp [Array.getD, this]
  unfold Txt.slice
  rw [hl]
  simp only [List.length_singleton, List.filterMap_cons, List.filterMap_nil, hs]
  split
  · rename_i hh
    have hlen : buf.length = 1 := by simpa using (Eq.symm (by simpa using hh))
    have hp : pos.toNat = 0 := by omega
    obtain ⟨arr⟩ := buf
    have hz : arr.size = 1 := hlen
    rw [hp]
    congr 1
    apply Array.ext
    · simp [hz]
    · intro i h1 h2
      have : i = 0 := by omega
      subst this
      simp [Array.getD, hz]
  · rfl

end
section -- ReadT
theorem row1 : True := by (k_with_none; trivial)
theorem row2 : True := by ((k_with "MINE enter" => ((k_dflt (refine' enterM ?k1 ?k2 ?k3 ?k4 ?k5 ?kA ?kF ?kK ?k6 ?k7 ?k8 ?k9 ?kB ?_ ?c2 ?c3 ?c4 ?c5; (case kA => first | assumption | exact rfl); (case kF => first | assumption | exact rfl); (case kK => first | assumption | exact rfl); (case k1 => k_asm); (case k2 => k_asm); (case k3 => k_asm); (case k4 => k_asm); (case k5 => k_asm); (case k6 => k_is); (case k7 => k_is); (case k8 => ktr_room); (case k9 => first | exact BindsTo.of_eq rfl | exact binds_K (by k_in) rfl (by k_is) rfl rfl rfl | fail "k_enter: no rule for these arguments"); (case c5 => decide); (case kB => exact locs rfl); (case c2 => exact rfl); (case c3 => exact rfl); (case c4 => exact rfl); k_whole; intro zkg' zkL' zkh' zkgk' zkFG' zkF' zkN' zkB' zkX' zkT' zkl1; (try k_lt zkl1); (try dsimp only); (try k_lift zkB'); (try k_fold))))); trivial)
section
variable {w : World} {p : Program} {loose : List Str} {mean : ExcName → Option Value} {mg mb : Str → Option Value} {A₀ : Around} {dp un : Nat} {gd : Option (List Code)} {cn : Str} {cs : Scope} {ca : Addr} {ccd : Value} {cl : List (Str × Addr)} {outer : List Env} {base h₀ : Heap} {L : Addr} {m : Str → Option Value} {s : Shared} {R : Result → Shared → Prop} {news : List (Addr × Obj)} {nf : Obj → List (Addr × Obj)}

theorem fill0 : (PySem.Challenge.rw_of0118_01.name = PySem.Challenge.rw_of0118_01.name) → (∀ P, KF P = KF P) := by
  k_fill
  intro _ _; rfl
noncomputable abbrev ent (P : Params) (n : String) (t : Tok) (v : Value) : DictEntry := ⟨PyData.keyHash P (Str.ofString n), .str (Str.ofString n) t, v⟩
noncomputable abbrev ioD (P : Params) (nl bf pv : Value) (t1 t2 t3 : Tok) : Obj := dictOf [ent P "_StringIO__newline" t1 nl, ent P "_StringIO__buf" t2 bf, ent P "_StringIO__pos" t3 pv] 3

theorem News.updF {h h' : Heap} {d : Addr} {o o' : Obj} (N : News h₀ L h news) (U : UpdF d o news nf) (hd : h'.get? d = some o') (hk : ∀ q ∈ news, q.1 ≠ d → h'.get? q.1 = some q.2) : News h₀ L h' (nf o') := fun q hq => by
  obtain ⟨pre, post, rfl, e, h1, h2⟩ := U.split
  rw [e] at hq
  have hm : (d, o) ∈ pre ++ (d, o) :: post := by simp
  rcases List.mem_append.mp hq with hq | hq
  · exact ⟨hk q (by simp [hq]) (h1 q hq), (N q (by simp [hq])).2⟩
  · rcases List.mem_cons.mp hq with rfl | hq
    · exact ⟨hd, (N _ hm).2⟩
    · exact ⟨hk q (by simp [hq]) (h2 q hq), (N q (by simp [hq])).2⟩

theorem keep_thru {mtl : List (Addr × Obj)} {g h h' : Heap} {L' : Addr} {m' : Str → Option Value} (gk : ∀ b o, h.get? b = some o → (∀ p ∈ mtl, p.1 ≠ b) → g.get? b = some o) (F' : Fr g L' h' m') :
    ∀ b o, h.get? b = some o → (∀ p ∈ mtl, p.1 ≠ b) → h'.get? b = some o := fun b o e q => F'.keep b o (gk b o e q)
theorem read_ch {c : Nat} {x dx : Addr} {nl : Value} {buf : Str} {pos : Int} {t t0 tb t1 t2 t3 : Tok}
    (B : Below A₀ base outer h₀) (F : Fr h₀ L s.heap m) (X : (KF w.params).In h₀) (N : News h₀ L s.heap news) (T : Top p loose mean mg mb h₀)
    (hke : cs.kind = .function)
    (hx : (x, instObj 752 dx) ∈ news) (U : UpdF dx (ioD w.params nl (.str buf tb) (.int pos t) t1 t2 t3) news nf) (hne : x ≠ dx)
    (hp0 : 0 ≤ pos) (hlen : buf.length < 1000) (hp1 : pos < (buf.length : Int)) (hc : buf.cps.getD pos.toNat 0 = c) (hd : dp + 5 < recursionLimit) (hu : un + 40 < cLine)
    (hret : ∀ tt t4 h' tk', Fr h₀ L h' m → News h₀ L h' (nf (ioD w.params nl (.str buf tb) (.int (pos + 1) t4) t1 t2 t3)) → R (.ok (.ret (.str ⟨#[c]⟩ tt))) { s with heap := h', toks := tk' }) :
    codeAny (model P0 w) (ktrTop dp un gd cn cs L ca ccd cl outer) (.call (.ref 698) ⟨[.ref x, .int 1 t0], []⟩) R s := by
  w_on
  subst hc
  have hne' := neN hne
  have Nm : News h₀ L s.heap [(x, instObj 752 dx), (dx, ioD w.params nl (.str buf tb) (.int pos t) t1 t2 t3)] := fun q hq => by
    rcases List.mem_cons.mp hq with rfl | hq
    · exact N _ hx
    · rcases List.mem_cons.mp hq with rfl | hq
      · obtain ⟨pre, post, e, _, _, _⟩ := U.split
        exact N _ (by rw [e]; simp)
      · cases hq
  have fin : ∀ (S : Str) (v : Int) tt t4 h' tk', S = ⟨#[buf.cps.getD pos.toNat 0]⟩ → v = pos + 1 → Fr h₀ L h' m → News h₀ L h' [(x, instObj 752 dx), (dx, ioD w.params nl (.str buf tb) (.int v t4) t1 t2 t3)] →
      (∀ b o, s.heap.get? b = some o → (∀ q ∈ [(x, instObj 752 dx), (dx, ioD w.params nl (.str buf tb) (.int pos t) t1 t2 t3)], q.1 ≠ b) → h'.get? b = some o) → R (.ok (.ret (.str S tt))) { s with heap := h', toks := tk' } := by
    intro S v tt t4 h' tk' e1 e2 kF kN kk
    subst e1 e2
    refine hret tt t4 h' tk' kF (News.updF N U (kN _ (.tail _ (.head _))).1 fun q hq hqd => ?_)
    by_cases hqx : q.1 = x
    · obtain ⟨q1, q2⟩ := q
      have hqx' : q1 = x := hqx
      subst hqx'
      have h1 := (N _ hq).1
      have h2 := (N _ hx).1
      rw [h2] at h1
      cases h1
      exact (kN _ (.head _)).1
    · refine kk _ _ (N _ hq).1 fun r hr => ?_
      rcases List.mem_cons.mp hr with rfl | hr
      · exact Ne.symm hqx
      · rcases List.mem_cons.mp hr with rfl | hr
        · exact Ne.symm hqd
        · cases hr
  walk_at "MINE enter"
  k_steps
  all_goals (refine' fin _ _ _ _ _ _ ?e1 ?e2 ?e3 ?e4 ?e5; (case e3 => assumption); (case e4 => assumption); (case e5 => exact keep_thru (by assumption) (by assumption)); (case e2 => omega); (case e1 => exact slice_at hp0 hp1 (by omega)))
theorem read_eof {x dx : Addr} {nl : Value} {buf : Str} {pos : Int} {t t0 tb t1 t2 t3 : Tok}
    (B : Below A₀ base outer h₀) (F : Fr h₀ L s.heap m) (X : (KF w.params).In h₀) (N : News h₀ L s.heap news) (T : Top p loose mean mg mb h₀)
    (hke : cs.kind = .function)
    (hx : (x, instObj 752 dx) ∈ news) (hdx : (dx, ioD w.params nl (.str buf tb) (.int pos t) t1 t2 t3) ∈ news)
    (hp0 : 0 ≤ pos) (hlen : buf.length < 1000) (hp1 : (buf.length : Int) ≤ pos) (hd : dp + 5 < recursionLimit) (hu : un + 40 < cLine)
    (hret : ∀ tt h' tk', Fr h₀ L h' m → News h₀ L h' news → R (.ok (.ret (.str (Str.ofString "") tt))) { s with heap := h', toks := tk' }) :
    codeAny (model P0 w) (ktrTop dp un gd cn cs L ca ccd cl outer) (.call (.ref 698) ⟨[.ref x, .int 1 t0], []⟩) R s := by
  w_on
  have Nm : News h₀ L s.heap [(x, instObj 752 dx), (dx, ioD w.params nl (.str buf tb) (.int pos t) t1 t2 t3)] := fun q hq => by
    rcases List.mem_cons.mp hq with rfl | hq
    · exact N _ hx
    · rcases List.mem_cons.mp hq with rfl | hq
      · exact N _ hdx
      · cases hq
  have fin : ∀ tt h' tk', Fr h₀ L h' m → News h₀ L h' [(x, instObj 752 dx), (dx, ioD w.params nl (.str buf tb) (.int pos t) t1 t2 t3)] →
      (∀ b o, s.heap.get? b = some o → (∀ q ∈ [(x, instObj 752 dx), (dx, ioD w.params nl (.str buf tb) (.int pos t) t1 t2 t3)], q.1 ≠ b) → h'.get? b = some o) → R (.ok (.ret (.str (Str.ofString "") tt))) { s with heap := h', toks := tk' } := by
    intro tt h' tk' kF kN kk
    refine hret tt h' tk' kF fun q hq => ⟨?_, (N q hq).2⟩
    by_cases hqx : ∃ r ∈ [(x, instObj 752 dx), (dx, ioD w.params nl (.str buf tb) (.int pos t) t1 t2 t3)], r.1 = q.1
    · obtain ⟨r, hr, e⟩ := hqx
      have h1 := (N _ hq).1
      have h2 := (Nm _ hr).1
      rw [e, h1] at h2
      rw [← e, (kN r hr).1, Option.some.inj h2]
    · exact kk _ _ (N _ hq).1 fun r hr e => hqx ⟨r, hr, e⟩
  walk_at "MINE enter"
  k_steps
  all_goals exact fin _ _ _ (by assumption) (by assumption) (keep_thru (by assumption) (by assumption))
end

end
section -- LexA1
theorem row3 : True := by (k_with_none; trivial)
theorem len1 {c : Nat} : ¬ (((⟨#[c]⟩ : Str).length : Int) = 0) := by simp [Str.length]
theorem nf_of {b : Bool} (h : b = false) : ¬ (b = true) := by rw [h]; exact Bool.false_ne_true
noncomputable def WC : Str := Str.ofString "abcdfeghijklmnopqrstuvwxyzABCDEFGHIJKLMNOPQRSTUVWXYZ0123456789_" ++ Str.ofString "ßàáâãäåæçèéêëìíîïðñòóôõöøùúûüýþÿÀÁÂÃÄÅÆÇÈÉÊËÌÍÎÏÐÑÒÓÔÕÖØÙÚÛÜÝÞ"
noncomputable abbrev lexD (P : Params) (tk tv : Nat → Tok) (y pb fs : Addr) (state token : Value) : Obj := dictOf [ent P "instream" (tk 0) (.ref y), ent P "infile" (tk 1) .none, ent P "posix" (tk 2) (.bool true), ent P "eof" (tk 3) .none, ent P "commenters" (tk 4) (.str (Str.ofString "") (tv 4)), ent P "wordchars" (tk 5) (.str WC (tv 5)), ent P "whitespace" (tk 6) (.str (Str.ofString " \t\r\n") (tv 6)), ent P "whitespace_split" (tk 7) (.bool true), ent P "quotes" (tk 8) (.str (Str.ofString "'\"") (tv 8)), ent P "escape" (tk 9) (.str (Str.ofString "\\") (tv 9)), ent P "escapedquotes" (tk 10) (.str (Str.ofString "\"") (tv 10)), ent P "state" (tk 11) state, ent P "pushback" (tk 12) (.ref pb), ent P "lineno" (tk 13) (.int 1 (tv 13)), ent P "debug" (tk 14) (.int 0 (tv 14)), ent P "token" (tk 15) token, ent P "filestack" (tk 16) (.ref fs), ent P "source" (tk 17) .none, ent P "_punctuation_chars" (tk 18) (.str (Str.ofString "") (tv 18))] 19
noncomputable abbrev rtM (nc : Option Value) (q : Bool) (te : Tok) (x : Addr) : Str → Option Value := fun y => if y = Str.ofString "nextchar" then nc else if y = Str.ofString "quoted" then some (.bool q) else if y = Str.ofString "escapedstate" then some (.str (Str.ofString " ") te) else if y = Str.ofString "self" then some (.ref x) else none
theorem rtM_next {nc : Option Value} {q : Bool} {te : Tok} {x : Addr} {v : Value} : (fun y => if y = Str.ofString "nextchar" then some v else rtM nc q te x y) = rtM (some v) q te x := by
  funext y
  by_cases h : y = Str.ofString "nextchar" <;> simp [rtM, h]
theorem rtM_quoted {nc : Option Value} {q : Bool} {te : Tok} {x : Addr} : (fun y => if y = Str.ofString "quoted" then some (.bool true) else rtM nc q te x y) = rtM nc true te x := by
  funext y
  by_cases h : y = Str.ofString "quoted"
  · subst h
    have : ¬ (Str.ofString "quoted" = Str.ofString "nextchar") := by decide +kernel
    simp [rtM, this]
  · simp [rtM, h]
theorem Fr.cong {h₀ h : Heap} {L : Addr} {m m' : Str → Option Value} (e : m = m') (F : Fr h₀ L h m) : Fr h₀ L h m' := e ▸ F
noncomputable def NPost (Nx : Shared → Prop) (Q : Flow → Shared → Prop) (f : Flow) (s : Shared) : Prop := match f with
  | .next => Nx s
  | .cont => Nx s
  | .brk => Q .next s
  | .ret v => Q (.ret v) s
theorem whl_turnN {prog : Program} {w : World} {A : Around} {E : Value → Shared → Prop} {s : Shared} {env : Env} {test : PySem.Expr} {body orelse : List Stmt} {Q : Flow → Shared → Prop} {k : Nat} {Nx : Shared → Prop} (hE : PassesOwn (model prog w) A env E)
    (hN : ∀ s', Nx s' → WhlRest prog w A E env test body orelse Q k s')
    (h : wpAny (model prog w) A (isTrue test env (eval test env)) (fun b s₂ => WhlIf b (wpAny (model prog w) A (execs body env) (NPost Nx Q) E s₂) (wpAny (model prog w) A (execs orelse env) Q E s₂)) E s) :
    WhlRest prog w A E env test body orelse Q (k + 1) s :=
  whl_turn hE (wpAny_mono h (fun b s₂ h₂ => by
    cases b with
    | false => exact WhlIf.no rfl (by unfold WhlIf at h₂; rw [if_neg Bool.false_ne_true] at h₂; exact h₂)
    | true => exact WhlIf.yes rfl (wpAny_mono (by unfold WhlIf at h₂; rw [if_pos rfl] at h₂; exact h₂) (fun f s₃ h₃ => by
        cases f with
        | next => exact hN _ h₃
        | cont => exact hN _ h₃
        | brk => exact h₃
        | ret v => exact h₃) fun _ _ x => x)) fun _ _ x => x)
noncomputable abbrev rtL (P : Params) (x dx y dy : Addr) (lo io : Obj) : List (Addr × Obj) := [(x, instObj 887 dx), (dx, lo), (y, instObj 752 dy), (dy, io)]
theorem row4 : True := by ((k_with "ite" => ((k_dflt (first | (refine W.ite_neg (nf_of (by with_reducible assumption)) ?_) | (refine W.ite_pos (by with_reducible assumption) ?_))))); trivial)
theorem row5 : True := by ((k_with "ite" => ((k_closed; k_dflt (first | refine W.ite_pos (by decide +kernel) ?_ | refine W.ite_neg (by decide +kernel) ?_)))); trivial)
theorem fill_la : (PySem.Challenge.rw_of0118_01.name = PySem.Challenge.rw_of0118_01.name) → (∀ P, KF P = KF P) := by
  k_fill
  intro _ _; rfl
section
variable {w : World} {p : Program} {loose : List Str} {mean : ExcName → Option Value} {mg mb : Str → Option Value} {A₀ : Around} {dp un : Nat} {gd : Option (List Code)} {cn : Str} {cs : Scope} {ca : Addr} {ccd : Value} {cl : List (Str × Addr)} {outer : List Env} {base h₀ : Heap} {L : Addr} {m : Str → Option Value} {s : Shared} {R : Result → Shared → Prop} {news : List (Addr × Obj)} {nf : Obj → List (Addr × Obj)}
theorem row6 : True := by ((k_with "call ref" => ((k_here; (with_reducible show wpAny _ _ (call (Value.ref _) [Value.ref _, Value.int 1 _]) _ _ _); first | (k_dflt (refine wpAny_call ?_; refine' read_ch ?r1 ?r2 ?r3 ?r4 ?r5 ?r6 ?r7 ?r8 ?r9 ?r10 ?r11 ?r12 ?r13 ?r14 ?r15 ?_; (case r1 => k_asm); (case r2 => k_asm); (case r3 => k_asm); (case r4 => k_asm); (case r5 => k_asm); (case r6 => exact rfl); (case r7 => k_mem); (case r8 => k_updF); (case r9 => k_ne); (case r10 => assumption); (case r11 => assumption); (case r12 => assumption); (case r13 => assumption); (case r14 => ktr_room); (case r15 => ktr_units); k_whole); intro zktt zkt4 zkh' zktk' zkF' zkN'; (try dsimp only at zkN'); (try k_sweep)) | (k_dflt (refine wpAny_call ?_; refine' read_eof ?r1 ?r2 ?r3 ?r4 ?r5 ?r6 ?r7 ?r8 ?r10 ?r11 ?r12 ?r14 ?r15 ?_; (case r1 => k_asm); (case r2 => k_asm); (case r3 => k_asm); (case r4 => k_asm); (case r5 => k_asm); (case r6 => exact rfl); (case r7 => k_mem); (case r8 => k_mem); (case r10 => assumption); (case r11 => assumption); (case r12 => assumption); (case r14 => ktr_room); (case r15 => ktr_units); k_whole); intro zktt zkh' zktk' zkF' zkN'; (try dsimp only at zkN'); (try k_sweep))))); trivial)
theorem rt_pre {q1 q2 i1 i2 i3 : Stmt} {t : Expr} {r4 r4' rest : List Stmt} {wp0 : Pos} {A : Around} {env : Env}
    (hst : b855 = q1 :: q2 :: Stmt.While t (i1 :: i2 :: i3 :: r4') [] wp0 :: rest)
    (henv : env = envOf (Str.ofString "shlex.read_token") s855 L 855 (.ref 854))
    {x dx y dy pb fs : Addr} {tk tv : Nat → Tok} {tb tp t1 t2 t3 te : Tok} {buf : Str} {pos : Int} {nl : Value} {q : Bool} {Q : Flow → Shared → Prop} {E : Value → Shared → Prop} {Nx : Shared → Prop} {tokv st : Value} {nc : Option Value} {c : Nat}
    (B : Below A₀ base outer h₀) (F : Fr h₀ L s.heap (rtM nc q te x)) (X : (KF w.params).In h₀) (T : Top p loose mean mg mb h₀)
    (N : News h₀ L s.heap (rtL w.params x dx y dy (lexD w.params tk tv y pb fs st tokv) (ioD w.params nl (.str buf tb) (.int pos tp) t1 t2 t3)))
    (hA : A = ktrTop dp un gd (Str.ofString "shlex.read_token") s855 L 855 (.ref 854) [] outer)
    (n1 : @Ne Nat x dx) (n2 : @Ne Nat x y) (n3 : @Ne Nat x dy) (n4 : @Ne Nat dx y) (n5 : @Ne Nat dx dy) (n6 : @Ne Nat y dy)
    (hd : dp + 8 < recursionLimit) (hu : un + 60 < cLine)
    (hp0 : 0 ≤ pos) (hlen : buf.length < 1000) (hp1 : pos < (buf.length : Int)) (hc : buf.cps.getD pos.toNat 0 = c) (hnl : ((⟨#[c]⟩ : Str) == Str.ofString "\n") = false)
    (hE : PassesOwn (model P0 w) A env E)
    (hN : ∀ s', Nx s' → WhlRest P0 w A E env t (i1 :: i2 :: i3 :: r4) [] Q 0 s')
    (h : ∀ h' tk' ta tp', Fr h₀ L h' (rtM (some (.str (⟨#[c]⟩) ta)) q te x) → News h₀ L h' (rtL w.params x dx y dy (lexD w.params tk tv y pb fs st tokv) (ioD w.params nl (.str buf tb) (.int (pos + 1) tp') t1 t2 t3)) →
      wpAny (model P0 w) A (execs r4 env) (NPost Nx Q) E { s with heap := h', toks := tk' }) :
    WhlRest P0 w A E env t (i1 :: i2 :: i3 :: r4) [] Q 1 s := by
  w_on
  cases hst
  subst henv
  subst hA
  dsimp only [rtL] at N
  refine whl_turnN hE hN ?_
  k_steps
  all_goals (dsimp only; refine' h _ _ _ _ (Fr.cong rtM_next (by assumption)) (by first | assumption | (refine cb_drop (by assumption) ?_; kcj_all)))
theorem rt_pre_eof {q1 q2 i1 i2 i3 : Stmt} {t : Expr} {r4 r4' rest : List Stmt} {wp0 : Pos} {A : Around} {env : Env}
    (hst : b855 = q1 :: q2 :: Stmt.While t (i1 :: i2 :: i3 :: r4') [] wp0 :: rest)
    (henv : env = envOf (Str.ofString "shlex.read_token") s855 L 855 (.ref 854))
    {x dx y dy pb fs : Addr} {tk tv : Nat → Tok} {tb tp t1 t2 t3 te : Tok} {buf : Str} {pos : Int} {nl : Value} {q : Bool} {Q : Flow → Shared → Prop} {E : Value → Shared → Prop} {Nx : Shared → Prop} {tokv st : Value} {nc : Option Value}
    (B : Below A₀ base outer h₀) (F : Fr h₀ L s.heap (rtM nc q te x)) (X : (KF w.params).In h₀) (T : Top p loose mean mg mb h₀)
    (N : News h₀ L s.heap (rtL w.params x dx y dy (lexD w.params tk tv y pb fs st tokv) (ioD w.params nl (.str buf tb) (.int pos tp) t1 t2 t3)))
    (hA : A = ktrTop dp un gd (Str.ofString "shlex.read_token") s855 L 855 (.ref 854) [] outer)
    (n1 : @Ne Nat x dx) (n2 : @Ne Nat x y) (n3 : @Ne Nat x dy) (n4 : @Ne Nat dx y) (n5 : @Ne Nat dx dy) (n6 : @Ne Nat y dy)
    (hd : dp + 8 < recursionLimit) (hu : un + 60 < cLine)
    (hp0 : 0 ≤ pos) (hlen : buf.length < 1000) (hp1 : (buf.length : Int) ≤ pos)
    (hE : PassesOwn (model P0 w) A env E)
    (hN : ∀ s', Nx s' → WhlRest P0 w A E env t (i1 :: i2 :: i3 :: r4) [] Q 0 s')
    (h : ∀ h' tk' ta , Fr h₀ L h' (rtM (some (.str (Str.ofString "") ta)) q te x) → News h₀ L h' (rtL w.params x dx y dy (lexD w.params tk tv y pb fs st tokv) (ioD w.params nl (.str buf tb) (.int (pos) tp) t1 t2 t3)) →
      wpAny (model P0 w) A (execs r4 env) (NPost Nx Q) E { s with heap := h', toks := tk' }) :
    WhlRest P0 w A E env t (i1 :: i2 :: i3 :: r4) [] Q 1 s := by
  w_on
  cases hst
  subst henv
  subst hA
  dsimp only [rtL] at N
  refine whl_turnN hE hN ?_
  k_steps
  all_goals (dsimp only; refine' h _ _ _  (Fr.cong rtM_next (by assumption)) (by first | assumption | (refine cb_drop (by assumption) ?_; kcj_all)))
end

end
section -- LexB
theorem row7 : True := by (k_with_none; trivial)
theorem row8 : True := by ((k_with "ite" => ((k_dflt (first | (refine W.ite_neg (nf_of (by with_reducible assumption)) ?_) | (refine W.ite_pos (by with_reducible assumption) ?_))))); trivial)
theorem row9 : True := by ((k_with "ite" => ((k_closed; k_dflt (first | refine W.ite_pos (by decide +kernel) ?_ | refine W.ite_neg (by decide +kernel) ?_)))); trivial)
theorem fill_lb : (PySem.Challenge.rw_of0118_01.name = PySem.Challenge.rw_of0118_01.name) → (∀ P, KF P = KF P) := by
  k_fill
  intro _ _; rfl
section
variable {w : World} {p : Program} {loose : List Str} {mean : ExcName → Option Value} {mg mb : Str → Option Value} {A₀ : Around} {dp un : Nat} {gd : Option (List Code)} {cn : Str} {cs : Scope} {ca : Addr} {ccd : Value} {cl : List (Str × Addr)} {outer : List Env} {base h₀ : Heap} {L : Addr} {m : Str → Option Value} {s : Shared} {R : Result → Shared → Prop} {news : List (Addr × Obj)} {nf : Obj → List (Addr × Obj)}
theorem rt_k1 {q1 q2 i1 i2 i3 : Stmt} {t : Expr} {r4 rest : List Stmt} {wp0 : Pos} {A : Around} {env : Env}
    (hst : b855 = q1 :: q2 :: Stmt.While t (i1 :: i2 :: i3 :: r4) [] wp0 :: rest)
    (henv : env = envOf (Str.ofString "shlex.read_token") s855 L 855 (.ref 854))
    {x dx y dy pb fs : Addr} {tk tv : Nat → Tok} {tb tp t1 t2 t3 te : Tok} {buf : Str} {pos : Int} {nl : Value} {q : Bool} {Q : Flow → Shared → Prop} {E : Value → Shared → Prop} {Nx : Shared → Prop} {ta tt : Tok} {tok : Str} {ts : Tok}
    (B : Below A₀ base outer h₀) (F : Fr h₀ L s.heap (rtM (some (.str (⟨#[39]⟩) ta)) q te x)) (X : (KF w.params).In h₀) (T : Top p loose mean mg mb h₀)
    (N : News h₀ L s.heap (rtL w.params x dx y dy (lexD w.params tk tv y pb fs (.str (Str.ofString " ") ts) (.str tok tt)) (ioD w.params nl (.str buf tb) (.int pos tp) t1 t2 t3)))
    (hA : A = ktrTop dp un gd (Str.ofString "shlex.read_token") s855 L 855 (.ref 854) [] outer)
    (n1 : @Ne Nat x dx) (n2 : @Ne Nat x y) (n3 : @Ne Nat x dy) (n4 : @Ne Nat dx y) (n5 : @Ne Nat dx dy) (n6 : @Ne Nat y dy)
    (hd : dp + 8 < recursionLimit) (hu : un + 60 < cLine)
    (h : ∀ h' tk' , Fr h₀ L h' (rtM (some (.str (⟨#[39]⟩) ta)) q te x) → News h₀ L h' (rtL w.params x dx y dy (lexD w.params tk tv y pb fs (.str ⟨#[39]⟩ ta) (.str tok tt)) (ioD w.params nl (.str buf tb) (.int pos tp) t1 t2 t3)) → Nx { s with heap := h', toks := tk' }) :
    wpAny (model P0 w) A (execs r4 env) (NPost Nx Q) E s := by
  w_on
  cases hst
  subst henv
  subst hA
  dsimp only [rtL] at N
  k_steps
  all_goals (first | ((try dsimp only [NPost]); refine' h _ _  (by assumption) (by first | assumption | (refine cb_drop (by assumption) ?_; kcj_all))) | (exfalso; omega) | exact absurd (by assumption) len1)
theorem rt_k2 {q1 q2 i1 i2 i3 : Stmt} {t : Expr} {r4 rest : List Stmt} {wp0 : Pos} {A : Around} {env : Env}
    (hst : b855 = q1 :: q2 :: Stmt.While t (i1 :: i2 :: i3 :: r4) [] wp0 :: rest)
    (henv : env = envOf (Str.ofString "shlex.read_token") s855 L 855 (.ref 854))
    {x dx y dy pb fs : Addr} {tk tv : Nat → Tok} {tb tp t1 t2 t3 te : Tok} {buf : Str} {pos : Int} {nl : Value} {q : Bool} {Q : Flow → Shared → Prop} {E : Value → Shared → Prop} {Nx : Shared → Prop} {ta tt : Tok} {tok : Str} {ts : Tok} {c : Nat}
    (B : Below A₀ base outer h₀) (F : Fr h₀ L s.heap (rtM (some (.str (⟨#[c]⟩) ta)) q te x)) (X : (KF w.params).In h₀) (T : Top p loose mean mg mb h₀)
    (N : News h₀ L s.heap (rtL w.params x dx y dy (lexD w.params tk tv y pb fs (.str (Str.ofString " ") ts) (.str tok tt)) (ioD w.params nl (.str buf tb) (.int pos tp) t1 t2 t3)))
    (hA : A = ktrTop dp un gd (Str.ofString "shlex.read_token") s855 L 855 (.ref 854) [] outer)
    (n1 : @Ne Nat x dx) (n2 : @Ne Nat x y) (n3 : @Ne Nat x dy) (n4 : @Ne Nat dx y) (n5 : @Ne Nat dx dy) (n6 : @Ne Nat y dy)
    (hd : dp + 8 < recursionLimit) (hu : un + 60 < cLine)
    (hcc : c = 122 ∨ c = 90)
    (h : ∀ h' tk' ts', Fr h₀ L h' (rtM (some (.str (⟨#[c]⟩) ta)) q te x) → News h₀ L h' (rtL w.params x dx y dy (lexD w.params tk tv y pb fs (.str (Str.ofString "a") ts') (.str ⟨#[c]⟩ ta)) (ioD w.params nl (.str buf tb) (.int pos tp) t1 t2 t3)) → Nx { s with heap := h', toks := tk' }) :
    wpAny (model P0 w) A (execs r4 env) (NPost Nx Q) E s := by
  w_on
  cases hst
  subst henv
  subst hA
  dsimp only [rtL] at N
  rcases hcc with rfl | rfl
  all_goals
  k_steps
  all_goals (first | ((try dsimp only [NPost]); refine' h _ _ _ (by assumption) (by first | assumption | (refine cb_drop (by assumption) ?_; kcj_all))) | (exfalso; omega) | exact absurd (by assumption) len1)
theorem rt_k3 {q1 q2 i1 i2 i3 : Stmt} {t : Expr} {r4 rest : List Stmt} {wp0 : Pos} {A : Around} {env : Env}
    (hst : b855 = q1 :: q2 :: Stmt.While t (i1 :: i2 :: i3 :: r4) [] wp0 :: rest)
    (henv : env = envOf (Str.ofString "shlex.read_token") s855 L 855 (.ref 854))
    {x dx y dy pb fs : Addr} {tk tv : Nat → Tok} {tb tp t1 t2 t3 te : Tok} {buf : Str} {pos : Int} {nl : Value} {q : Bool} {Q : Flow → Shared → Prop} {E : Value → Shared → Prop} {Nx : Shared → Prop} {ta tt : Tok} {tok : Str} {ts : Tok}
    (B : Below A₀ base outer h₀) (F : Fr h₀ L s.heap (rtM (some (.str (⟨#[39]⟩) ta)) q te x)) (X : (KF w.params).In h₀) (T : Top p loose mean mg mb h₀)
    (N : News h₀ L s.heap (rtL w.params x dx y dy (lexD w.params tk tv y pb fs (.str ⟨#[39]⟩ ts) (.str tok tt)) (ioD w.params nl (.str buf tb) (.int pos tp) t1 t2 t3)))
    (hA : A = ktrTop dp un gd (Str.ofString "shlex.read_token") s855 L 855 (.ref 854) [] outer)
    (n1 : @Ne Nat x dx) (n2 : @Ne Nat x y) (n3 : @Ne Nat x dy) (n4 : @Ne Nat dx y) (n5 : @Ne Nat dx dy) (n6 : @Ne Nat y dy)
    (hd : dp + 8 < recursionLimit) (hu : un + 60 < cLine)
    (h : ∀ h' tk' ts', Fr h₀ L h' (rtM (some (.str (⟨#[39]⟩) ta)) true te x) → News h₀ L h' (rtL w.params x dx y dy (lexD w.params tk tv y pb fs (.str (Str.ofString "a") ts') (.str tok tt)) (ioD w.params nl (.str buf tb) (.int pos tp) t1 t2 t3)) → Nx { s with heap := h', toks := tk' }) :
    wpAny (model P0 w) A (execs r4 env) (NPost Nx Q) E s := by
  w_on
  cases hst
  subst henv
  subst hA
  dsimp only [rtL] at N
  k_steps
  all_goals (first | ((try dsimp only [NPost]); refine' h _ _ _ (Fr.cong rtM_quoted (by assumption)) (by first | assumption | (refine cb_drop (by assumption) ?_; kcj_all))) | (exfalso; omega) | exact absurd (by assumption) len1)
theorem rt_k4 {q1 q2 i1 i2 i3 : Stmt} {t : Expr} {r4 rest : List Stmt} {wp0 : Pos} {A : Around} {env : Env}
    (hst : b855 = q1 :: q2 :: Stmt.While t (i1 :: i2 :: i3 :: r4) [] wp0 :: rest)
    (henv : env = envOf (Str.ofString "shlex.read_token") s855 L 855 (.ref 854))
    {x dx y dy pb fs : Addr} {tk tv : Nat → Tok} {tb tp t1 t2 t3 te : Tok} {buf : Str} {pos : Int} {nl : Value} {q : Bool} {Q : Flow → Shared → Prop} {E : Value → Shared → Prop} {Nx : Shared → Prop} {ta tt : Tok} {tok : Str} {ts : Tok} {c : Nat}
    (B : Below A₀ base outer h₀) (F : Fr h₀ L s.heap (rtM (some (.str (⟨#[c]⟩) ta)) q te x)) (X : (KF w.params).In h₀) (T : Top p loose mean mg mb h₀)
    (N : News h₀ L s.heap (rtL w.params x dx y dy (lexD w.params tk tv y pb fs (.str ⟨#[39]⟩ ts) (.str tok tt)) (ioD w.params nl (.str buf tb) (.int pos tp) t1 t2 t3)))
    (hA : A = ktrTop dp un gd (Str.ofString "shlex.read_token") s855 L 855 (.ref 854) [] outer)
    (n1 : @Ne Nat x dx) (n2 : @Ne Nat x y) (n3 : @Ne Nat x dy) (n4 : @Ne Nat dx y) (n5 : @Ne Nat dx dy) (n6 : @Ne Nat y dy)
    (hd : dp + 8 < recursionLimit) (hu : un + 60 < cLine)
    (hc1 : ((⟨#[c]⟩ : Str) == ⟨#[39]⟩) = false) (hc2 : (Builtin.Str.occurrences (Str.ofString "\\") ⟨#[c]⟩ 0 (Str.ofString "\\").length 1).isEmpty = true) (htok : tok.length < 1000)
    (h : ∀ h' tk' tt', Fr h₀ L h' (rtM (some (.str (⟨#[c]⟩) ta)) true te x) → News h₀ L h' (rtL w.params x dx y dy (lexD w.params tk tv y pb fs (.str ⟨#[39]⟩ ts) (.str (tok ++ ⟨#[c]⟩) tt')) (ioD w.params nl (.str buf tb) (.int pos tp) t1 t2 t3)) → Nx { s with heap := h', toks := tk' }) :
    wpAny (model P0 w) A (execs r4 env) (NPost Nx Q) E s := by
  w_on
  cases hst
  subst henv
  subst hA
  dsimp only [rtL] at N
  k_steps
  all_goals (first | ((try dsimp only [NPost]); refine' h _ _ _ (Fr.cong rtM_quoted (by assumption)) (by first | assumption | (refine cb_drop (by assumption) ?_; kcj_all))) | (exfalso; omega) | exact absurd (by assumption) len1)
theorem rt_k5 {q1 q2 i1 i2 i3 : Stmt} {t : Expr} {r4 rest : List Stmt} {wp0 : Pos} {A : Around} {env : Env}
    (hst : b855 = q1 :: q2 :: Stmt.While t (i1 :: i2 :: i3 :: r4) [] wp0 :: rest)
    (henv : env = envOf (Str.ofString "shlex.read_token") s855 L 855 (.ref 854))
    {x dx y dy pb fs : Addr} {tk tv : Nat → Tok} {tb tp t1 t2 t3 te : Tok} {buf : Str} {pos : Int} {nl : Value} {q : Bool} {Q : Flow → Shared → Prop} {E : Value → Shared → Prop} {Nx : Shared → Prop} {ta tt : Tok} {tok : Str} {ts : Tok}
    (B : Below A₀ base outer h₀) (F : Fr h₀ L s.heap (rtM (some (.str (⟨#[34]⟩) ta)) q te x)) (X : (KF w.params).In h₀) (T : Top p loose mean mg mb h₀)
    (N : News h₀ L s.heap (rtL w.params x dx y dy (lexD w.params tk tv y pb fs (.str ⟨#[34]⟩ ts) (.str tok tt)) (ioD w.params nl (.str buf tb) (.int pos tp) t1 t2 t3)))
    (hA : A = ktrTop dp un gd (Str.ofString "shlex.read_token") s855 L 855 (.ref 854) [] outer)
    (n1 : @Ne Nat x dx) (n2 : @Ne Nat x y) (n3 : @Ne Nat x dy) (n4 : @Ne Nat dx y) (n5 : @Ne Nat dx dy) (n6 : @Ne Nat y dy)
    (hd : dp + 8 < recursionLimit) (hu : un + 60 < cLine)
    (h : ∀ h' tk' ts', Fr h₀ L h' (rtM (some (.str (⟨#[34]⟩) ta)) true te x) → News h₀ L h' (rtL w.params x dx y dy (lexD w.params tk tv y pb fs (.str (Str.ofString "a") ts') (.str tok tt)) (ioD w.params nl (.str buf tb) (.int pos tp) t1 t2 t3)) → Nx { s with heap := h', toks := tk' }) :
    wpAny (model P0 w) A (execs r4 env) (NPost Nx Q) E s := by
  w_on
  cases hst
  subst henv
  subst hA
  dsimp only [rtL] at N
  k_steps
  all_goals (first | ((try dsimp only [NPost]); refine' h _ _ _ (Fr.cong rtM_quoted (by assumption)) (by first | assumption | (refine cb_drop (by assumption) ?_; kcj_all))) | (exfalso; omega) | exact absurd (by assumption) len1)
theorem rt_k6 {q1 q2 i1 i2 i3 : Stmt} {t : Expr} {r4 rest : List Stmt} {wp0 : Pos} {A : Around} {env : Env}
    (hst : b855 = q1 :: q2 :: Stmt.While t (i1 :: i2 :: i3 :: r4) [] wp0 :: rest)
    (henv : env = envOf (Str.ofString "shlex.read_token") s855 L 855 (.ref 854))
    {x dx y dy pb fs : Addr} {tk tv : Nat → Tok} {tb tp t1 t2 t3 te : Tok} {buf : Str} {pos : Int} {nl : Value} {q : Bool} {Q : Flow → Shared → Prop} {E : Value → Shared → Prop} {Nx : Shared → Prop} {ta tt : Tok} {tok : Str} {ts : Tok}
    (B : Below A₀ base outer h₀) (F : Fr h₀ L s.heap (rtM (some (.str (⟨#[39]⟩) ta)) q te x)) (X : (KF w.params).In h₀) (T : Top p loose mean mg mb h₀)
    (N : News h₀ L s.heap (rtL w.params x dx y dy (lexD w.params tk tv y pb fs (.str ⟨#[34]⟩ ts) (.str tok tt)) (ioD w.params nl (.str buf tb) (.int pos tp) t1 t2 t3)))
    (hA : A = ktrTop dp un gd (Str.ofString "shlex.read_token") s855 L 855 (.ref 854) [] outer)
    (n1 : @Ne Nat x dx) (n2 : @Ne Nat x y) (n3 : @Ne Nat x dy) (n4 : @Ne Nat dx y) (n5 : @Ne Nat dx dy) (n6 : @Ne Nat y dy)
    (hd : dp + 8 < recursionLimit) (hu : un + 60 < cLine)
    (htok : tok.length < 1000)
    (h : ∀ h' tk' tt', Fr h₀ L h' (rtM (some (.str (⟨#[39]⟩) ta)) true te x) → News h₀ L h' (rtL w.params x dx y dy (lexD w.params tk tv y pb fs (.str ⟨#[34]⟩ ts) (.str (tok ++ ⟨#[39]⟩) tt')) (ioD w.params nl (.str buf tb) (.int pos tp) t1 t2 t3)) → Nx { s with heap := h', toks := tk' }) :
    wpAny (model P0 w) A (execs r4 env) (NPost Nx Q) E s := by
  w_on
  cases hst
  subst henv
  subst hA
  dsimp only [rtL] at N
  k_steps
  all_goals (first | ((try dsimp only [NPost]); refine' h _ _ _ (Fr.cong rtM_quoted (by assumption)) (by first | assumption | (refine cb_drop (by assumption) ?_; kcj_all))) | (exfalso; omega) | exact absurd (by assumption) len1)
theorem rt_k7 {q1 q2 i1 i2 i3 : Stmt} {t : Expr} {r4 rest : List Stmt} {wp0 : Pos} {A : Around} {env : Env}
    (hst : b855 = q1 :: q2 :: Stmt.While t (i1 :: i2 :: i3 :: r4) [] wp0 :: rest)
    (henv : env = envOf (Str.ofString "shlex.read_token") s855 L 855 (.ref 854))
    {x dx y dy pb fs : Addr} {tk tv : Nat → Tok} {tb tp t1 t2 t3 te : Tok} {buf : Str} {pos : Int} {nl : Value} {q : Bool} {Q : Flow → Shared → Prop} {E : Value → Shared → Prop} {Nx : Shared → Prop} {ta tt : Tok} {tok : Str} {ts : Tok}
    (B : Below A₀ base outer h₀) (F : Fr h₀ L s.heap (rtM (some (.str (⟨#[32]⟩) ta)) q te x)) (X : (KF w.params).In h₀) (T : Top p loose mean mg mb h₀)
    (N : News h₀ L s.heap (rtL w.params x dx y dy (lexD w.params tk tv y pb fs (.str (Str.ofString "a") ts) (.str tok tt)) (ioD w.params nl (.str buf tb) (.int pos tp) t1 t2 t3)))
    (hA : A = ktrTop dp un gd (Str.ofString "shlex.read_token") s855 L 855 (.ref 854) [] outer)
    (n1 : @Ne Nat x dx) (n2 : @Ne Nat x y) (n3 : @Ne Nat x dy) (n4 : @Ne Nat dx y) (n5 : @Ne Nat dx dy) (n6 : @Ne Nat y dy)
    (hd : dp + 8 < recursionLimit) (hu : un + 60 < cLine)
    (htq : q = true ∨ tok.length = 1) (htok : tok.length < 1000)
    (h : ∀ h' tk' ts', Fr h₀ L h' (rtM (some (.str (⟨#[32]⟩) ta)) q te x) → News h₀ L h' (rtL w.params x dx y dy (lexD w.params tk tv y pb fs (.str (Str.ofString " ") ts') (.str tok tt)) (ioD w.params nl (.str buf tb) (.int pos tp) t1 t2 t3)) → Q .next { s with heap := h', toks := tk' }) :
    wpAny (model P0 w) A (execs r4 env) (NPost Nx Q) E s := by
  w_on
  cases hst
  subst henv
  subst hA
  dsimp only [rtL] at N
  rcases htq with rfl | htq
  all_goals
  k_steps
  all_goals (first | ((try dsimp only [NPost]); refine' h _ _ _ (by assumption) (by first | assumption | (refine cb_drop (by assumption) ?_; kcj_all))) | (exfalso; omega) | exact absurd (by assumption) len1)
theorem rt_k8 {q1 q2 i1 i2 i3 : Stmt} {t : Expr} {r4 rest : List Stmt} {wp0 : Pos} {A : Around} {env : Env}
    (hst : b855 = q1 :: q2 :: Stmt.While t (i1 :: i2 :: i3 :: r4) [] wp0 :: rest)
    (henv : env = envOf (Str.ofString "shlex.read_token") s855 L 855 (.ref 854))
    {x dx y dy pb fs : Addr} {tk tv : Nat → Tok} {tb tp t1 t2 t3 te : Tok} {buf : Str} {pos : Int} {nl : Value} {q : Bool} {Q : Flow → Shared → Prop} {E : Value → Shared → Prop} {Nx : Shared → Prop} {ta tt : Tok} {tok : Str} {ts : Tok}
    (B : Below A₀ base outer h₀) (F : Fr h₀ L s.heap (rtM (some (.str (Str.ofString "") ta)) q te x)) (X : (KF w.params).In h₀) (T : Top p loose mean mg mb h₀)
    (N : News h₀ L s.heap (rtL w.params x dx y dy (lexD w.params tk tv y pb fs (.str (Str.ofString "a") ts) (.str tok tt)) (ioD w.params nl (.str buf tb) (.int pos tp) t1 t2 t3)))
    (hA : A = ktrTop dp un gd (Str.ofString "shlex.read_token") s855 L 855 (.ref 854) [] outer)
    (n1 : @Ne Nat x dx) (n2 : @Ne Nat x y) (n3 : @Ne Nat x dy) (n4 : @Ne Nat dx y) (n5 : @Ne Nat dx dy) (n6 : @Ne Nat y dy)
    (hd : dp + 8 < recursionLimit) (hu : un + 60 < cLine)
    (h : ∀ h' tk' , Fr h₀ L h' (rtM (some (.str (Str.ofString "") ta)) q te x) → News h₀ L h' (rtL w.params x dx y dy (lexD w.params tk tv y pb fs .none (.str tok tt)) (ioD w.params nl (.str buf tb) (.int pos tp) t1 t2 t3)) → Q .next { s with heap := h', toks := tk' }) :
    wpAny (model P0 w) A (execs r4 env) (NPost Nx Q) E s := by
  w_on
  cases hst
  subst henv
  subst hA
  dsimp only [rtL] at N
  k_steps
  all_goals (first | ((try dsimp only [NPost]); refine' h _ _  (by assumption) (by first | assumption | (refine cb_drop (by assumption) ?_; kcj_all))) | (exfalso; omega) | exact absurd (by assumption) len1)
theorem rt_k9 {q1 q2 i1 i2 i3 : Stmt} {t : Expr} {r4 rest : List Stmt} {wp0 : Pos} {A : Around} {env : Env}
    (hst : b855 = q1 :: q2 :: Stmt.While t (i1 :: i2 :: i3 :: r4) [] wp0 :: rest)
    (henv : env = envOf (Str.ofString "shlex.read_token") s855 L 855 (.ref 854))
    {x dx y dy pb fs : Addr} {tk tv : Nat → Tok} {tb tp t1 t2 t3 te : Tok} {buf : Str} {pos : Int} {nl : Value} {q : Bool} {Q : Flow → Shared → Prop} {E : Value → Shared → Prop} {Nx : Shared → Prop} {ta tt : Tok} {tok : Str} {ts : Tok}
    (B : Below A₀ base outer h₀) (F : Fr h₀ L s.heap (rtM (some (.str (⟨#[34]⟩) ta)) q te x)) (X : (KF w.params).In h₀) (T : Top p loose mean mg mb h₀)
    (N : News h₀ L s.heap (rtL w.params x dx y dy (lexD w.params tk tv y pb fs (.str (Str.ofString "a") ts) (.str tok tt)) (ioD w.params nl (.str buf tb) (.int pos tp) t1 t2 t3)))
    (hA : A = ktrTop dp un gd (Str.ofString "shlex.read_token") s855 L 855 (.ref 854) [] outer)
    (n1 : @Ne Nat x dx) (n2 : @Ne Nat x y) (n3 : @Ne Nat x dy) (n4 : @Ne Nat dx y) (n5 : @Ne Nat dx dy) (n6 : @Ne Nat y dy)
    (hd : dp + 8 < recursionLimit) (hu : un + 60 < cLine)
    (h : ∀ h' tk' , Fr h₀ L h' (rtM (some (.str (⟨#[34]⟩) ta)) q te x) → News h₀ L h' (rtL w.params x dx y dy (lexD w.params tk tv y pb fs (.str ⟨#[34]⟩ ta) (.str tok tt)) (ioD w.params nl (.str buf tb) (.int pos tp) t1 t2 t3)) → Nx { s with heap := h', toks := tk' }) :
    wpAny (model P0 w) A (execs r4 env) (NPost Nx Q) E s := by
  w_on
  cases hst
  subst henv
  subst hA
  dsimp only [rtL] at N
  k_steps
  all_goals (first | ((try dsimp only [NPost]); refine' h _ _  (by assumption) (by first | assumption | (refine cb_drop (by assumption) ?_; kcj_all))) | (exfalso; omega) | exact absurd (by assumption) len1)
theorem rt_k10 {q1 q2 i1 i2 i3 : Stmt} {t : Expr} {r4 rest : List Stmt} {wp0 : Pos} {A : Around} {env : Env}
    (hst : b855 = q1 :: q2 :: Stmt.While t (i1 :: i2 :: i3 :: r4) [] wp0 :: rest)
    (henv : env = envOf (Str.ofString "shlex.read_token") s855 L 855 (.ref 854))
    {x dx y dy pb fs : Addr} {tk tv : Nat → Tok} {tb tp t1 t2 t3 te : Tok} {buf : Str} {pos : Int} {nl : Value} {q : Bool} {Q : Flow → Shared → Prop} {E : Value → Shared → Prop} {Nx : Shared → Prop} {ta tt : Tok} {tok : Str} {ts : Tok}
    (B : Below A₀ base outer h₀) (F : Fr h₀ L s.heap (rtM (some (.str (⟨#[39]⟩) ta)) q te x)) (X : (KF w.params).In h₀) (T : Top p loose mean mg mb h₀)
    (N : News h₀ L s.heap (rtL w.params x dx y dy (lexD w.params tk tv y pb fs (.str (Str.ofString "a") ts) (.str tok tt)) (ioD w.params nl (.str buf tb) (.int pos tp) t1 t2 t3)))
    (hA : A = ktrTop dp un gd (Str.ofString "shlex.read_token") s855 L 855 (.ref 854) [] outer)
    (n1 : @Ne Nat x dx) (n2 : @Ne Nat x y) (n3 : @Ne Nat x dy) (n4 : @Ne Nat dx y) (n5 : @Ne Nat dx dy) (n6 : @Ne Nat y dy)
    (hd : dp + 8 < recursionLimit) (hu : un + 60 < cLine)
    (h : ∀ h' tk' , Fr h₀ L h' (rtM (some (.str (⟨#[39]⟩) ta)) q te x) → News h₀ L h' (rtL w.params x dx y dy (lexD w.params tk tv y pb fs (.str ⟨#[39]⟩ ta) (.str tok tt)) (ioD w.params nl (.str buf tb) (.int pos tp) t1 t2 t3)) → Nx { s with heap := h', toks := tk' }) :
    wpAny (model P0 w) A (execs r4 env) (NPost Nx Q) E s := by
  w_on
  cases hst
  subst henv
  subst hA
  dsimp only [rtL] at N
  k_steps
  all_goals (first | ((try dsimp only [NPost]); refine' h _ _  (by assumption) (by first | assumption | (refine cb_drop (by assumption) ?_; kcj_all))) | (exfalso; omega) | exact absurd (by assumption) len1)
theorem rt_k11 {q1 q2 i1 i2 i3 : Stmt} {t : Expr} {r4 rest : List Stmt} {wp0 : Pos} {A : Around} {env : Env}
    (hst : b855 = q1 :: q2 :: Stmt.While t (i1 :: i2 :: i3 :: r4) [] wp0 :: rest)
    (henv : env = envOf (Str.ofString "shlex.read_token") s855 L 855 (.ref 854))
    {x dx y dy pb fs : Addr} {tk tv : Nat → Tok} {tb tp t1 t2 t3 te : Tok} {buf : Str} {pos : Int} {nl : Value} {q : Bool} {Q : Flow → Shared → Prop} {E : Value → Shared → Prop} {Nx : Shared → Prop} {ta tt : Tok} {tok : Str}
    (B : Below A₀ base outer h₀) (F : Fr h₀ L s.heap (rtM (some (.str (Str.ofString "") ta)) q te x)) (X : (KF w.params).In h₀) (T : Top p loose mean mg mb h₀)
    (N : News h₀ L s.heap (rtL w.params x dx y dy (lexD w.params tk tv y pb fs .none (.str tok tt)) (ioD w.params nl (.str buf tb) (.int pos tp) t1 t2 t3)))
    (hA : A = ktrTop dp un gd (Str.ofString "shlex.read_token") s855 L 855 (.ref 854) [] outer)
    (n1 : @Ne Nat x dx) (n2 : @Ne Nat x y) (n3 : @Ne Nat x dy) (n4 : @Ne Nat dx y) (n5 : @Ne Nat dx dy) (n6 : @Ne Nat y dy)
    (hd : dp + 8 < recursionLimit) (hu : un + 60 < cLine)
    (h : ∀ h' tk' tt', Fr h₀ L h' (rtM (some (.str (Str.ofString "") ta)) q te x) → News h₀ L h' (rtL w.params x dx y dy (lexD w.params tk tv y pb fs .none (.str (Str.ofString "") tt')) (ioD w.params nl (.str buf tb) (.int pos tp) t1 t2 t3)) → Q .next { s with heap := h', toks := tk' }) :
    wpAny (model P0 w) A (execs r4 env) (NPost Nx Q) E s := by
  w_on
  cases hst
  subst henv
  subst hA
  dsimp only [rtL] at N
  k_steps
  all_goals (first | ((try dsimp only [NPost]); refine' h _ _ _ (by assumption) (by first | assumption | (refine cb_drop (by assumption) ?_; kcj_all))) | (exfalso; omega) | exact absurd (by assumption) len1)
end

end
section -- LexC
inductive Sy where | sp | a | sq | dq
noncomputable abbrev Sy.v (t : Tok) : Sy → Value
  | .sp => .str (Str.ofString " ") t
  | .a => .str (Str.ofString "a") t
  | .sq => .str ⟨#[39]⟩ t
  | .dq => .str ⟨#[34]⟩ t
noncomputable abbrev endV (t : Tok) : Option (List Nat) → Value
  | some _ => .str (Str.ofString " ") t
  | none => .none
/-- how shlex reads one word of a line -/
inductive Run : Sy → Str → Bool → List Nat → Str → Option (List Nat) → Prop
  | sp_q {tok q cs r f} : Run .sq tok q cs r f → Run .sp tok q (39 :: cs) r f
  | sp_z {c tok q cs r f} : c = 122 ∨ c = 90 → Run .a ⟨#[c]⟩ q cs r f → Run .sp tok q (c :: cs) r f
  | sq_end {tok q cs r f} : Run .a tok true cs r f → Run .sq tok q (39 :: cs) r f
  | sq_ch {c tok q cs r f} : ((⟨#[c]⟩ : Str) == ⟨#[39]⟩) = false → (Builtin.Str.occurrences (Str.ofString "\\") ⟨#[c]⟩ 0 (Str.ofString "\\").length 1).isEmpty = true → ((⟨#[c]⟩ : Str) == Str.ofString "\n") = false → tok.length < 999 → Run .sq (tok ++ ⟨#[c]⟩) true cs r f → Run .sq tok q (c :: cs) r f
  | dq_end {tok q cs r f} : Run .a tok true cs r f → Run .dq tok q (34 :: cs) r f
  | dq_sq {tok q cs r f} : tok.length < 999 → Run .dq (tok ++ ⟨#[39]⟩) true cs r f → Run .dq tok q (39 :: cs) r f
  | a_sp {tok q cs} : q = true ∨ tok.length = 1 → tok.length < 999 → Run .a tok q (32 :: cs) tok (some cs)
  | a_eof {tok q} : q = true ∨ tok.length = 1 → Run .a tok q [] tok none
  | a_dq {tok q cs r f} : Run .dq tok q cs r f → Run .a tok q (34 :: cs) r f
  | a_sq {tok q cs r f} : Run .sq tok q cs r f → Run .a tok q (39 :: cs) r f
theorem drop_step {buf : Str} {pos : Int} {c : Nat} {cs : List Nat} (h0 : 0 ≤ pos) (h : buf.cps.toList.drop pos.toNat = c :: cs) : pos < (buf.length : Int) ∧ buf.cps.getD pos.toNat 0 = c ∧ buf.cps.toList.drop (pos + 1).toNat = cs := by
  have hl : pos.toNat < buf.cps.toList.length := by
    rcases Nat.lt_or_ge pos.toNat buf.cps.toList.length with h1 | h1
    · exact h1
    · rw [List.drop_eq_nil_of_le h1] at h; cases h
  have e : buf.cps.toList.drop pos.toNat = buf.cps.toList[pos.toNat] :: buf.cps.toList.drop (pos.toNat + 1) := List.drop_eq_getElem_cons hl
  rw [e] at h
  injection h with h1 h2
  have hs : pos.toNat < buf.cps.size := by simpa using hl
  refine ⟨by have : (buf.length : Int) = (buf.cps.size : Int) := rfl; omega, ?_, ?_⟩
  · rw [← h1]; simp [Array.getD, hs]
  · rw [show (pos + 1).toNat = pos.toNat + 1 by omega]; exact h2
theorem drop_nil {buf : Str} {pos : Int} (h0 : 0 ≤ pos) (h : buf.cps.toList.drop pos.toNat = []) : (buf.length : Int) ≤ pos := by
  have := List.drop_eq_nil_iff.mp h
  have e : (buf.length : Int) = (buf.cps.toList.length : Int) := by simp [Str.length]
  omega
theorem WhlRest.any {prog : Program} {w : World} {A : Around} {E : Value → Shared → Prop} {s : Shared} {env : Env} {test : PySem.Expr} {body orelse : List Stmt} {Q : Flow → Shared → Prop} {k k' : Nat} (h : WhlRest prog w A E env test body orelse Q k s) : WhlRest prog w A E env test body orelse Q k' s := h
section
variable {w : World} {p : Program} {loose : List Str} {mean : ExcName → Option Value} {mg mb : Str → Option Value} {A₀ : Around} {dp un : Nat} {gd : Option (List Code)} {outer : List Env} {base h₀ : Heap} {L : Addr}
theorem rt_loop {q1 q2 i1 i2 i3 : Stmt} {t : Expr} {r4 rest : List Stmt} {wp0 : Pos} {A : Around} {env : Env}
    (hst : b855 = q1 :: q2 :: Stmt.While t (i1 :: i2 :: i3 :: r4) [] wp0 :: rest)
    (henv : env = envOf (Str.ofString "shlex.read_token") s855 L 855 (.ref 854))
    {x dx y dy pb fs : Addr} {tk tv : Nat → Tok} {tb t1 t2 t3 te : Tok} {buf : Str} {nl : Value} {Q : Flow → Shared → Prop} {E : Value → Shared → Prop}
    (B : Below A₀ base outer h₀) (X : (KF w.params).In h₀) (T : Top p loose mean mg mb h₀)
    (hA : A = ktrTop dp un gd (Str.ofString "shlex.read_token") s855 L 855 (.ref 854) [] outer)
    (n1 : @Ne Nat x dx) (n2 : @Ne Nat x y) (n3 : @Ne Nat x dy) (n4 : @Ne Nat dx y) (n5 : @Ne Nat dx dy) (n6 : @Ne Nat y dy)
    (hd : dp + 8 < recursionLimit) (hu : un + 60 < cLine) (hlen : buf.length < 1000) (hE : PassesOwn (model P0 w) A env E) {r : Str} {f : Option (List Nat)} {s₀ : Shared}
    (hQ : ∀ h' tk' nc q' ts' tt' pos' tp', Fr h₀ L h' (rtM nc q' te x) → News h₀ L h' (rtL w.params x dx y dy (lexD w.params tk tv y pb fs (endV ts' f) (.str r tt')) (ioD w.params nl (.str buf tb) (.int pos' tp') t1 t2 t3)) →
      (q' = true ∨ r.length = 1) → 0 ≤ pos' → buf.cps.toList.drop pos'.toNat = f.getD [] → Q .next { s₀ with heap := h', toks := tk' }) :
    ∀ {S : Sy} {tok : Str} {q : Bool} {cs : List Nat}, Run S tok q cs r f → ∀ (h : Heap) (k : Nat) {nc : Option Value} {ts tt tp : Tok} {pos : Int},
      Fr h₀ L h (rtM nc q te x) → News h₀ L h (rtL w.params x dx y dy (lexD w.params tk tv y pb fs (S.v ts) (.str tok tt)) (ioD w.params nl (.str buf tb) (.int pos tp) t1 t2 t3)) →
      0 ≤ pos → buf.cps.toList.drop pos.toNat = cs → WhlRest P0 w A E env t (i1 :: i2 :: i3 :: r4) [] Q 1 { s₀ with heap := h, toks := k } := by
  intro S tok q cs hR
  induction hR with
  | sp_q hr ih =>
    intro h k nc ts tt tp pos F N h0 hc
    obtain ⟨hp1, hc1, hc2⟩ := drop_step h0 hc
    exact rt_pre (s := { s₀ with heap := h, toks := k }) (Nx := fun s' => WhlRest P0 w A E env t (i1 :: i2 :: i3 :: r4) [] Q 1 s') hst henv B F X T N hA n1 n2 n3 n4 n5 n6 hd hu h0 hlen hp1 hc1 (by decide +kernel) hE (fun _ q => q) fun h' tk' ta tp' F' N' =>
      rt_k1 (s := { s₀ with heap := h', toks := tk' }) hst henv B F' X T N' hA n1 n2 n3 n4 n5 n6 hd hu fun h'' tk'' F'' N'' => ih hQ h'' tk'' F'' N'' (by omega) hc2
  | sp_z hz hr ih =>
    intro h k nc ts tt tp pos F N h0 hc
    obtain ⟨hp1, hc1, hc2⟩ := drop_step h0 hc
    exact rt_pre (s := { s₀ with heap := h, toks := k }) (Nx := fun s' => WhlRest P0 w A E env t (i1 :: i2 :: i3 :: r4) [] Q 1 s') hst henv B F X T N hA n1 n2 n3 n4 n5 n6 hd hu h0 hlen hp1 hc1 (by rcases hz with rfl | rfl <;> decide +kernel) hE (fun _ q => q) fun h' tk' ta tp' F' N' =>
      rt_k2 (s := { s₀ with heap := h', toks := tk' }) hst henv B F' X T N' hA n1 n2 n3 n4 n5 n6 hd hu hz fun h'' tk'' ts' F'' N'' => ih hQ h'' tk'' F'' N'' (by omega) hc2
  | sq_end hr ih =>
    intro h k nc ts tt tp pos F N h0 hc
    obtain ⟨hp1, hc1, hc2⟩ := drop_step h0 hc
    exact rt_pre (s := { s₀ with heap := h, toks := k }) (Nx := fun s' => WhlRest P0 w A E env t (i1 :: i2 :: i3 :: r4) [] Q 1 s') hst henv B F X T N hA n1 n2 n3 n4 n5 n6 hd hu h0 hlen hp1 hc1 (by decide +kernel) hE (fun _ q => q) fun h' tk' ta tp' F' N' =>
      rt_k3 (s := { s₀ with heap := h', toks := tk' }) hst henv B F' X T N' hA n1 n2 n3 n4 n5 n6 hd hu fun h'' tk'' ts' F'' N'' => ih hQ h'' tk'' F'' N'' (by omega) hc2
  | sq_ch e1 e2 e3 e4 hr ih =>
    intro h k nc ts tt tp pos F N h0 hc
    obtain ⟨hp1, hc1, hc2⟩ := drop_step h0 hc
    exact rt_pre (s := { s₀ with heap := h, toks := k }) (Nx := fun s' => WhlRest P0 w A E env t (i1 :: i2 :: i3 :: r4) [] Q 1 s') hst henv B F X T N hA n1 n2 n3 n4 n5 n6 hd hu h0 hlen hp1 hc1 e3 hE (fun _ q => q) fun h' tk' ta tp' F' N' =>
      rt_k4 (s := { s₀ with heap := h', toks := tk' }) hst henv B F' X T N' hA n1 n2 n3 n4 n5 n6 hd hu e1 e2 (by omega) fun h'' tk'' tt' F'' N'' => ih hQ h'' tk'' F'' N'' (by omega) hc2
  | dq_end hr ih =>
    intro h k nc ts tt tp pos F N h0 hc
    obtain ⟨hp1, hc1, hc2⟩ := drop_step h0 hc
    exact rt_pre (s := { s₀ with heap := h, toks := k }) (Nx := fun s' => WhlRest P0 w A E env t (i1 :: i2 :: i3 :: r4) [] Q 1 s') hst henv B F X T N hA n1 n2 n3 n4 n5 n6 hd hu h0 hlen hp1 hc1 (by decide +kernel) hE (fun _ q => q) fun h' tk' ta tp' F' N' =>
      rt_k5 (s := { s₀ with heap := h', toks := tk' }) hst henv B F' X T N' hA n1 n2 n3 n4 n5 n6 hd hu fun h'' tk'' ts' F'' N'' => ih hQ h'' tk'' F'' N'' (by omega) hc2
  | dq_sq e4 hr ih =>
    intro h k nc ts tt tp pos F N h0 hc
    obtain ⟨hp1, hc1, hc2⟩ := drop_step h0 hc
    exact rt_pre (s := { s₀ with heap := h, toks := k }) (Nx := fun s' => WhlRest P0 w A E env t (i1 :: i2 :: i3 :: r4) [] Q 1 s') hst henv B F X T N hA n1 n2 n3 n4 n5 n6 hd hu h0 hlen hp1 hc1 (by decide +kernel) hE (fun _ q => q) fun h' tk' ta tp' F' N' =>
      rt_k6 (s := { s₀ with heap := h', toks := tk' }) hst henv B F' X T N' hA n1 n2 n3 n4 n5 n6 hd hu (by omega) fun h'' tk'' tt' F'' N'' => ih hQ h'' tk'' F'' N'' (by omega) hc2
  | a_sp hq e4 =>
    intro h k nc ts tt tp pos F N h0 hc
    obtain ⟨hp1, hc1, hc2⟩ := drop_step h0 hc
    exact rt_pre (s := { s₀ with heap := h, toks := k }) (Nx := fun s' => WhlRest P0 w A E env t (i1 :: i2 :: i3 :: r4) [] Q 1 s') hst henv B F X T N hA n1 n2 n3 n4 n5 n6 hd hu h0 hlen hp1 hc1 (by decide +kernel) hE (fun _ q => q) fun h' tk' ta tp' F' N' =>
      rt_k7 (s := { s₀ with heap := h', toks := tk' }) hst henv B F' X T N' hA n1 n2 n3 n4 n5 n6 hd hu hq (by omega) fun h'' tk'' ts' F'' N'' => hQ h'' tk'' _ _ ts' tt _ _ F'' N'' hq (by omega) hc2
  | a_eof hq =>
    intro h k nc ts tt tp pos F N h0 hc
    have hp1 := drop_nil h0 hc
    exact rt_pre_eof (s := { s₀ with heap := h, toks := k }) (Nx := fun s' => WhlRest P0 w A E env t (i1 :: i2 :: i3 :: r4) [] Q 1 s') hst henv B F X T N hA n1 n2 n3 n4 n5 n6 hd hu h0 hlen hp1 hE (fun _ q => q) fun h' tk' ta F' N' =>
      rt_k8 (s := { s₀ with heap := h', toks := tk' }) hst henv B F' X T N' hA n1 n2 n3 n4 n5 n6 hd hu fun h'' tk'' F'' N'' => hQ h'' tk'' _ _ 0 tt _ _ F'' N'' hq h0 hc
  | a_dq hr ih =>
    intro h k nc ts tt tp pos F N h0 hc
    obtain ⟨hp1, hc1, hc2⟩ := drop_step h0 hc
    exact rt_pre (s := { s₀ with heap := h, toks := k }) (Nx := fun s' => WhlRest P0 w A E env t (i1 :: i2 :: i3 :: r4) [] Q 1 s') hst henv B F X T N hA n1 n2 n3 n4 n5 n6 hd hu h0 hlen hp1 hc1 (by decide +kernel) hE (fun _ q => q) fun h' tk' ta tp' F' N' =>
      rt_k9 (s := { s₀ with heap := h', toks := tk' }) hst henv B F' X T N' hA n1 n2 n3 n4 n5 n6 hd hu fun h'' tk'' F'' N'' => ih hQ h'' tk'' F'' N'' (by omega) hc2
  | a_sq hr ih =>
    intro h k nc ts tt tp pos F N h0 hc
    obtain ⟨hp1, hc1, hc2⟩ := drop_step h0 hc
    exact rt_pre (s := { s₀ with heap := h, toks := k }) (Nx := fun s' => WhlRest P0 w A E env t (i1 :: i2 :: i3 :: r4) [] Q 1 s') hst henv B F X T N hA n1 n2 n3 n4 n5 n6 hd hu h0 hlen hp1 hc1 (by decide +kernel) hE (fun _ q => q) fun h' tk' ta tp' F' N' =>
      rt_k10 (s := { s₀ with heap := h', toks := tk' }) hst henv B F' X T N' hA n1 n2 n3 n4 n5 n6 hd hu fun h'' tk'' F'' N'' => ih hQ h'' tk'' F'' N'' (by omega) hc2
end

end
section -- LexD
theorem row10 : True := by (k_with_none; trivial)
theorem row11 : True := by ((k_with "ite" => ((k_dflt (first | (refine W.ite_neg (nf_of (by with_reducible assumption)) ?_) | (refine W.ite_pos (by with_reducible assumption) ?_))))); trivial)
theorem row12 : True := by ((k_with "ite" => ((k_closed; k_dflt (first | refine W.ite_pos (by decide +kernel) ?_ | refine W.ite_neg (by decide +kernel) ?_)))); trivial)
theorem row13 : True := by ((k_with "MINE enter" => ((k_dflt (refine' enterM ?k1 ?k2 ?k3 ?k4 ?k5 ?kA ?kF ?kK ?k6 ?k7 ?k8 ?k9 ?kB ?_ ?c2 ?c3 ?c4 ?c5; (case kA => first | assumption | exact rfl); (case kF => first | assumption | exact rfl); (case kK => first | assumption | exact rfl); (case k1 => k_asm); (case k2 => k_asm); (case k3 => k_asm); (case k4 => k_asm); (case k5 => k_asm); (case k6 => k_is); (case k7 => k_is); (case k8 => ktr_room); (case k9 => first | exact BindsTo.of_eq rfl | exact binds_K (by k_in) rfl (by k_is) rfl rfl rfl | fail "k_enter: no rule for these arguments"); (case c5 => decide); (case kB => exact locs rfl); (case c2 => exact rfl); (case c3 => exact rfl); (case c4 => exact rfl); k_whole; intro zkg' zkL' zkh' zkgk' zkFG' zkF' zkN' zkB' zkX' zkT' zkl1; (try k_lt zkl1); (try dsimp only); (try k_lift zkB'); (try k_fold))))); trivial)
theorem fill_ld : (PySem.Challenge.rw_of0118_01.name = PySem.Challenge.rw_of0118_01.name) → (∀ P, KF P = KF P) := by
  k_fill
  intro _ _; rfl
theorem rtM_init {te : Tok} {x : Addr} : (fun y => if y = Str.ofString "escapedstate" then some (Value.str (Str.ofString " ") te) else if y = Str.ofString "quoted" then some (Value.bool false) else List.lookup y [(Str.ofString "self", Value.ref x)]) = rtM none false te x := by
  funext y
  by_cases h1 : y = Str.ofString "escapedstate"
  · subst h1
    have e1 : ¬ (Str.ofString "escapedstate" = Str.ofString "nextchar") := by decide +kernel
    have e2 : ¬ (Str.ofString "escapedstate" = Str.ofString "quoted") := by decide +kernel
    simp [rtM, e1, e2]
  · by_cases h2 : y = Str.ofString "quoted"
    · subst h2
      have e1 : ¬ (Str.ofString "quoted" = Str.ofString "nextchar") := by decide +kernel
      simp [rtM, h1, e1]
    · by_cases h3 : y = Str.ofString "self"
      · subst h3
        have e1 : ¬ (Str.ofString "self" = Str.ofString "nextchar") := by decide +kernel
        simp [rtM, h1, h2, e1]
      · have e3 : (y == Str.ofString "self") = false := by rw [beq_eq_false_iff_ne]; exact h3
        simp [rtM, h1, h2, h3, List.lookup_cons, e3]
theorem ne_empty {r : Str} (h : r.length = 1) : (r == Str.ofString "") = false := by
  rw [beq_eq_false_iff_ne]
  intro e
  rw [e] at h
  exact absurd h (by decide +kernel)
theorem News.updF2 {h₀ h h' : Heap} {L d1 d2 : Addr} {o1 o1' o2 o2' : Obj} {news : List (Addr × Obj)} {nf1 nf2 : Obj → List (Addr × Obj)} (N : News h₀ L h news) (U1 : UpdF d1 o1 news nf1) (U2 : UpdF d2 o2 (nf1 o1') nf2) (hne : d1 ≠ d2)
    (g1 : h'.get? d1 = some o1') (g2 : h'.get? d2 = some o2') (hk : ∀ q ∈ news, q.1 ≠ d1 → q.1 ≠ d2 → h'.get? q.1 = some q.2) : News h₀ L h' (nf2 o2') := fun q hq => by
  obtain ⟨pre, post, e0, e1, h1, h2⟩ := U1.split
  obtain ⟨pre2, post2, f0, f1, k1, k2⟩ := U2.split
  have back : ∀ q ∈ nf1 o1', q = (d1, o1') ∨ (q ∈ news ∧ q.1 ≠ d1) := fun q hq => by
    rw [e1] at hq
    rcases List.mem_append.mp hq with hq | hq
    · exact .inr ⟨by rw [e0]; simp [hq], h1 q hq⟩
    · rcases List.mem_cons.mp hq with rfl | hq
      · exact .inl rfl
      · exact .inr ⟨by rw [e0]; simp [hq], h2 q hq⟩
  have old1 : (d1, o1) ∈ news := by rw [e0]; simp
  have fin : ∀ q ∈ nf1 o1', q.1 ≠ d2 → h'.get? q.1 = some q.2 ∧ q.1 ≠ L ∧ h₀.get? q.1 = none := fun q hq hd => by
    rcases back q hq with rfl | ⟨a, b⟩
    · exact ⟨g1, (N _ old1).2⟩
    · exact ⟨hk q a b hd, (N _ a).2⟩
  rw [f1] at hq
  rcases List.mem_append.mp hq with hq | hq
  · exact fin q (by rw [f0]; simp [hq]) (k1 q hq)
  · rcases List.mem_cons.mp hq with rfl | hq
    · rcases back (d2, o2) (by rw [f0]; simp) with e | ⟨a, b⟩
      · exact absurd (congrArg Prod.fst e).symm hne
      · exact ⟨g2, (N _ a).2⟩
    · exact fin q (by rw [f0]; simp [hq]) (k2 q hq)
section
variable {w : World} {p : Program} {loose : List Str} {mean : ExcName → Option Value} {mg mb : Str → Option Value} {A₀ : Around} {dp un : Nat} {gd : Option (List Code)} {cn : Str} {cs : Scope} {ca : Addr} {ccd : Value} {cl : List (Str × Addr)} {outer : List Env} {base h₀ : Heap} {L : Addr} {m : Str → Option Value} {s : Shared} {R : Result → Shared → Prop} {news : List (Addr × Obj)} {nf1 : Obj → List (Addr × Obj)} {nf2 : Obj → Obj → List (Addr × Obj)}
theorem row14 : True := by ((k_with "exec While" => ((k_here; k_dflt (refine whl_start 1 ?_; refine' rt_loop (r4 := _) rfl rfl ?w1 ?w2 ?w3 rfl ?n1 ?n2 ?n3 ?n4 ?n5 ?n6 ?w4 ?w5 ?w6 ?w7 ?hQ ?hR _ _ ?w8 ?w9 ?w10 ?w11; (case w1 => k_asm); (case w2 => k_asm); (case w3 => k_asm); (case hR => assumption); (case w8 => exact Fr.cong rtM_init (by assumption)); (case w9 => assumption); (case n1 => assumption); (case n2 => assumption); (case n3 => assumption); (case n4 => assumption); (case n5 => assumption); (case n6 => assumption); (case w4 => ktr_room); (case w5 => ktr_units); (case w6 => assumption); (case w7 => first | passes_own | with_unfolding_all passes_own); (case w10 => assumption); (case w11 => assumption)); intro zkh' zktk' zknc zkq' zkts' zktt' zkpos' zktp' zkF' zkN' zkhq zkhp' zkhc'; (rcases zkhq with zkhq | zkhq); (rotate_left; have zkhq := ne_empty zkhq; rotate_left; subst zkhq); all_goals (dsimp only [rtL] at zkN'); all_goals (try k_sweep)))); trivial)
theorem read_token_w {x dx y dy pb fs : Addr} {tk tv : Nat → Tok} {tb t1 t2 t3 ts tt tp : Tok} {buf : Str} {nl : Value} {pos : Int} {cl0 : List Nat} {r : Str} {f : Option (List Nat)}
    (B : Below A₀ base outer h₀) (F : Fr h₀ L s.heap m) (X : (KF w.params).In h₀) (N : News h₀ L s.heap news) (T : Top p loose mean mg mb h₀) (hke : cs.kind = .function)
    (hx : (x, instObj 887 dx) ∈ news) (hy : (y, instObj 752 dy) ∈ news)
    (U1 : UpdF dx (lexD w.params tk tv y pb fs (.str (Str.ofString " ") ts) (.str (Str.ofString "") tt)) news nf1) (U2 : ∀ o, UpdF dy (ioD w.params nl (.str buf tb) (.int pos tp) t1 t2 t3) (nf1 o) (nf2 o))
    (n1 : @Ne Nat x dx) (n2 : @Ne Nat x y) (n3 : @Ne Nat x dy) (n4 : @Ne Nat dx y) (n5 : @Ne Nat dx dy) (n6 : @Ne Nat y dy)
    (hrun : Run .sp (Str.ofString "") false cl0 r f) (hpos : 0 ≤ pos) (hcs : buf.cps.toList.drop pos.toNat = cl0) (hlen : buf.length < 1000) (hd : dp + 10 < recursionLimit) (hu : un + 70 < cLine)
    (hret : ∀ h' tk' ts' tt' tr pos' tp', Fr h₀ L h' m → News h₀ L h' (nf2 (lexD w.params tk tv y pb fs (endV ts' f) (.str (Str.ofString "") tt')) (ioD w.params nl (.str buf tb) (.int pos' tp') t1 t2 t3)) → 0 ≤ pos' → buf.cps.toList.drop pos'.toNat = f.getD [] →
      R (.ok (.ret (.str r tr))) { s with heap := h', toks := tk' }) :
    codeAny (model P0 w) (ktrTop dp un gd cn cs L ca ccd cl outer) (.call (.ref 855) ⟨[.ref x], []⟩) R s := by
  w_on
  have Nm : News h₀ L s.heap [(x, instObj 887 dx), (dx, lexD w.params tk tv y pb fs (.str (Str.ofString " ") ts) (.str (Str.ofString "") tt)), (y, instObj 752 dy), (dy, ioD w.params nl (.str buf tb) (.int pos tp) t1 t2 t3)] := fun q hq => by
    obtain ⟨pre, post, e0, e1, _, _⟩ := U1.split
    obtain ⟨pre2, post2, f0, _, k1, k2⟩ := (U2 (lexD w.params tk tv y pb fs (.str (Str.ofString " ") ts) (.str (Str.ofString "") tt))).split
    have e2 : nf1 (lexD w.params tk tv y pb fs (.str (Str.ofString " ") ts) (.str (Str.ofString "") tt)) = news := by rw [e1, e0]
    rw [e2] at f0
    rcases List.mem_cons.mp hq with rfl | hq
    · exact N _ hx
    · rcases List.mem_cons.mp hq with rfl | hq
      · exact N _ (by rw [e0]; simp)
      · rcases List.mem_cons.mp hq with rfl | hq
        · exact N _ hy
        · rcases List.mem_cons.mp hq with rfl | hq
          · exact N _ (by rw [f0]; simp)
          · cases hq
  have fin : ∀ h' tk' ts' tt' tr pos' tp', Fr h₀ L h' m → News h₀ L h' [(x, instObj 887 dx), (dx, lexD w.params tk tv y pb fs (endV ts' f) (.str (Str.ofString "") tt')), (y, instObj 752 dy), (dy, ioD w.params nl (.str buf tb) (.int pos' tp') t1 t2 t3)] → 0 ≤ pos' → buf.cps.toList.drop pos'.toNat = f.getD [] →
      (∀ b o, s.heap.get? b = some o → (∀ q ∈ [(x, instObj 887 dx), (dx, lexD w.params tk tv y pb fs (.str (Str.ofString " ") ts) (.str (Str.ofString "") tt)), (y, instObj 752 dy), (dy, ioD w.params nl (.str buf tb) (.int pos tp) t1 t2 t3)], q.1 ≠ b) → h'.get? b = some o) → R (.ok (.ret (.str r tr))) { s with heap := h', toks := tk' } := by
    intro h' tk' ts' tt' tr pos' tp' kF kN hp' hc' kk
    refine hret h' tk' ts' tt' tr pos' tp' kF (News.updF2 N U1 (U2 _) n5 (kN _ (.tail _ (.head _))).1 (kN _ (.tail _ (.tail _ (.tail _ (.head _))))).1 fun q hq h1 h2 => ?_) hp' hc'
    by_cases hqx : ∃ r ∈ [(x, instObj 887 dx), (y, instObj 752 dy)], r.1 = q.1
    · obtain ⟨r0, hr, e⟩ := hqx
      have hm : r0 ∈ news := by
        rcases List.mem_cons.mp hr with rfl | hr
        · exact hx
        · rcases List.mem_cons.mp hr with rfl | hr
          · exact hy
          · cases hr
      have hm' : h'.get? r0.1 = some r0.2 := by
        rcases List.mem_cons.mp hr with rfl | hr
        · exact (kN _ (.head _)).1
        · rcases List.mem_cons.mp hr with rfl | hr
          · exact (kN _ (.tail _ (.tail _ (.head _)))).1
          · cases hr
      have z1 := (N _ hq).1
      have z2 := (N _ hm).1
      rw [e, z1] at z2
      rw [← e, hm', Option.some.inj z2]
    · refine kk _ _ (N _ hq).1 fun r0 hr e => ?_
      rcases List.mem_cons.mp hr with rfl | hr
      · exact hqx ⟨_, .head _, e⟩
      · rcases List.mem_cons.mp hr with rfl | hr
        · exact h1 e.symm
        · rcases List.mem_cons.mp hr with rfl | hr
          · exact hqx ⟨_, .tail _ (.head _), e⟩
          · rcases List.mem_cons.mp hr with rfl | hr
            · exact h2 e.symm
            · cases hr
  walk_at "MINE enter"
  k_steps
  all_goals (refine' fin _ _ _ _ _ _ _ ?e1 ?e2 ?e3 ?e4 ?e5; (case e1 => assumption); (case e2 => first | assumption | (refine cb_drop (by assumption) ?_; kcj_all)); (case e3 => assumption); (case e4 => assumption); (case e5 => exact keep_thru (by assumption) (by assumption)))
end

end
section -- Dq
theorem dq_noBool : typeLookup (.type "collections.deque") "__bool__" = pure none := by rw [typeLookup_type, builtinLookup_eq_fast]; kernel_rfl
theorem dq_slot_len : Slot "collections.deque" "__len__" "collections.deque.__len__" :=
  .of (owner := "collections.deque") (n := "__len__") (by rw [typeLookup_type, builtinLookup_eq_fast]; kernel_rfl) (by decide +kernel) (by decide +kernel) (by decide +kernel)
    (by first | exact .inl (by decide +kernel) | exact .inr (by decide +kernel)) (by rw [isSubtype_type]; kernel_rfl)
theorem dq_entry_len : entryFor table "collections.deque.__len__" = some Builtin.«collections.deque.__len__» := entryFor_of_fast (by kernel_rfl)
theorem dq_args_len (a : Value) : argsOk "collections.deque.__len__" ⟨[a], []⟩ := by unfold argsOk; kernel_rfl
section
variable {prog : Program} {w : World} {A : Around} {E : Value → Shared → Prop} {s : Shared}
theorem truthy_dq {l : Addr} {o : Obj} {vs : Array Value} {Q : Bool → Shared → Prop} (ho : s.heap.get? l = some o) (hc : o.cls = .type "collections.deque") (hd : o.data = .fields vs) (hs : vs.size = 2)
    (h : Q false { s with toks := s.toks + 1 + 1 }) : wpAny (model prog w) A (truthy (.ref l)) Q E s := by
  have hT : s.TypeIs (.ref l) "collections.deque" := ⟨o, ho, hc⟩
  have body : wpAny (model prog w) A.in1 (Builtin.«len» ⟨[.ref l], []⟩) (fun fin s' => ∃ r, fin = .done (.ret r) ∧ (r = .int 0 (s.toks + 1) ∧ Q false s')) E s := by
    unfold Builtin.«len»
    refine wpAny_bind (m := oneArg "len" _) (wpAny_pure ?_)
    refine wpAny_bind (m := callSpecial? (.ref l) (Str.ofString "__len__")) (wpAny_callSpecial?_slot (name := Str.ofString "__len__") hT dq_slot_len
      (wpAny_call_entry dq_slot_len hT dq_entry_len ?_ (dq_args_len _)))
    show wpAny _ _ (do retInt (← Builtin.Deque.size (.ref l))) _ _ s
    unfold Builtin.Deque.size
    refine wpAny_bind (wpAny_bind (wpAny_fieldsOf ho hd ?_))
    refine wpAny_pure ?_
    rw [hs]
    refine wpAny_bind (wpAny_mkInt (wpAny_pure ⟨_, rfl, ?_⟩))
    refine wpAny_bind (wpAny_holding (wpAny_pure ?_))
    refine wpAny_bind (wpAny_letGo ?_)
    show wpAny _ _ (if (((2 - 2 : Nat)) : Int) < 0 then _ else _) _ _ _
    rw [if_neg (by decide)]
    show wpAny _ _ (if (((2 - 2 : Nat)) : Int) ≥ 2 ^ 63 then _ else _) _ _ _
    rw [if_neg (by decide)]
    exact wpAny_bind (wpAny_mkInt (wpAny_pure ⟨_, rfl, rfl, h⟩))
  have key : wpAny (model prog w) A (runValue (.builtin "len" ⟨[.ref l], []⟩)) (fun r s' => r = .int 0 (s.toks + 1) ∧ Q false s') E s := by
    refine wpAny_runValue (codeAny_builtin entry_len ?_)
    rw [Around.under_plainId plain_len _]
    exact wpAny_mono body (fun fin s' h' => by obtain ⟨r, rfl, hq⟩ := h'; exact hq) fun _ _ e => e
  unfold truthy
  first
    | refine wpAny_bind (wpAny_callSpecial?_none (name := Str.ofString "__bool__") hT dq_noBool ?_)
    | refine wpAny_bind (wpAny_pure (wpAny_bind (wpAny_callSpecial?_none (name := Str.ofString "__bool__") hT dq_noBool ?_)))
  first
    | refine wpAny_bind (wpAny_specialOf (name := Str.ofString "__len__") hT dq_slot_len.lookup ?_)
    | refine wpAny_bind (wpAny_pure (wpAny_bind (wpAny_specialOf (name := Str.ofString "__len__") hT dq_slot_len.lookup ?_)))
  first
    | exact wpAny_bind (wpAny_mono key (fun r s' h' => by obtain ⟨rfl, hq⟩ := h'; exact wpAny_pure hq) fun _ _ e => e)
    | exact wpAny_bind (wpAny_pure (wpAny_bind (wpAny_mono key (fun r s' h' => by obtain ⟨rfl, hq⟩ := h'; exact wpAny_pure hq) fun _ _ e => e)))
end

end
section -- LexE
theorem row15 : True := by (k_with_none; trivial)
theorem row16 : True := by ((k_with "ite" => ((k_dflt (first | (refine W.ite_neg (nf_of (by with_reducible assumption)) ?_) | (refine W.ite_pos (by with_reducible assumption) ?_))))); trivial)
theorem row17 : True := by ((k_with "ite" => ((k_closed; k_dflt (first | refine W.ite_pos (by decide +kernel) ?_ | refine W.ite_neg (by decide +kernel) ?_)))); trivial)
theorem row18 : True := by ((k_with "MINE enter" => ((k_dflt (refine' enterM ?k1 ?k2 ?k3 ?k4 ?k5 ?kA ?kF ?kK ?k6 ?k7 ?k8 ?k9 ?kB ?_ ?c2 ?c3 ?c4 ?c5; (case kA => first | assumption | exact rfl); (case kF => first | assumption | exact rfl); (case kK => first | assumption | exact rfl); (case k1 => k_asm); (case k2 => k_asm); (case k3 => k_asm); (case k4 => k_asm); (case k5 => k_asm); (case k6 => k_is); (case k7 => k_is); (case k8 => ktr_room); (case k9 => first | exact BindsTo.of_eq rfl | exact binds_K (by k_in) rfl (by k_is) rfl rfl rfl | fail "k_enter: no rule for these arguments"); (case c5 => decide); (case kB => exact locs rfl); (case c2 => exact rfl); (case c3 => exact rfl); (case c4 => exact rfl); k_whole; intro zkg' zkL' zkh' zkgk' zkFG' zkF' zkN' zkB' zkX' zkT' zkl1; (try k_lt zkl1); (try dsimp only); (try k_lift zkB'); (try k_fold))))); trivial)
theorem fill_le : (PySem.Challenge.rw_of0118_01.name = PySem.Challenge.rw_of0118_01.name) → (∀ P, KF P = KF P) := by
  k_fill
  intro _ _; rfl
theorem kept_of {h₀ h h' : Heap} {L d1 d2 : Addr} {news mtl mtl' : List (Addr × Obj)} (N : News h₀ L h news) (sub : ∀ r ∈ mtl, r ∈ news) (kN : News h₀ L h' mtl') (same : ∀ r ∈ mtl, r.1 ≠ d1 → r.1 ≠ d2 → r ∈ mtl')
    (kk : ∀ b o, h.get? b = some o → (∀ q ∈ mtl, q.1 ≠ b) → h'.get? b = some o) : ∀ q ∈ news, q.1 ≠ d1 → q.1 ≠ d2 → h'.get? q.1 = some q.2 := by
  intro q hq h1 h2
  by_cases hx : ∃ r ∈ mtl, r.1 = q.1
  · obtain ⟨r, hr, e⟩ := hx
    have z := (N _ (sub r hr)).1
    rw [e, (N _ hq).1] at z
    rw [← e, (kN r (same r hr (e ▸ h1) (e ▸ h2))).1, Option.some.inj z]
  · exact kk _ _ (N _ hq).1 fun r hr e => hx ⟨r, hr, e⟩
theorem kept_all {h₀ h h' : Heap} {L : Addr} {news mtl : List (Addr × Obj)} (N : News h₀ L h news) (sub : ∀ r ∈ mtl, r ∈ news) (kN : News h₀ L h' mtl)
    (kk : ∀ b o, h.get? b = some o → (∀ q ∈ mtl, q.1 ≠ b) → h'.get? b = some o) : News h₀ L h' news := fun q hq => ⟨by
  by_cases hx : ∃ r ∈ mtl, r.1 = q.1
  · obtain ⟨r, hr, e⟩ := hx
    have z := (N _ (sub r hr)).1
    rw [e, (N _ hq).1] at z
    rw [← e, (kN r hr).1, Option.some.inj z]
  · exact kk _ _ (N _ hq).1 fun r hr e => hx ⟨r, hr, e⟩, (N q hq).2⟩
theorem UpdF.old {d : Addr} {o : Obj} {l : List (Addr × Obj)} {g : Obj → List (Addr × Obj)} (U : UpdF d o l g) : (d, o) ∈ l ∧ g o = l := by
  obtain ⟨pre, post, e0, e1, _, _⟩ := U.split
  exact ⟨by rw [e0]; simp, by rw [e1, e0]⟩
noncomputable abbrev dqO (vs : Array Value) : Obj := { cls := .type "collections.deque", data := .fields vs }
noncomputable abbrev gtL (P : Params) (x dx y dy pb fs : Addr) (lo io : Obj) (v1 v2 : Array Value) : List (Addr × Obj) := [(x, instObj 887 dx), (dx, lo), (y, instObj 752 dy), (dy, io), (pb, dqO v1), (fs, dqO v2)]
section
variable {w : World} {p : Program} {loose : List Str} {mean : ExcName → Option Value} {mg mb : Str → Option Value} {A₀ : Around} {dp un : Nat} {gd : Option (List Code)} {cn : Str} {cs : Scope} {ca : Addr} {ccd : Value} {cl : List (Str × Addr)} {outer : List Env} {base h₀ : Heap} {L : Addr} {m : Str → Option Value} {s : Shared} {R : Result → Shared → Prop} {news : List (Addr × Obj)} {nf1 : Obj → List (Addr × Obj)} {nf2 : Obj → Obj → List (Addr × Obj)}
theorem row19 : True := by ((k_with "truthy ref" => ((k_here; k_dflt (refine' truthy_dq (o := dqO _) (News.get ?t1 ?t2) rfl rfl ?t3 ?_; (case t1 => k_asm); (case t2 => k_mem); (case t3 => assumption); k_whole)))); trivial)
theorem row20 : True := by ((k_with "call ref" => ((k_here; (k_dflt show wpAny _ _ (call (Value.ref 855) [Value.ref _]) _ _ _); k_dflt (refine wpAny_call ?_; refine' read_token_w ?r1 ?r2 ?r3 ?r4 ?r5 ?r6 ?r7 ?r8 ?r9 ?r10 ?n1 ?n2 ?n3 ?n4 ?n5 ?n6 ?r11 ?r12 ?r13 ?r14 ?r15 ?r16 ?_; (case r1 => k_asm); (case r2 => k_asm); (case r3 => k_asm); (case r4 => k_asm); (case r5 => k_asm); (case r6 => exact rfl); (case r7 => k_mem); (case r9 => k_updF); (case r8 => k_mem); (case r10 => intro _; k_updF); (case n1 => assumption); (case n2 => assumption); (case n3 => assumption); (case n4 => assumption); (case n5 => assumption); (case n6 => assumption); (case r11 => assumption); (case r12 => assumption); (case r13 => assumption); (case r14 => assumption); (case r15 => ktr_room); (case r16 => ktr_units); k_whole); intro zkh' zktk' zkts' zktt' zktr zkpos' zktp' zkF' zkN' zkhp' zkhc'; (try dsimp only at zkN'); (try k_sweep)))); trivial)
theorem get_token_w {x dx y dy pb fs : Addr} {tk tv : Nat → Tok} {tb t1 t2 t3 ts tt tp : Tok} {buf : Str} {nl : Value} {pos : Int} {cl0 : List Nat} {r : Str} {f : Option (List Nat)} {v1 v2 : Array Value}
    (B : Below A₀ base outer h₀) (F : Fr h₀ L s.heap m) (X : (KF w.params).In h₀) (N : News h₀ L s.heap news) (T : Top p loose mean mg mb h₀) (hke : cs.kind = .function)
    (hx : (x, instObj 887 dx) ∈ news) (hy : (y, instObj 752 dy) ∈ news) (hpb : (pb, dqO v1) ∈ news) (hfs : (fs, dqO v2) ∈ news) (hv1 : v1.size = 2) (hv2 : v2.size = 2)
    (U1 : UpdF dx (lexD w.params tk tv y pb fs (.str (Str.ofString " ") ts) (.str (Str.ofString "") tt)) news nf1) (U2 : ∀ o, UpdF dy (ioD w.params nl (.str buf tb) (.int pos tp) t1 t2 t3) (nf1 o) (nf2 o))
    (n1 : @Ne Nat x dx) (n2 : @Ne Nat x y) (n3 : @Ne Nat x dy) (n4 : @Ne Nat dx y) (n5 : @Ne Nat dx dy) (n6 : @Ne Nat y dy) (n7 : @Ne Nat pb dx) (n8 : @Ne Nat pb dy) (n9 : @Ne Nat fs dx) (n10 : @Ne Nat fs dy)
    (hrun : Run .sp (Str.ofString "") false cl0 r f) (hpos : 0 ≤ pos) (hcs : buf.cps.toList.drop pos.toNat = cl0) (hlen : buf.length < 1000) (hd : dp + 12 < recursionLimit) (hu : un + 80 < cLine)
    (hret : ∀ h' tk' ts' tt' tr pos' tp', Fr h₀ L h' m → News h₀ L h' (nf2 (lexD w.params tk tv y pb fs (endV ts' f) (.str (Str.ofString "") tt')) (ioD w.params nl (.str buf tb) (.int pos' tp') t1 t2 t3)) → 0 ≤ pos' → buf.cps.toList.drop pos'.toNat = f.getD [] →
      R (.ok (.ret (.str r tr))) { s with heap := h', toks := tk' }) :
    codeAny (model P0 w) (ktrTop dp un gd cn cs L ca ccd cl outer) (.call (.ref 848) ⟨[.ref x], []⟩) R s := by
  w_on
  have sub : ∀ q ∈ gtL w.params x dx y dy pb fs (lexD w.params tk tv y pb fs (.str (Str.ofString " ") ts) (.str (Str.ofString "") tt)) (ioD w.params nl (.str buf tb) (.int pos tp) t1 t2 t3) v1 v2, q ∈ news := fun q hq => by
    simp only [gtL, List.mem_cons, List.not_mem_nil, or_false] at hq
    have h2 := UpdF.old (U2 (lexD w.params tk tv y pb fs (.str (Str.ofString " ") ts) (.str (Str.ofString "") tt)))
    rw [(UpdF.old U1).2] at h2
    rcases hq with rfl | rfl | rfl | rfl | rfl | rfl
    · exact hx
    · exact (UpdF.old U1).1
    · exact hy
    · exact h2.1
    · exact hpb
    · exact hfs
  have Nm : News h₀ L s.heap (gtL w.params x dx y dy pb fs (lexD w.params tk tv y pb fs (.str (Str.ofString " ") ts) (.str (Str.ofString "") tt)) (ioD w.params nl (.str buf tb) (.int pos tp) t1 t2 t3) v1 v2) := fun q hq => N q (sub q hq)
  dsimp only [gtL] at Nm
  have fin : ∀ h' tk' ts' tt' tr pos' tp', Fr h₀ L h' m → News h₀ L h' (gtL w.params x dx y dy pb fs (lexD w.params tk tv y pb fs (endV ts' f) (.str (Str.ofString "") tt')) (ioD w.params nl (.str buf tb) (.int pos' tp') t1 t2 t3) v1 v2) → 0 ≤ pos' → buf.cps.toList.drop pos'.toNat = f.getD [] →
      (∀ b o, s.heap.get? b = some o → (∀ q ∈ gtL w.params x dx y dy pb fs (lexD w.params tk tv y pb fs (.str (Str.ofString " ") ts) (.str (Str.ofString "") tt)) (ioD w.params nl (.str buf tb) (.int pos tp) t1 t2 t3) v1 v2, q.1 ≠ b) → h'.get? b = some o) → R (.ok (.ret (.str r tr))) { s with heap := h', toks := tk' } := by
    intro h' tk' ts' tt' tr pos' tp' kF kN hp' hc' kk
    refine hret h' tk' ts' tt' tr pos' tp' kF (News.updF2 N U1 (U2 _) n5 (kN _ (.tail _ (.head _))).1 (kN _ (.tail _ (.tail _ (.tail _ (.head _))))).1 (kept_of N sub kN ?_ kk)) hp' hc'
    intro q hq h1 h2
    simp only [gtL, List.mem_cons, List.not_mem_nil, or_false] at hq ⊢
    rcases hq with rfl | rfl | rfl | rfl | rfl | rfl
    · exact .inl rfl
    · exact absurd rfl h1
    · exact .inr (.inr (.inl rfl))
    · exact absurd rfl h2
    · exact .inr (.inr (.inr (.inr (.inl rfl))))
    · exact .inr (.inr (.inr (.inr (.inr rfl))))
  walk_at "MINE enter"
  k_steps
  all_goals (refine' fin _ _ _ _ _ _ _ ?e1 ?e2 ?e3 ?e4 ?e5; (case e1 => assumption); (case e2 => first | assumption | (refine cb_drop (by assumption) ?_; kcj_all)); (case e3 => assumption); (case e4 => assumption); (case e5 => exact keep_thru (by assumption) (by assumption)))
end

end
section -- LexF
theorem row21 : True := by (k_with_none; trivial)
theorem row22 : True := by ((k_with "ite" => ((k_dflt (first | (refine W.ite_neg (nf_of (by with_reducible assumption)) ?_) | (refine W.ite_pos (by with_reducible assumption) ?_))))); trivial)
theorem row23 : True := by ((k_with "ite" => ((k_closed; k_dflt (first | refine W.ite_pos (by decide +kernel) ?_ | refine W.ite_neg (by decide +kernel) ?_)))); trivial)
theorem row24 : True := by ((k_with "MINE enter" => ((k_dflt (refine' enterM ?k1 ?k2 ?k3 ?k4 ?k5 ?kA ?kF ?kK ?k6 ?k7 ?k8 ?k9 ?kB ?_ ?c2 ?c3 ?c4 ?c5; (case kA => first | assumption | exact rfl); (case kF => first | assumption | exact rfl); (case kK => first | assumption | exact rfl); (case k1 => k_asm); (case k2 => k_asm); (case k3 => k_asm); (case k4 => k_asm); (case k5 => k_asm); (case k6 => k_is); (case k7 => k_is); (case k8 => ktr_room); (case k9 => first | exact BindsTo.of_eq rfl | exact binds_K (by k_in) rfl (by k_is) rfl rfl rfl | fail "k_enter: no rule for these arguments"); (case c5 => decide); (case kB => exact locs rfl); (case c2 => exact rfl); (case c3 => exact rfl); (case c4 => exact rfl); k_whole; intro zkg' zkL' zkh' zkgk' zkFG' zkF' zkN' zkB' zkX' zkT' zkl1; (try k_lt zkl1); (try dsimp only); (try k_lift zkB'); (try k_fold))))); trivial)
theorem fill_lf : (PySem.Challenge.rw_of0118_01.name = PySem.Challenge.rw_of0118_01.name) → (∀ P, KF P = KF P) := by
  k_fill
  intro _ _; rfl
section
variable {w : World} {p : Program} {loose : List Str} {mean : ExcName → Option Value} {mg mb : Str → Option Value} {A₀ : Around} {dp un : Nat} {gd : Option (List Code)} {cn : Str} {cs : Scope} {ca : Addr} {ccd : Value} {cl : List (Str × Addr)} {outer : List Env} {base h₀ : Heap} {L : Addr} {m : Str → Option Value} {s : Shared} {R : Result → Shared → Prop} {news : List (Addr × Obj)} {nf1 : Obj → List (Addr × Obj)} {nf2 : Obj → Obj → List (Addr × Obj)}
theorem row25 : True := by ((k_with "exec While" => ((k_here; k_dflt (refine whl_start 1 ?_; refine' rt_pre_eof (Nx := fun _ => False) (r4 := _) rfl rfl ?w1 ?w8 ?w2 ?w3 ?w9 rfl ?n1 ?n2 ?n3 ?n4 ?n5 ?n6 ?w4 ?w5 ?w10 ?w11 ?w12 ?w7 (fun _ q => q.elim) ?_; (case w1 => k_asm); (case w2 => k_asm); (case w3 => k_asm); (case w8 => exact Fr.cong rtM_init (by assumption)); (case w9 => assumption); (case n1 => assumption); (case n2 => assumption); (case n3 => assumption); (case n4 => assumption); (case n5 => assumption); (case n6 => assumption); (case w4 => ktr_room); (case w5 => ktr_units); (case w10 => assumption); (case w11 => assumption); (case w12 => assumption); (case w7 => first | passes_own | with_unfolding_all passes_own)); intro zkh2 zktk2 zkta2 zkF2 zkN2; k_dflt (refine' rt_k11 rfl rfl ?v1 zkF2 ?v2 ?v3 zkN2 rfl ?m1 ?m2 ?m3 ?m4 ?m5 ?m6 ?v4 ?v5 ?_; (case v1 => k_asm); (case v2 => k_asm); (case v3 => k_asm); (case m1 => assumption); (case m2 => assumption); (case m3 => assumption); (case m4 => assumption); (case m5 => assumption); (case m6 => assumption); (case v4 => ktr_room); (case v5 => ktr_units)); intro zkh' zktk' zktt' zkF' zkN'; (dsimp only [rtL] at zkN'); (try k_sweep)))); trivial)
theorem read_token_n {x dx y dy pb fs : Addr} {tk tv : Nat → Tok} {tb t1 t2 t3 tt tp : Tok} {tok buf : Str} {nl : Value} {pos : Int}
    (B : Below A₀ base outer h₀) (F : Fr h₀ L s.heap m) (X : (KF w.params).In h₀) (N : News h₀ L s.heap news) (T : Top p loose mean mg mb h₀) (hke : cs.kind = .function)
    (hx : (x, instObj 887 dx) ∈ news) (hy : (y, instObj 752 dy) ∈ news) (hdy : (dy, ioD w.params nl (.str buf tb) (.int pos tp) t1 t2 t3) ∈ news)
    (U1 : UpdF dx (lexD w.params tk tv y pb fs .none (.str tok tt)) news nf1)
    (n1 : @Ne Nat x dx) (n2 : @Ne Nat x y) (n3 : @Ne Nat x dy) (n4 : @Ne Nat dx y) (n5 : @Ne Nat dx dy) (n6 : @Ne Nat y dy)
    (hpos : 0 ≤ pos) (hlen : buf.length < 1000) (hend : (buf.length : Int) ≤ pos) (hd : dp + 10 < recursionLimit) (hu : un + 70 < cLine)
    (hret : ∀ h' tk' tt', Fr h₀ L h' m → News h₀ L h' (nf1 (lexD w.params tk tv y pb fs .none (.str (Str.ofString "") tt'))) → R (.ok (.ret .none)) { s with heap := h', toks := tk' }) :
    codeAny (model P0 w) (ktrTop dp un gd cn cs L ca ccd cl outer) (.call (.ref 855) ⟨[.ref x], []⟩) R s := by
  w_on
  have sub : ∀ q ∈ rtL w.params x dx y dy (lexD w.params tk tv y pb fs .none (.str tok tt)) (ioD w.params nl (.str buf tb) (.int pos tp) t1 t2 t3), q ∈ news := fun q hq => by
    simp only [rtL, List.mem_cons, List.not_mem_nil, or_false] at hq
    rcases hq with rfl | rfl | rfl | rfl
    · exact hx
    · exact (UpdF.old U1).1
    · exact hy
    · exact hdy
  have Nm : News h₀ L s.heap (rtL w.params x dx y dy (lexD w.params tk tv y pb fs .none (.str tok tt)) (ioD w.params nl (.str buf tb) (.int pos tp) t1 t2 t3)) := fun q hq => N q (sub q hq)
  dsimp only [rtL] at Nm
  have fin : ∀ h' tk' tt', Fr h₀ L h' m → News h₀ L h' (rtL w.params x dx y dy (lexD w.params tk tv y pb fs .none (.str (Str.ofString "") tt')) (ioD w.params nl (.str buf tb) (.int pos tp) t1 t2 t3)) →
      (∀ b o, s.heap.get? b = some o → (∀ q ∈ rtL w.params x dx y dy (lexD w.params tk tv y pb fs .none (.str tok tt)) (ioD w.params nl (.str buf tb) (.int pos tp) t1 t2 t3), q.1 ≠ b) → h'.get? b = some o) → R (.ok (.ret .none)) { s with heap := h', toks := tk' } := by
    intro h' tk' tt' kF kN kk
    refine hret h' tk' tt' kF (News.updF N U1 (kN _ (.tail _ (.head _))).1 fun q hq h1 => kept_of (d2 := dx) N sub kN ?_ kk q hq h1 h1)
    intro q hq h1 h2
    simp only [rtL, List.mem_cons, List.not_mem_nil, or_false] at hq ⊢
    rcases hq with rfl | rfl | rfl | rfl
    · exact .inl rfl
    · exact absurd rfl h1
    · exact .inr (.inr (.inl rfl))
    · exact .inr (.inr (.inr rfl))
  walk_at "MINE enter"
  k_steps
  all_goals (refine' fin _ _ _ ?e1 ?e2 ?e5; (case e1 => assumption); (case e2 => first | assumption | (refine cb_drop (by assumption) ?_; kcj_all)); (case e5 => exact keep_thru (by assumption) (by assumption)))
end
theorem row26 : True := by (k_with_none; (k_with "ite" => ((k_dflt (first | (refine W.ite_neg (nf_of (by with_reducible assumption)) ?_) | (refine W.ite_pos (by with_reducible assumption) ?_))))); (k_with "ite" => ((k_closed; k_dflt (first | refine W.ite_pos (by decide +kernel) ?_ | refine W.ite_neg (by decide +kernel) ?_)))); (k_with "MINE enter" => ((k_dflt (refine' enterM ?k1 ?k2 ?k3 ?k4 ?k5 ?kA ?kF ?kK ?k6 ?k7 ?k8 ?k9 ?kB ?_ ?c2 ?c3 ?c4 ?c5; (case kA => first | assumption | exact rfl); (case kF => first | assumption | exact rfl); (case kK => first | assumption | exact rfl); (case k1 => k_asm); (case k2 => k_asm); (case k3 => k_asm); (case k4 => k_asm); (case k5 => k_asm); (case k6 => k_is); (case k7 => k_is); (case k8 => ktr_room); (case k9 => first | exact BindsTo.of_eq rfl | exact binds_K (by k_in) rfl (by k_is) rfl rfl rfl | fail "k_enter: no rule for these arguments"); (case c5 => decide); (case kB => exact locs rfl); (case c2 => exact rfl); (case c3 => exact rfl); (case c4 => exact rfl); k_whole; intro zkg' zkL' zkh' zkgk' zkFG' zkF' zkN' zkB' zkX' zkT' zkl1; (try k_lt zkl1); (try dsimp only); (try k_lift zkB'); (try k_fold))))); trivial)
section
variable {w : World} {p : Program} {loose : List Str} {mean : ExcName → Option Value} {mg mb : Str → Option Value} {A₀ : Around} {dp un : Nat} {gd : Option (List Code)} {cn : Str} {cs : Scope} {ca : Addr} {ccd : Value} {cl : List (Str × Addr)} {outer : List Env} {base h₀ : Heap} {L : Addr} {m : Str → Option Value} {s : Shared} {R : Result → Shared → Prop} {news : List (Addr × Obj)} {nf1 : Obj → List (Addr × Obj)} {nf2 : Obj → Obj → List (Addr × Obj)}
theorem row27 : True := by ((k_with "truthy ref" => ((k_here; k_dflt (refine' truthy_dq (o := dqO _) (News.get ?t1 ?t2) rfl rfl ?t3 ?_; (case t1 => k_asm); (case t2 => k_mem); (case t3 => assumption); k_whole)))); trivial)
theorem row28 : True := by ((k_with "call ref" => ((k_here; (k_dflt show wpAny _ _ (call (Value.ref 855) [Value.ref _]) _ _ _); k_dflt (refine wpAny_call ?_; refine' read_token_n ?r1 ?r2 ?r3 ?r4 ?r5 ?r6 ?r7 ?r8 ?r9 ?r10 ?n1 ?n2 ?n3 ?n4 ?n5 ?n6 ?r12 ?r13 ?r14 ?r15 ?r16 ?_; (case r1 => k_asm); (case r2 => k_asm); (case r3 => k_asm); (case r4 => k_asm); (case r5 => k_asm); (case r6 => exact rfl); (case r7 => k_mem); (case r10 => k_updF); (case r8 => k_mem); (case r9 => k_mem); (case n1 => assumption); (case n2 => assumption); (case n3 => assumption); (case n4 => assumption); (case n5 => assumption); (case n6 => assumption); (case r12 => assumption); (case r13 => assumption); (case r14 => assumption); (case r15 => ktr_room); (case r16 => ktr_units); k_whole); intro zkh' zktk' zktt' zkF' zkN'; (try dsimp only at zkN'); (try k_sweep)))); trivial)
theorem get_token_n {x dx y dy pb fs : Addr} {tk tv : Nat → Tok} {tb t1 t2 t3 tt tp : Tok} {tok buf : Str} {nl : Value} {pos : Int} {v1 v2 : Array Value}
    (B : Below A₀ base outer h₀) (F : Fr h₀ L s.heap m) (X : (KF w.params).In h₀) (N : News h₀ L s.heap news) (T : Top p loose mean mg mb h₀) (hke : cs.kind = .function)
    (hx : (x, instObj 887 dx) ∈ news) (hy : (y, instObj 752 dy) ∈ news) (hdy : (dy, ioD w.params nl (.str buf tb) (.int pos tp) t1 t2 t3) ∈ news) (hpb : (pb, dqO v1) ∈ news) (hfs : (fs, dqO v2) ∈ news) (hv1 : v1.size = 2) (hv2 : v2.size = 2)
    (U1 : UpdF dx (lexD w.params tk tv y pb fs .none (.str tok tt)) news nf1)
    (n1 : @Ne Nat x dx) (n2 : @Ne Nat x y) (n3 : @Ne Nat x dy) (n4 : @Ne Nat dx y) (n5 : @Ne Nat dx dy) (n6 : @Ne Nat y dy) (n7 : @Ne Nat pb dx) (n8 : @Ne Nat pb dy) (n9 : @Ne Nat fs dx) (n10 : @Ne Nat fs dy)
    (hpos : 0 ≤ pos) (hlen : buf.length < 1000) (hend : (buf.length : Int) ≤ pos) (hd : dp + 12 < recursionLimit) (hu : un + 80 < cLine)
    (hret : ∀ h' tk' tt', Fr h₀ L h' m → News h₀ L h' (nf1 (lexD w.params tk tv y pb fs .none (.str (Str.ofString "") tt'))) → R (.ok (.ret .none)) { s with heap := h', toks := tk' }) :
    codeAny (model P0 w) (ktrTop dp un gd cn cs L ca ccd cl outer) (.call (.ref 848) ⟨[.ref x], []⟩) R s := by
  w_on
  have sub : ∀ q ∈ gtL w.params x dx y dy pb fs (lexD w.params tk tv y pb fs .none (.str tok tt)) (ioD w.params nl (.str buf tb) (.int pos tp) t1 t2 t3) v1 v2, q ∈ news := fun q hq => by
    simp only [gtL, List.mem_cons, List.not_mem_nil, or_false] at hq
    rcases hq with rfl | rfl | rfl | rfl | rfl | rfl
    · exact hx
    · exact (UpdF.old U1).1
    · exact hy
    · exact hdy
    · exact hpb
    · exact hfs
  have Nm : News h₀ L s.heap (gtL w.params x dx y dy pb fs (lexD w.params tk tv y pb fs .none (.str tok tt)) (ioD w.params nl (.str buf tb) (.int pos tp) t1 t2 t3) v1 v2) := fun q hq => N q (sub q hq)
  dsimp only [gtL] at Nm
  have fin : ∀ h' tk' tt', Fr h₀ L h' m → News h₀ L h' (gtL w.params x dx y dy pb fs (lexD w.params tk tv y pb fs .none (.str (Str.ofString "") tt')) (ioD w.params nl (.str buf tb) (.int pos tp) t1 t2 t3) v1 v2) →
      (∀ b o, s.heap.get? b = some o → (∀ q ∈ gtL w.params x dx y dy pb fs (lexD w.params tk tv y pb fs .none (.str tok tt)) (ioD w.params nl (.str buf tb) (.int pos tp) t1 t2 t3) v1 v2, q.1 ≠ b) → h'.get? b = some o) → R (.ok (.ret .none)) { s with heap := h', toks := tk' } := by
    intro h' tk' tt' kF kN kk
    refine hret h' tk' tt' kF (News.updF N U1 (kN _ (.tail _ (.head _))).1 fun q hq h1 => kept_of (d2 := dx) N sub kN ?_ kk q hq h1 h1)
    intro q hq h1 h2
    simp only [gtL, List.mem_cons, List.not_mem_nil, or_false] at hq ⊢
    rcases hq with rfl | rfl | rfl | rfl | rfl | rfl
    · exact .inl rfl
    · exact absurd rfl h1
    · exact .inr (.inr (.inl rfl))
    · exact .inr (.inr (.inr (.inl rfl)))
    · exact .inr (.inr (.inr (.inr (.inl rfl))))
    · exact .inr (.inr (.inr (.inr (.inr rfl))))
  walk_at "MINE enter"
  k_steps
  all_goals (refine' fin _ _ _ ?e1 ?e2 ?e5; (case e1 => assumption); (case e2 => first | assumption | (refine cb_drop (by assumption) ?_; kcj_all)); (case e5 => exact keep_thru (by assumption) (by assumption)))
end

end
section -- LexG
theorem row29 : True := by (k_with_none; trivial)
theorem row30 : True := by ((k_with "ite" => ((k_dflt (first | (refine W.ite_neg (nf_of (by with_reducible assumption)) ?_) | (refine W.ite_pos (by with_reducible assumption) ?_))))); trivial)
theorem row31 : True := by ((k_with "ite" => ((k_closed; k_dflt (first | refine W.ite_pos (by decide +kernel) ?_ | refine W.ite_neg (by decide +kernel) ?_)))); trivial)
theorem row32 : True := by ((k_with "MINE enter" => ((k_dflt (refine' enterM ?k1 ?k2 ?k3 ?k4 ?k5 ?kA ?kF ?kK ?k6 ?k7 ?k8 ?k9 ?kB ?_ ?c2 ?c3 ?c4 ?c5; (case kA => first | assumption | exact rfl); (case kF => first | assumption | exact rfl); (case kK => first | assumption | exact rfl); (case k1 => k_asm); (case k2 => k_asm); (case k3 => k_asm); (case k4 => k_asm); (case k5 => k_asm); (case k6 => k_is); (case k7 => k_is); (case k8 => ktr_room); (case k9 => first | exact BindsTo.of_eq rfl | exact binds_K (by k_in) rfl (by k_is) rfl rfl rfl | fail "k_enter: no rule for these arguments"); (case c5 => decide); (case kB => exact locs rfl); (case c2 => exact rfl); (case c3 => exact rfl); (case c4 => exact rfl); k_whole; intro zkg' zkL' zkh' zkgk' zkFG' zkF' zkN' zkB' zkX' zkT' zkl1; (try k_lt zkl1); (try dsimp only); (try k_lift zkB'); (try k_fold))))); trivial)
theorem fill_lg : (PySem.Challenge.rw_of0118_01.name = PySem.Challenge.rw_of0118_01.name) → (∀ P, KF P = KF P) := by
  k_fill
  intro _ _; rfl
section
variable {w : World} {p : Program} {loose : List Str} {mean : ExcName → Option Value} {mg mb : Str → Option Value} {A₀ : Around} {dp un : Nat} {gd : Option (List Code)} {cn : Str} {cs : Scope} {ca : Addr} {ccd : Value} {cl : List (Str × Addr)} {outer : List Env} {base h₀ : Heap} {L : Addr} {m : Str → Option Value} {s : Shared} {R : Result → Shared → Prop} {news : List (Addr × Obj)} {nf1 : Obj → List (Addr × Obj)} {nf2 : Obj → Obj → List (Addr × Obj)}
theorem row33 : True := by ((k_with "call ref" => ((k_here; (k_dflt show wpAny _ _ (call (Value.ref 848) [Value.ref _]) _ _ _); k_dflt (refine wpAny_call ?_; refine' get_token_w ?r1 ?r2 ?r3 ?r4 ?r5 ?r6 ?r7 ?r8 ?p1 ?p2 ?p3 ?p4 ?r9 ?r10 ?n1 ?n2 ?n3 ?n4 ?n5 ?n6 ?n7 ?n8 ?n9 ?n10 ?r11 ?r12 ?r13 ?r14 ?r15 ?r16 ?_; (case r1 => k_asm); (case r2 => k_asm); (case r3 => k_asm); (case r4 => k_asm); (case r5 => k_asm); (case r6 => exact rfl); (case r7 => k_mem); (case r9 => k_updF); (case r8 => k_mem); (case r10 => intro _; k_updF); (case p1 => k_mem); (case p2 => k_mem); (case p3 => assumption); (case p4 => assumption); (case n1 => assumption); (case n2 => assumption); (case n3 => assumption); (case n4 => assumption); (case n5 => assumption); (case n6 => assumption); (case n7 => assumption); (case n8 => assumption); (case n9 => assumption); (case n10 => assumption); (case r11 => assumption); (case r12 => assumption); (case r13 => assumption); (case r14 => assumption); (case r15 => ktr_room); (case r16 => ktr_units); k_whole); intro zkh' zktk' zkts' zktt' zktr zkpos' zktp' zkF' zkN' zkhp' zkhc'; (try dsimp only at zkN'); (try k_sweep)))); trivial)
theorem next_w {x dx y dy pb fs : Addr} {tk tv : Nat → Tok} {tb t1 t2 t3 ts tt tp : Tok} {buf : Str} {nl : Value} {pos : Int} {cl0 : List Nat} {r : Str} {f : Option (List Nat)} {v1 v2 : Array Value}
    (B : Below A₀ base outer h₀) (F : Fr h₀ L s.heap m) (X : (KF w.params).In h₀) (N : News h₀ L s.heap news) (T : Top p loose mean mg mb h₀) (hke : cs.kind = .function)
    (hx : (x, instObj 887 dx) ∈ news) (hy : (y, instObj 752 dy) ∈ news) (hpb : (pb, dqO v1) ∈ news) (hfs : (fs, dqO v2) ∈ news) (hv1 : v1.size = 2) (hv2 : v2.size = 2)
    (U1 : UpdF dx (lexD w.params tk tv y pb fs (.str (Str.ofString " ") ts) (.str (Str.ofString "") tt)) news nf1) (U2 : ∀ o, UpdF dy (ioD w.params nl (.str buf tb) (.int pos tp) t1 t2 t3) (nf1 o) (nf2 o))
    (n1 : @Ne Nat x dx) (n2 : @Ne Nat x y) (n3 : @Ne Nat x dy) (n4 : @Ne Nat dx y) (n5 : @Ne Nat dx dy) (n6 : @Ne Nat y dy) (n7 : @Ne Nat pb dx) (n8 : @Ne Nat pb dy) (n9 : @Ne Nat fs dx) (n10 : @Ne Nat fs dy)
    (hrun : Run .sp (Str.ofString "") false cl0 r f) (hpos : 0 ≤ pos) (hcs : buf.cps.toList.drop pos.toNat = cl0) (hlen : buf.length < 1000) (hd : dp + 14 < recursionLimit) (hu : un + 90 < cLine)
    (hret : ∀ h' tk' ts' tt' tr pos' tp', Fr h₀ L h' m → News h₀ L h' (nf2 (lexD w.params tk tv y pb fs (endV ts' f) (.str (Str.ofString "") tt')) (ioD w.params nl (.str buf tb) (.int pos' tp') t1 t2 t3)) → 0 ≤ pos' → buf.cps.toList.drop pos'.toNat = f.getD [] →
      R (.ok (.ret (.str r tr))) { s with heap := h', toks := tk' }) :
    codeAny (model P0 w) (ktrTop dp un gd cn cs L ca ccd cl outer) (.call (.ref 884) ⟨[.ref x], []⟩) R s := by
  w_on
  have sub : ∀ q ∈ gtL w.params x dx y dy pb fs (lexD w.params tk tv y pb fs (.str (Str.ofString " ") ts) (.str (Str.ofString "") tt)) (ioD w.params nl (.str buf tb) (.int pos tp) t1 t2 t3) v1 v2, q ∈ news := fun q hq => by
    simp only [gtL, List.mem_cons, List.not_mem_nil, or_false] at hq
    have h2 := UpdF.old (U2 (lexD w.params tk tv y pb fs (.str (Str.ofString " ") ts) (.str (Str.ofString "") tt)))
    rw [(UpdF.old U1).2] at h2
    rcases hq with rfl | rfl | rfl | rfl | rfl | rfl
    · exact hx
    · exact (UpdF.old U1).1
    · exact hy
    · exact h2.1
    · exact hpb
    · exact hfs
  have Nm : News h₀ L s.heap (gtL w.params x dx y dy pb fs (lexD w.params tk tv y pb fs (.str (Str.ofString " ") ts) (.str (Str.ofString "") tt)) (ioD w.params nl (.str buf tb) (.int pos tp) t1 t2 t3) v1 v2) := fun q hq => N q (sub q hq)
  dsimp only [gtL] at Nm
  have fin : ∀ h' tk' ts' tt' tr pos' tp', Fr h₀ L h' m → News h₀ L h' (gtL w.params x dx y dy pb fs (lexD w.params tk tv y pb fs (endV ts' f) (.str (Str.ofString "") tt')) (ioD w.params nl (.str buf tb) (.int pos' tp') t1 t2 t3) v1 v2) → 0 ≤ pos' → buf.cps.toList.drop pos'.toNat = f.getD [] →
      (∀ b o, s.heap.get? b = some o → (∀ q ∈ gtL w.params x dx y dy pb fs (lexD w.params tk tv y pb fs (.str (Str.ofString " ") ts) (.str (Str.ofString "") tt)) (ioD w.params nl (.str buf tb) (.int pos tp) t1 t2 t3) v1 v2, q.1 ≠ b) → h'.get? b = some o) → R (.ok (.ret (.str r tr))) { s with heap := h', toks := tk' } := by
    intro h' tk' ts' tt' tr pos' tp' kF kN hp' hc' kk
    refine hret h' tk' ts' tt' tr pos' tp' kF (News.updF2 N U1 (U2 _) n5 (kN _ (.tail _ (.head _))).1 (kN _ (.tail _ (.tail _ (.tail _ (.head _))))).1 (kept_of N sub kN ?_ kk)) hp' hc'
    intro q hq h1 h2
    simp only [gtL, List.mem_cons, List.not_mem_nil, or_false] at hq ⊢
    rcases hq with rfl | rfl | rfl | rfl | rfl | rfl
    · exact .inl rfl
    · exact absurd rfl h1
    · exact .inr (.inr (.inl rfl))
    · exact absurd rfl h2
    · exact .inr (.inr (.inr (.inr (.inl rfl))))
    · exact .inr (.inr (.inr (.inr (.inr rfl))))
  walk_at "MINE enter"
  k_steps
  all_goals (refine' fin _ _ _ _ _ _ _ ?e1 ?e2 ?e3 ?e4 ?e5; (case e1 => assumption); (case e2 => first | assumption | (refine cb_drop (by assumption) ?_; kcj_all)); (case e3 => assumption); (case e4 => assumption); (case e5 => exact keep_thru (by assumption) (by assumption)))
end

end
section -- LexH
theorem row34 : True := by (k_with_none; trivial)
theorem row35 : True := by ((k_with "ite" => ((k_dflt (first | (refine W.ite_neg (nf_of (by with_reducible assumption)) ?_) | (refine W.ite_pos (by with_reducible assumption) ?_))))); trivial)
theorem row36 : True := by ((k_with "ite" => ((k_closed; k_dflt (first | refine W.ite_pos (by decide +kernel) ?_ | refine W.ite_neg (by decide +kernel) ?_)))); trivial)
theorem row37 : True := by ((k_with "MINE enter" => ((k_dflt (refine' enterM ?k1 ?k2 ?k3 ?k4 ?k5 ?kA ?kF ?kK ?k6 ?k7 ?k8 ?k9 ?kB ?_ ?c2 ?c3 ?c4 ?c5; (case kA => first | assumption | exact rfl); (case kF => first | assumption | exact rfl); (case kK => first | assumption | exact rfl); (case k1 => k_asm); (case k2 => k_asm); (case k3 => k_asm); (case k4 => k_asm); (case k5 => k_asm); (case k6 => k_is); (case k7 => k_is); (case k8 => ktr_room); (case k9 => first | exact BindsTo.of_eq rfl | exact binds_K (by k_in) rfl (by k_is) rfl rfl rfl | fail "k_enter: no rule for these arguments"); (case c5 => decide); (case kB => exact locs rfl); (case c2 => exact rfl); (case c3 => exact rfl); (case c4 => exact rfl); k_whole; intro zkg' zkL' zkh' zkgk' zkFG' zkF' zkN' zkB' zkX' zkT' zkl1; (try k_lt zkl1); (try dsimp only); (try k_lift zkB'); (try k_fold))))); trivial)
theorem fill_lh : (PySem.Challenge.rw_of0118_01.name = PySem.Challenge.rw_of0118_01.name) → (∀ P, KF P = KF P) := by
  k_fill
  intro _ _; rfl
theorem row38 : True := by ((k_with "leaving ref" => ((k_here; (refine' leave_raiseS ?k1 ?k0 ?k2 ?k3 ?_; (case k0 => first | assumption | exact Heap.MadeExc.of (by assumption)); (case k2 => assumption); (case k1 => assumption); (case k3 => k_asm); k_whole; intro zkh' zkt' zkS' zkR' zkU'; (try dsimp only at zkS' zkR' zkU' ⊢))))); trivial)
section
variable {M : Model} {A A₀ : Around} {E : Value → Shared → Prop} {s : Shared} {h₀ base G : Heap} {L : Addr} {m : Str → Option Value}
theorem owit_stopS {Q : Option Value → Shared → Prop} {outer : List Env} {env : Env} {e t : Addr} {vs : List Value} {news : List (Addr × Obj)} (hf : env.frame = some L)
    (R : RaisedS base G (env :: outer) e (.type "StopIteration") t vs news s.heap) (hsm : G.UpToSlots s.heap) (F : Fr h₀ L G m) (K : Below A₀ base outer h₀)
    (k : ∀ h₀', KtsTurn (outer.filterMap (·.frame)) h₀ h₀' → Fr h₀' L s.heap m → Below A₀ base outer h₀' → (∀ q ∈ news, s.heap.get? q.1 = some q.2) → (∀ b o, G.get? b = some o → b ≠ L → b ∉ outer.filterMap (·.frame) → s.heap.get? b = some o) → Q none s) : OwitStop M A Q E (.ref e) s := by
  obtain ⟨⟨B, hB, hBG, hl, hfl, hnew⟩, htup⟩ := R
  obtain ⟨ob, hob, hobc⟩ := hfl.there
  have hT : s.TypeIs (.ref e) "StopIteration" := (show ∃ o, s.heap.get? e = some o ∧ o.cls = .type "StopIteration" from ⟨ob, hob, hobc⟩)
  have hmem : ∀ b, b ∈ (env :: outer).filterMap (·.frame) → b = L ∨ b ∈ outer.filterMap (·.frame) := fun b hb => by
    rw [List.filterMap_cons_some hf] at hb
    rcases List.mem_cons.mp hb with z | z
    · exact .inl z
    · exact .inr z
  obtain ⟨g', T', F', K'⟩ := kts_ground (name := default) (scope := default) (a := 0) (cd := .none) K F (B := B) (fun b o e' hm => hBG b o e' (fun q => hm (by
    rcases hmem b q with z | z
    · rw [z]; exact List.Mem.head _
    · exact List.Mem.tail _ z))) hfl.1 hsm
  unfold OwitStop
  refine wpAny_isInstance hT (by rfl) ?_
  show (if true = true then Q none s else E (.ref e) s)
  rw [if_pos rfl]
  exact k g' T' F' K' (fun q hq => hfl.1 _ _ (hl q hq).1) (fun b o e' n1 n2 => hfl.1 _ _ (hBG b o e' (fun q => (hmem b q).elim n1 n2)))
end
section
variable {w : World} {p : Program} {loose : List Str} {mean : ExcName → Option Value} {mg mb : Str → Option Value} {A₀ : Around} {dp un : Nat} {gd : Option (List Code)} {cn : Str} {cs : Scope} {ca : Addr} {ccd : Value} {cl : List (Str × Addr)} {outer : List Env} {base h₀ : Heap} {L : Addr} {m : Str → Option Value} {s : Shared} {R : Result → Shared → Prop} {news : List (Addr × Obj)} {nf1 : Obj → List (Addr × Obj)} {nf2 : Obj → Obj → List (Addr × Obj)}
theorem row39 : True := by ((k_with "call ref" => ((k_here; (k_dflt show wpAny _ _ (call (Value.ref 848) [Value.ref _]) _ _ _); k_dflt (refine wpAny_call ?_; refine' get_token_n ?r1 ?r2 ?r3 ?r4 ?r5 ?r6 ?r7 ?r8 ?r9 ?p1 ?p2 ?p3 ?p4 ?r10 ?n1 ?n2 ?n3 ?n4 ?n5 ?n6 ?n7 ?n8 ?n9 ?n10 ?r12 ?r13 ?r14 ?r15 ?r16 ?_; (case r1 => k_asm); (case r2 => k_asm); (case r3 => k_asm); (case r4 => k_asm); (case r5 => k_asm); (case r6 => exact rfl); (case r7 => k_mem); (case r10 => k_updF); (case r8 => k_mem); (case r9 => k_mem); (case p1 => k_mem); (case p2 => k_mem); (case p3 => assumption); (case p4 => assumption); (case n1 => assumption); (case n2 => assumption); (case n3 => assumption); (case n4 => assumption); (case n5 => assumption); (case n6 => assumption); (case n7 => assumption); (case n8 => assumption); (case n9 => assumption); (case n10 => assumption); (case r12 => assumption); (case r13 => assumption); (case r14 => assumption); (case r15 => ktr_room); (case r16 => ktr_units); k_whole); intro zkh' zktk' zktt' zkF' zkN'; (try dsimp only at zkN'); (try k_sweep)))); trivial)
theorem gk_thru {mtl : List (Addr × Obj)} {g h : Heap} {b : Addr} {o : Obj} (e : h.get? b = some o) (n : ∀ p ∈ mtl, p.1 ≠ b) (gk : ∀ b o, h.get? b = some o → (∀ p ∈ mtl, p.1 ≠ b) → g.get? b = some o) : g.get? b = some o := gk b o e n
theorem News.turn {h₀ h₀' h : Heap} {L : Addr} {fs : List Addr} {news : List (Addr × Obj)} (T : KtsTurn fs h₀ h₀') (N : News h₀ L h news) : News h₀' L h news := fun q hq => ⟨(N q hq).1, (N q hq).2.1, T.none_ _ (N q hq).2.2⟩
theorem next_n {Q : Option Value → Shared → Prop} {E : Value → Shared → Prop} {x dx y dy pb fs : Addr} {tk tv : Nat → Tok} {tb t1 t2 t3 tt tp : Tok} {tok buf : Str} {nl : Value} {pos : Int} {v1 v2 : Array Value}
    (B : Below A₀ base outer h₀) (F : Fr h₀ L s.heap m) (X : (KF w.params).In h₀) (N : News h₀ L s.heap news) (T : Top p loose mean mg mb h₀) (hke : cs.kind = .function)
    (hx : (x, instObj 887 dx) ∈ news) (hy : (y, instObj 752 dy) ∈ news) (hdy : (dy, ioD w.params nl (.str buf tb) (.int pos tp) t1 t2 t3) ∈ news) (hpb : (pb, dqO v1) ∈ news) (hfs : (fs, dqO v2) ∈ news) (hv1 : v1.size = 2) (hv2 : v2.size = 2)
    (U1 : UpdF dx (lexD w.params tk tv y pb fs .none (.str tok tt)) news nf1)
    (n1 : @Ne Nat x dx) (n2 : @Ne Nat x y) (n3 : @Ne Nat x dy) (n4 : @Ne Nat dx y) (n5 : @Ne Nat dx dy) (n6 : @Ne Nat y dy) (n7 : @Ne Nat pb dx) (n8 : @Ne Nat pb dy) (n9 : @Ne Nat fs dx) (n10 : @Ne Nat fs dy)
    (hpos : 0 ≤ pos) (hlen : buf.length < 1000) (hend : (buf.length : Int) ≤ pos) (hd : dp + 14 < recursionLimit) (hu : un + 90 < cLine)
    (hret : ∀ h₀' h' tk' tt', KtsTurn (outer.filterMap (·.frame)) h₀ h₀' → Fr h₀' L h' m → Below A₀ base outer h₀' → News h₀' L h' (nf1 (lexD w.params tk tv y pb fs .none (.str (Str.ofString "") tt'))) → Q none { s with heap := h', toks := tk' }) :
    wpAny (model P0 w) (ktrTop dp un gd cn cs L ca ccd cl outer) (pyNext (.ref x)) Q E s := by
  w_on
  have sub : ∀ q ∈ gtL w.params x dx y dy pb fs (lexD w.params tk tv y pb fs .none (.str tok tt)) (ioD w.params nl (.str buf tb) (.int pos tp) t1 t2 t3) v1 v2, q ∈ news := fun q hq => by
    simp only [gtL, List.mem_cons, List.not_mem_nil, or_false] at hq
    rcases hq with rfl | rfl | rfl | rfl | rfl | rfl
    · exact hx
    · exact (UpdF.old U1).1
    · exact hy
    · exact hdy
    · exact hpb
    · exact hfs
  have Nm : News h₀ L s.heap (gtL w.params x dx y dy pb fs (lexD w.params tk tv y pb fs .none (.str tok tt)) (ioD w.params nl (.str buf tb) (.int pos tp) t1 t2 t3) v1 v2) := fun q hq => N q (sub q hq)
  dsimp only [gtL] at Nm
  have fin : ∀ h' tk' tt' h₀', KtsTurn (outer.filterMap (·.frame)) h₀ h₀' → Fr h₀' L h' m → Below A₀ base outer h₀' → (∀ q ∈ (gtL w.params x dx y dy pb fs (lexD w.params tk tv y pb fs .none (.str (Str.ofString "") tt')) (ioD w.params nl (.str buf tb) (.int pos tp) t1 t2 t3) v1 v2), h'.get? q.1 = some q.2) →
      (∀ b o, s.heap.get? b = some o → (∀ q ∈ gtL w.params x dx y dy pb fs (lexD w.params tk tv y pb fs .none (.str tok tt)) (ioD w.params nl (.str buf tb) (.int pos tp) t1 t2 t3) v1 v2, q.1 ≠ b) → b ≠ L → b ∉ outer.filterMap (·.frame) → h'.get? b = some o) → Q none { s with heap := h', toks := tk' } := by
    intro h' tk' tt' h₀' hT kF kB kN kk
    refine hret h₀' h' tk' tt' hT kF kB (News.turn hT (News.updF N U1 (kN _ (.tail _ (.head _))) fun q hq h1 => ?_))
    by_cases hx : ∃ r ∈ gtL w.params x dx y dy pb fs (lexD w.params tk tv y pb fs .none (.str tok tt)) (ioD w.params nl (.str buf tb) (.int pos tp) t1 t2 t3) v1 v2, r.1 = q.1
    · obtain ⟨r, hr, e⟩ := hx
      have z := (N _ (sub r hr)).1
      rw [e, (N _ hq).1] at z
      rw [← e, Option.some.inj z]
      refine kN r ?_
      have h2 : r.1 ≠ dx := fun q' => h1 (e ▸ q')
      simp only [gtL, List.mem_cons, List.not_mem_nil, or_false] at hr ⊢
      rcases hr with rfl | rfl | rfl | rfl | rfl | rfl
      · exact .inl rfl
      · exact absurd rfl h2
      · exact .inr (.inr (.inl rfl))
      · exact .inr (.inr (.inr (.inl rfl)))
      · exact .inr (.inr (.inr (.inr (.inl rfl))))
      · exact .inr (.inr (.inr (.inr (.inr rfl))))
    · exact kk _ _ (N _ hq).1 (fun r hr e => hx ⟨r, hr, e⟩) (N _ hq).2.1 (fun hm => by
        obtain ⟨_, o, ho, _⟩ := B.frames.mem hm
        rw [(N _ hq).2.2] at ho; cases ho)
  refine' owit_next F X ?I (f := 884) (C := 887) ?i1 ?i2 (wpAny_call ?_)
  case I => exact InstAt.of_news Nm (by k_mem) (by k_mem)
  case i1 => k_is
  case i2 => k_is
  walk_at "MINE enter"
  k_steps
  refine' owit_stopS ?q1 ?q2 ?q3 ?q4 B ?_
  case q2 => assumption
  case q1 => exact rfl
  case q3 => assumption
  case q4 => assumption
  intro h₀' hT kF kB kN kk
  exact fin _ _ _ h₀' hT kF kB kN (fun b o e n1 n2 n3 => kk b o (gk_thru e n1 (by assumption)) n2 n3)
end

end
section -- LexI
theorem row40 : True := by (k_with_none; trivial)
theorem row41 : True := by ((k_with "MINE enter" => ((k_dflt (refine' enterM ?k1 ?k2 ?k3 ?k4 ?k5 ?kA ?kF ?kK ?k6 ?k7 ?k8 ?k9 ?kB ?_ ?c2 ?c3 ?c4 ?c5; (case kA => first | assumption | exact rfl); (case kF => first | assumption | exact rfl); (case kK => first | assumption | exact rfl); (case k1 => k_asm); (case k2 => k_asm); (case k3 => k_asm); (case k4 => k_asm); (case k5 => k_asm); (case k6 => k_is); (case k7 => k_is); (case k8 => ktr_room); (case k9 => first | exact BindsTo.of_eq rfl | exact binds_K (by k_in) rfl (by k_is) rfl rfl rfl | fail "k_enter: no rule for these arguments"); (case c5 => decide); (case kB => exact locs rfl); (case c2 => exact rfl); (case c3 => exact rfl); (case c4 => exact rfl); k_whole; intro zkg' zkL' zkh' zkgk' zkFG' zkF' zkN' zkB' zkX' zkT' zkl1; (try k_lt zkl1); (try dsimp only); (try k_lift zkB'); (try k_fold))))); trivial)
theorem fill_li : (PySem.Challenge.rw_of0118_01.name = PySem.Challenge.rw_of0118_01.name) → (∀ P, KF P = KF P) := by
  k_fill
  intro _ _; rfl
/-- the words of a line -/
inductive Words : List Nat → List Str → Prop
  | last {cl r} : Run .sp (Str.ofString "") false cl r none → Words cl [r]
  | more {cl r rest ws} : Run .sp (Str.ofString "") false cl r (some rest) → Words rest ws → Words cl (r :: ws)
inductive StrsOf : List Str → List Value → Prop
  | nil : StrsOf [] []
  | cons {w v ws vs} : (∃ t, v = Value.str w t) → StrsOf ws vs → StrsOf (w :: ws) (v :: vs)
noncomputable abbrev lxL (P : Params) (S x dx y dy pb fs : Addr) (lst lo io : Obj) (v1 v2 : Array Value) : List (Addr × Obj) := (S, lst) :: gtL P x dx y dy pb fs lo io v1 v2
section
variable {w : World} {p : Program} {loose : List Str} {mean : ExcName → Option Value} {mg mb : Str → Option Value} {A₀ : Around} {dp un : Nat} {gd : Option (List Code)} {cn : Str} {cs : Scope} {ca : Addr} {ccd : Value} {cl : List (Str × Addr)} {outer : List Env} {base h₀ : Heap} {L : Addr} {m : Str → Option Value} {R : Result → Shared → Prop}
theorem lex_loop {S x dx y dy pb fs : Addr} {tk tv : Nat → Tok} {tb t1 t2 t3 : Tok} {buf : Str} {nl : Value} {v1 v2 : Array Value}
    (B : Below A₀ base outer h₀) (X : (KF w.params).In h₀) (T : Top p loose mean mg mb h₀) (hke : cs.kind = .function) (hv1 : v1.size = 2) (hv2 : v2.size = 2)
    (n1 : @Ne Nat x dx) (n2 : @Ne Nat x y) (n3 : @Ne Nat x dy) (n4 : @Ne Nat dx y) (n5 : @Ne Nat dx dy) (n6 : @Ne Nat y dy) (n7 : @Ne Nat pb dx) (n8 : @Ne Nat pb dy) (n9 : @Ne Nat fs dx) (n10 : @Ne Nat fs dy)
    (m1 : @Ne Nat x S) (m2 : @Ne Nat dx S) (m3 : @Ne Nat y S) (m4 : @Ne Nat dy S) (m5 : @Ne Nat pb S) (m6 : @Ne Nat fs S)
    (hlen : buf.length < 1000) (hd : dp + 14 < recursionLimit) (hu : un + 91 < cLine) :
    ∀ {cl0 : List Nat} {ws : List Str}, Words cl0 ws → ∀ (s : Shared) (acc : Array Value) (c : Nat) (ts tt tp : Tok) (pos : Int),
    Fr h₀ L s.heap m → News h₀ L s.heap (lxL w.params S x dx y dy pb fs (listOf acc c) (lexD w.params tk tv y pb fs (.str (Str.ofString " ") ts) (.str (Str.ofString "") tt)) (ioD w.params nl (.str buf tb) (.int pos tp) t1 t2 t3) v1 v2) →
    0 ≤ pos → buf.cps.toList.drop pos.toNat = cl0 → acc.size + ws.length ≤ 1000 →
    (∀ h₀' h' tk' vs c', KtsTurn (outer.filterMap (·.frame)) h₀ h₀' → Fr h₀' L h' m → Below A₀ base outer h₀' → News h₀' L h' [(S, listOf (acc ++ vs.toArray) c')] → StrsOf ws vs → R (.ok (.ret .none)) { s with heap := h', toks := tk' }) →
    codeAny (model P0 w) (ktrTop dp un gd cn cs L ca ccd cl outer) (.builtin "list.extend.loop" ⟨[.ref S, .ref x, .none], []⟩) R s := by
  have stp : ∀ (s : Shared) (acc : Array Value) (c : Nat) (lo io : Obj) (v : Value), Fr h₀ L s.heap m → News h₀ L s.heap (lxL w.params S x dx y dy pb fs (listOf acc c) lo io v1 v2) →
      ∃ c', Fr h₀ L (s.heap.update S (Obj.mapSeq (·.push v))) m ∧ News h₀ L (s.heap.update S (Obj.mapSeq (·.push v))) (lxL w.params S x dx y dy pb fs (listOf (acc.push v) c') lo io v1 v2) := by
    intro s acc c lo io v F N
    have hS := (N _ (.head _)).1
    have hS' := Heap.get?_update_self (Obj.mapSeq (·.push v)) hS rfl
    have sb : Heap.SameBut S s.heap (s.heap.update S (Obj.mapSeq (·.push v))) := Heap.SameBut.update ..
    refine ⟨_, Fr.change F sb (N _ (.head _)).2.1 (N _ (.head _)).2.2, News.setHead N ?_ sb hS'⟩
    intro q hq
    simp only [gtL, List.mem_cons, List.not_mem_nil, or_false] at hq
    rcases hq with rfl | rfl | rfl | rfl | rfl | rfl <;> assumption
  intro cl0 ws hw
  induction hw with
  | @last cl0 r hrun =>
    intro s acc c ts tt tp pos F N hpos hcs hsz hR
    refine codeAny_builtin PySem.F.entry_extend_loop ?_
    rw [Around.under_plainId PySem.F.plain_extend_loop _]
    show wpAny _ _ (pyNext (.ref x) >>= _) _ _ s
    refine wpAny_bind ?_
    refine' owit_next F X ?I (f := 884) (C := 887) ?i1 ?i2 (wpAny_call (next_w (un := un + 1) B F X N T hke ?hx ?hy ?hpb ?hfs hv1 hv2 ?U1 ?U2 n1 n2 n3 n4 n5 n6 n7 n8 n9 n10 hrun hpos hcs hlen hd (by omega) ?_))
    case I => exact InstAt.of_news N (by k_mem) (by k_mem)
    case i1 => k_is
    case i2 => k_is
    case hx => k_mem
    case hy => k_mem
    case hpb => k_mem
    case hfs => k_mem
    case U1 => k_updF
    case U2 => intro _; k_updF
    intro h' tk' ts' tt' tr pos' tp' F' N' hp' hc'
    show wpAny _ _ (updateSeq S (·.push (.str r tr)) >>= _) _ _ _
    refine wpAny_bind ?_
    have hS := (N' _ (.head _)).1
    obtain ⟨c', F2, N2⟩ := stp { s with heap := h', toks := tk' } acc c _ _ (.str r tr) F' N'
    refine wpAny_updateSeq hS rfl (wpAny_pure ⟨plainId_quiet PySem.F.plain_extend_loop _, ?_⟩) ?z1 ?z2
    case z1 => show acc.size ≤ sizeLine; simp only [List.length_cons, List.length_nil] at hsz; have : 1000 ≤ sizeLine := by decide
               omega
    case z2 => show (acc.push _).size ≤ sizeLine + 1; simp only [List.length_cons, List.length_nil] at hsz; rw [Array.size_push]; have : 1000 ≤ sizeLine := by decide
               omega
    refine codeAny_builtin PySem.F.entry_extend_loop ?_
    rw [Around.under_plainId PySem.F.plain_extend_loop _]
    show wpAny _ _ (pyNext (.ref x) >>= _) _ _ _
    refine wpAny_bind ?_
    refine' next_n (un := un + 1) B F2 X N2 T hke ?hx ?hy ?hdy ?hpb ?hfs hv1 hv2 ?U1 n1 n2 n3 n4 n5 n6 n7 n8 n9 n10 hp' hlen (drop_nil hp' hc') hd (by omega) ?_
    case hx => k_mem
    case hy => k_mem
    case hdy => k_mem
    case hpb => k_mem
    case hfs => k_mem
    case U1 => k_updF
    intro h₀' h'' tk'' tt'' hT F3 B3 N3
    refine wpAny_pure (hR h₀' h'' tk'' [.str r tr] c' hT F3 B3 (fun q hq => ?_) (.cons ⟨_, rfl⟩ .nil))
    rw [List.mem_singleton] at hq
    subst hq
    have := N3 _ (.head _)
    simpa using this
  | @more cl0 r rest ws hrun hws ih =>
    intro s acc c ts tt tp pos F N hpos hcs hsz hR
    refine codeAny_builtin PySem.F.entry_extend_loop ?_
    rw [Around.under_plainId PySem.F.plain_extend_loop _]
    show wpAny _ _ (pyNext (.ref x) >>= _) _ _ s
    refine wpAny_bind ?_
    refine' owit_next F X ?I (f := 884) (C := 887) ?i1 ?i2 (wpAny_call (next_w (un := un + 1) B F X N T hke ?hx ?hy ?hpb ?hfs hv1 hv2 ?U1 ?U2 n1 n2 n3 n4 n5 n6 n7 n8 n9 n10 hrun hpos hcs hlen hd (by omega) ?_))
    case I => exact InstAt.of_news N (by k_mem) (by k_mem)
    case i1 => k_is
    case i2 => k_is
    case hx => k_mem
    case hy => k_mem
    case hpb => k_mem
    case hfs => k_mem
    case U1 => k_updF
    case U2 => intro _; k_updF
    intro h' tk' ts' tt' tr pos' tp' F' N' hp' hc'
    show wpAny _ _ (updateSeq S (·.push (.str r tr)) >>= _) _ _ _
    refine wpAny_bind ?_
    have hS := (N' _ (.head _)).1
    obtain ⟨c', F2, N2⟩ := stp { s with heap := h', toks := tk' } acc c _ _ (.str r tr) F' N'
    refine wpAny_updateSeq hS rfl (wpAny_pure ⟨plainId_quiet PySem.F.plain_extend_loop _, ?_⟩) ?z1 ?z2
    case z1 => show acc.size ≤ sizeLine; have : 1000 ≤ sizeLine := by decide
               omega
    case z2 => show (acc.push _).size ≤ sizeLine + 1; rw [Array.size_push]; have : 1000 ≤ sizeLine := by decide
               omega
    refine ih _ (acc.push (.str r tr)) c' _ _ _ pos' F2 N2 hp' hc' (by simp only [List.length_cons] at hsz; rw [Array.size_push]; omega) ?_
    intro h₀' h'' tk'' vs c'' hT F3 B3 N3 hs
    refine hR h₀' h'' tk'' (.str r tr :: vs) c'' hT F3 B3 (fun q hq => ?_) (.cons ⟨_, rfl⟩ hs)
    rw [List.mem_singleton] at hq
    subst hq
    have := N3 _ (.head _)
    have e : acc ++ (Value.str r tr :: vs).toArray = acc.push (Value.str r tr) ++ vs.toArray := by
      apply Array.toList_inj.mp; simp
    rw [e]
    exact this
theorem iter_c {x : Addr} {s : Shared}
    (B : Below A₀ base outer h₀) (F : Fr h₀ L s.heap m) (X : (KF w.params).In h₀) (T : Top p loose mean mg mb h₀) (hke : cs.kind = .function) (hd : dp + 5 < recursionLimit) (hu : un + 40 < cLine)
    (hret : ∀ h' tk', Fr h₀ L h' m → (∀ b o, s.heap.get? b = some o → h'.get? b = some o) → R (.ok (.ret (.ref x))) { s with heap := h', toks := tk' }) :
    codeAny (model P0 w) (ktrTop dp un gd cn cs L ca ccd cl outer) (.call (.ref 877) ⟨[.ref x], []⟩) R s := by
  w_on
  have Nm : News h₀ L s.heap [] := News.nil
  have fin : ∀ h' tk', Fr h₀ L h' m → (∀ b o, s.heap.get? b = some o → (∀ q ∈ ([] : List (Addr × Obj)), q.1 ≠ b) → h'.get? b = some o) → R (.ok (.ret (.ref x))) { s with heap := h', toks := tk' } := fun h' tk' kF kk => hret h' tk' kF (fun b o e => kk b o e (fun _ hq => nomatch hq))
  walk_at "MINE enter"
  k_steps
  refine' fin _ _ ?e1 ?e2
  case e1 => assumption
  case e2 => exact keep_thru (by assumption) (by assumption)
theorem list_lex {x dx y dy pb fs : Addr} {tk tv : Nat → Tok} {tb t1 t2 t3 ts tt tp : Tok} {buf : Str} {nl : Value} {v1 v2 : Array Value} {s : Shared} {news : List (Addr × Obj)} {ws : List Str} {Q : Value → Shared → Prop} {E : Value → Shared → Prop}
    (B : Below A₀ base outer h₀) (F : Fr h₀ L s.heap m) (X : (KF w.params).In h₀) (N : News h₀ L s.heap news) (T : Top p loose mean mg mb h₀) (hke : cs.kind = .function) 
    (hx : (x, instObj 887 dx) ∈ news) (hdx : (dx, lexD w.params tk tv y pb fs (.str (Str.ofString " ") ts) (.str (Str.ofString "") tt)) ∈ news) (hy : (y, instObj 752 dy) ∈ news) (hdy : (dy, ioD w.params nl (.str buf tb) (.int 0 tp) t1 t2 t3) ∈ news) (hpb : (pb, dqO v1) ∈ news) (hfs : (fs, dqO v2) ∈ news)
    (hv1 : v1.size = 2) (hv2 : v2.size = 2)
    (n1 : @Ne Nat x dx) (n2 : @Ne Nat x y) (n3 : @Ne Nat x dy) (n4 : @Ne Nat dx y) (n5 : @Ne Nat dx dy) (n6 : @Ne Nat y dy) (n7 : @Ne Nat pb dx) (n8 : @Ne Nat pb dy) (n9 : @Ne Nat fs dx) (n10 : @Ne Nat fs dy)
    (hlen : buf.length < 1000) (hd : dp + 14 < recursionLimit) (hu : un + 95 < cLine) (hw : Words buf.cps.toList ws) (hsz : ws.length ≤ 1000)
    (hret : ∀ h₀' h' tk' S vs c', KtsTurn (outer.filterMap (·.frame)) h₀ h₀' → Fr h₀' L h' m → Below A₀ base outer h₀' → News h₀' L h' [(S, listOf vs.toArray c')] → StrsOf ws vs → Q (.ref S) { s with heap := h', toks := tk' }) :
    wpAny (model P0 w) (ktrTop dp un gd cn cs L ca ccd cl outer) (call (.type "list") [.ref x]) Q E s := by
  have Nm : News h₀ L s.heap (gtL w.params x dx y dy pb fs (lexD w.params tk tv y pb fs (.str (Str.ofString " ") ts) (.str (Str.ofString "") tt)) (ioD w.params nl (.str buf tb) (.int 0 tp) t1 t2 t3) v1 v2) := fun q hq => by
    simp only [gtL, List.mem_cons, List.not_mem_nil, or_false] at hq
    rcases hq with rfl | rfl | rfl | rfl | rfl | rfl
    · exact N _ hx
    · exact N _ hdx
    · exact N _ hy
    · exact N _ hdy
    · exact N _ hpb
    · exact N _ hfs
  refine callType_codes (Q₁ := fun obj s₁ => obj = .ref s.heap.objs.size ∧ s₁ = { s with heap := s.heap.push { cls := .type "list", data := .seq #[] } }) PySem.F.called_list (PySem.F.typeCall_list_1 _) PySem.F.entry_list_init
    (code_list_new _ ⟨rfl, rfl⟩) fun obj s₁ h₁ => ?_
  obtain ⟨rfl, rfl⟩ := h₁
  have hS : (s.heap.push { cls := .type "list", data := .seq #[] }).get? s.heap.objs.size = some { cls := .type "list", data := .seq #[] } := Heap.get?_push_size _ rfl
  refine ⟨⟨_, hS, rfl⟩, PySem.F.args_list_init_2 _ _, ?_⟩
  have F1 := Fr.push F (listOf #[] 0)
  have N1 : News h₀ L (s.heap.push (listOf #[] 0)) (lxL w.params s.heap.objs.size x dx y dy pb fs (listOf #[] 0) (lexD w.params tk tv y pb fs (.str (Str.ofString " ") ts) (.str (Str.ofString "") tt)) (ioD w.params nl (.str buf tb) (.int 0 tp) t1 t2 t3) v1 v2) := News.push F Nm (listOf #[] 0)
  generalize hSe : s.heap.objs.size = S at *
  have lt : ∀ q ∈ gtL w.params x dx y dy pb fs (lexD w.params tk tv y pb fs (.str (Str.ofString " ") ts) (.str (Str.ofString "") tt)) (ioD w.params nl (.str buf tb) (.int 0 tp) t1 t2 t3) v1 v2, @Ne Nat q.1 S := fun q hq => hSe ▸ Nat.ne_of_lt (Heap.lt_size (Nm q hq).1)
  have m1 : @Ne Nat x S := lt _ (.head _)
  have m2 : @Ne Nat dx S := lt _ (.tail _ (.head _))
  have m3 : @Ne Nat y S := lt _ (.tail _ (.tail _ (.head _)))
  have m4 : @Ne Nat dy S := lt _ (.tail _ (.tail _ (.tail _ (.head _))))
  have m5 : @Ne Nat pb S := lt _ (.tail _ (.tail _ (.tail _ (.tail _ (.head _)))))
  have m6 : @Ne Nat fs S := lt _ (.tail _ (.tail _ (.tail _ (.tail _ (.tail _ (.head _))))))
  have upd : ∀ (h : Heap) (a a' : Array Value) (c : Nat) (f : Array Value → Array Value) , f a = a' → Fr h₀ L h m → News h₀ L h (lxL w.params S x dx y dy pb fs (listOf a c) (lexD w.params tk tv y pb fs (.str (Str.ofString " ") ts) (.str (Str.ofString "") tt)) (ioD w.params nl (.str buf tb) (.int 0 tp) t1 t2 t3) v1 v2) →
      ∃ c', Fr h₀ L (h.update S (Obj.mapSeq f)) m ∧ News h₀ L (h.update S (Obj.mapSeq f)) (lxL w.params S x dx y dy pb fs (listOf a' c') (lexD w.params tk tv y pb fs (.str (Str.ofString " ") ts) (.str (Str.ofString "") tt)) (ioD w.params nl (.str buf tb) (.int 0 tp) t1 t2 t3) v1 v2) := by
    intro h a a' c f e F N
    subst e
    have hS := (N _ (.head _)).1
    have hS' := Heap.get?_update_self (Obj.mapSeq f) hS rfl
    have sb : Heap.SameBut S h (h.update S (Obj.mapSeq f)) := Heap.SameBut.update ..
    refine ⟨_, Fr.change F sb (N _ (.head _)).2.1 (N _ (.head _)).2.2, News.setHead N ?_ sb hS'⟩
    intro q hq
    simp only [gtL, List.mem_cons, List.not_mem_nil, or_false] at hq
    rcases hq with rfl | rfl | rfl | rfl | rfl | rfl <;> assumption
  show wpAny _ _ (do let old ← Builtin.List.listItems (.ref S); Builtin.List.listUpdate (.ref S) (fun _ => #[]); letGo old.toList.reverse; Builtin.List.listExtendWith (.ref S) (.ref x) .none) _ _ _
  refine wpAny_bind ?_
  unfold Builtin.List.listItems
  refine wpAny_bind (wpAny_seqItems hS rfl (wpAny_pure ?_))
  show wpAny _ _ (updateSeq S (fun _ => #[]) >>= fun _ => letGo (#[] : Array Value).toList.reverse >>= fun _ => Builtin.List.listExtendWith (.ref S) (.ref x) .none) _ _ _
  refine wpAny_bind (wpAny_updateSeq hS rfl ?_)
  obtain ⟨c2, F2, N2⟩ := upd _ #[] #[] 0 (fun _ => #[]) rfl F1 N1
  generalize (s.heap.push (listOf #[] 0)).update S (Obj.mapSeq (fun _ => #[])) = h2 at *
  refine wpAny_bind (wpAny_letGo ?_)
  unfold Builtin.List.listExtendWith
  have I2 : InstAt h2 x (instObj 887 dx) 887 (some (lexD w.params tk tv y pb fs (.str (Str.ofString " ") ts) (.str (Str.ofString "") tt))) := InstAt.of_news N2 (by k_mem) (by k_mem)
  refine wpAny_bind (I2.type.here ?_)
  have h1 : Builtin.List.listSameRef (.ref S) (.ref x) = false := by simp [Builtin.List.listSameRef, Ne.symm m1]
  have h2' : (Value.ref 887 == Value.type "list") = false := by decide
  have h3 : (Value.ref 887 == Value.type "tuple") = false := by decide
  simp only [h1, h2', h3, Bool.or_false, Bool.false_eq_true, if_false]
  refine wpAny_bind ?_
  refine' owit_iter (K := KF w.params) (f := 877) F2 X I2 ?i1 ?i2 (wpAny_call (iter_c (dp := dp) (un := un + 2) (gd := gd) (cn := cn) (cs := cs) (L := L) (ca := ca) (ccd := ccd) (cl := cl) B F2 X T hke (by omega) (by omega) ?_))
  case i1 => k_is
  case i2 => k_is
  intro h3 tk3 F3 k3
  have N3 := News.stay N2 k3
  have I3 : InstAt h3 x (instObj 887 dx) 887 (some (lexD w.params tk tv y pb fs (.str (Str.ofString " ") ts) (.str (Str.ofString "") tt))) := InstAt.of_news N3 (by k_mem) (by k_mem)
  refine' owit_it (K := KF w.params) (g := .ref 884) F3 X I3 ?j1 ?_
  case j1 => k_is
  refine wpAny_bind (wpAny_holding ?_)
  unfold Builtin.List.listLengthHint
  have X3 := X.keeps F3.keep
  refine wpAny_bind (wpAny_bind (I3.type.here ((looks_findIn (K := KF w.params) X3 (r := none) ?l1).here ?_)))
  case l1 => k_is
  show wpAny _ _ (specialOf (Value.ref x) (Str.ofString "__length_hint__") >>= _) _ _ _
  refine wpAny_bind (wpAny_bind (I3.type.here ((looks_findIn (K := KF w.params) X3 (r := none) ?l2).here ?_)))
  case l2 => k_is
  refine wpAny_pure ?_
  show wpAny _ _ (rule "list.extend.makes-room" >>= fun _ => Builtin.List.listTouch (.ref S) >>= fun _ =>
    again (.builtin "list.extend.loop" ⟨[.ref S, .ref x, .none], []⟩)) _ _ _
  refine wpAny_bind (wpAny_rule ?_)
  refine wpAny_bind ?_
  show wpAny _ _ (updateSeq S (·.push .none) >>= fun _ => updateSeq S (·.pop)) _ _ _
  have hS3 := (N3 _ (.head _)).1
  refine wpAny_bind (wpAny_updateSeq hS3 rfl ?_)
  obtain ⟨c4, F4, N4⟩ := upd h3 #[] #[.none] c2 (·.push .none) rfl F3 N3
  generalize h3.update S (Obj.mapSeq (·.push .none)) = h4 at *
  refine wpAny_updateSeq (N4 _ (.head _)).1 rfl ?_
  obtain ⟨c5, F5, N5⟩ := upd h4 #[.none] #[] c4 (·.pop) rfl F4 N4
  generalize h4.update S (Obj.mapSeq (·.pop)) = h5 at *
  refine wpAny_pure ⟨plainId_quiet PySem.F.plain_extend_loop _, ?_⟩
  refine lex_loop (dp := dp) (un := un + 1) (gd := gd) (cn := cn) (cs := cs) (ca := ca) (ccd := ccd) (cl := cl) B X T hke hv1 hv2 n1 n2 n3 n4 n5 n6 n7 n8 n9 n10 m1 m2 m3 m4 m5 m6 hlen hd (by omega) hw _ #[] c5 ts tt tp 0 F5 N5 (Int.le_refl 0) rfl (by simpa using hsz) ?_
  intro h₀' h' tk' vs c' hT F' B' N' hs
  refine ⟨rfl, hret h₀' h' tk' S vs c' hT F' B' ?_ hs⟩
  simpa using N'
end

end
section -- DqNew
theorem dq_mro : mroOf (.type "collections.deque") = pure [.type "collections.deque", .type "object"] := by rw [mroOf_type]; kernel_rfl
theorem dq_lookup_new : typeLookup (.type "collections.deque") "__new__" = pure (some (.builtin "collections.deque.__new__")) := by rw [typeLookup_type, builtinLookup_eq_fast]; kernel_rfl
theorem dq_slot_init : Slot "collections.deque" "__init__" "collections.deque.__init__" :=
  .of (owner := "collections.deque") (n := "__init__") (by rw [typeLookup_type, builtinLookup_eq_fast]; kernel_rfl) (by decide +kernel) (by decide +kernel) (by decide +kernel)
    (by first | exact .inl (by decide +kernel) | exact .inr (by decide +kernel)) (by rw [isSubtype_type]; kernel_rfl)
theorem dq_entry_init : entryFor table "collections.deque.__init__" = some Builtin.«collections.deque.__init__» := entryFor_of_fast (by kernel_rfl)
theorem dq_entry_new : entryFor table "collections.deque.__new__" = some Builtin.«collections.deque.__new__» := entryFor_of_fast (by kernel_rfl)
theorem dq_plain_new : plainId "collections.deque.__new__" = true := by decide +kernel
theorem dq_args_init (a : Value) : argsOk "collections.deque.__init__" ⟨[a], []⟩ := by unfold argsOk; kernel_rfl
theorem dq_sub : isSubtype (.type "collections.deque") (.type "collections.deque") = pure true := by rw [isSubtype_type]; kernel_rfl
theorem dq_called : TypeCalled "collections.deque" "collections.deque.__new__" "collections.deque.__init__" :=
  ⟨by decide +kernel, by decide +kernel, ⟨_, _, dq_mro⟩, madeBy_type dq_mro dq_lookup_new (by decide +kernel), by decide +kernel, dq_sub, dq_slot_init⟩
theorem dq_typeCall : checkTypeCall "collections.deque" ⟨[], []⟩ = pure () := by kernel_rfl
theorem dq_newCall : checkBuiltinCall "collections.deque.__new__" ⟨[.type "collections.deque"], []⟩ = pure () := by kernel_rfl
theorem dq_isType : isType (.type "collections.deque") = pure true := by rfl
section
variable {prog : Program} {w : World} {A : Around} {E : Value → Shared → Prop} {s : Shared}
theorem code_dq_new {Q₁ : Value → Shared → Prop}
    (h : Q₁ (.ref s.heap.objs.size) { s with heap := s.heap.push { cls := .type "collections.deque", data := .fields #[.none, rawInt 0] } }) :
    codeAny (model prog w) A (.call (.builtin "collections.deque.__new__") ⟨[.type "collections.deque"], []⟩) (wants Q₁ E) s := by
  refine codeAny_of_tree ?_
  show wpAny _ A.in1 (do checkBuiltinCall "collections.deque.__new__" ⟨[.type "collections.deque"], []⟩; again (.builtin "collections.deque.__new__" ⟨[.type "collections.deque"], []⟩)) _ _ s
  refine wpAny_bind (wpAny_of_eq dq_newCall (wpAny_pure ⟨plainId_quiet dq_plain_new _, codeAny_builtin dq_entry_new ?_⟩))
  rw [Around.under_plainId dq_plain_new _]
  unfold Builtin.«collections.deque.__new__» Builtin.Deque.newArgs Builtin.Deque.new
  have hsub := dq_sub
  have hty := dq_isType
  refine wpAny_bind ?_
  show wpAny _ _ (isType (.type "collections.deque") >>= _) _ _ _
  refine wpAny_bind (wpAny_of_eq hty (wpAny_pure ?_))
  show wpAny _ _ (newObj (.type "collections.deque") (.fields #[.none, rawInt 0]) none >>= fun v => ret v) _ _ _
  refine wpAny_bind (wpAny_newObj_type (wpAny_pure h))
theorem dq_new {Q : Value → Shared → Prop}
    (hQ : ∀ h' vs, (∀ b o', s.heap.get? b = some o' → h'.get? b = some o') → h'.get? s.heap.objs.size = some { cls := .type "collections.deque", data := .fields vs } → vs.size = 2 → Q (.ref s.heap.objs.size) { s with heap := h' }) :
    wpAny (model prog w) A (call (.type "collections.deque") []) Q E s := by
  refine callType_codes (Q₁ := fun obj s₁ => obj = .ref s.heap.objs.size ∧ s₁ = { s with heap := s.heap.push { cls := .type "collections.deque", data := .fields #[.none, rawInt 0] } }) dq_called dq_typeCall dq_entry_init
    (code_dq_new ⟨rfl, rfl⟩) fun obj s₁ h₁ => ?_
  obtain ⟨rfl, rfl⟩ := h₁
  have hS : (s.heap.push { cls := .type "collections.deque", data := .fields #[.none, rawInt 0] }).get? s.heap.objs.size = some { cls := .type "collections.deque", data := .fields #[.none, rawInt 0] } := Heap.get?_push_size _ rfl
  refine ⟨⟨_, hS, rfl⟩, dq_args_init _, ?_⟩
  show wpAny _ _ (setField (.ref s.heap.objs.size) 0 .none >>= fun _ => Builtin.Deque.clear (.ref s.heap.objs.size) >>= fun _ => ret .none) _ _ _
  refine wpAny_bind (wpAny_setField_rec hS (by decide) fun h' hS' hb => ?_)
  refine wpAny_bind ?_
  show wpAny _ _ ((fieldsOf (.ref s.heap.objs.size) >>= fun vs => pure (vs.extract 2 vs.size)) >>= _) _ _ _
  refine wpAny_bind (wpAny_bind (wpAny_fieldsOf hS' rfl (wpAny_pure ?_)))
  refine wpAny_pure (wpAny_pure ⟨rfl, hQ h' _ (fun b o' e => ?_) hS' rfl⟩)
  have hne : b ≠ s.heap.objs.size := fun e' => Nat.lt_irrefl _ (e' ▸ Heap.lt_size e)
  exact (hb.2 b hne).trans (Heap.get?_push_of_some _ e)
end

end
section -- Sio
theorem fill_si : (PySem.Challenge.rw_of0118_01.name = PySem.Challenge.rw_of0118_01.name) → (∀ P, KF P = KF P) := by
  k_fill
  intro _ _; rfl
section
variable {w : World} {A : Around} {h₀ : Heap} {L : Addr} {m : Str → Option Value} {s : Shared} {news : List (Addr × Obj)} {R : Result → Shared → Prop}
theorem looksP {α : Type} {t : Sem α} {r : α} {h : Heap} (X : (KF w.params).In h) (e : ∀ P, peek (KF P) ⟨P0, P⟩ t = some r) : Looks (model P0 w) h t r := by
  have e' : peek (KF w.params) ⟨(model P0 w).prog, (model P0 w).w.params⟩ t = some r := e w.params
  exact Looks.of_peek X e'
theorem pk_base (P : Params) : peek (KF P) ⟨P0, P⟩ (Bind.staticBase (.ref 752)) = some (.type "object") := by kernel_rfl
theorem pk_made (P : Params) : peek (KF P) ⟨P0, P⟩ (Bind.madeBy (.type "object")) = some (some "object.__new__") := by kernel_rfl
theorem pk_none (P : Params) : peek (KF P) ⟨P0, P⟩ (Bind.madeBy (.ref 752)) = some none := by kernel_rfl
theorem pk_type (P : Params) : peek (KF P) ⟨P0, P⟩ (isType (.ref 752)) = some true := by kernel_rfl
theorem pk_sub (P : Params) : peek (KF P) ⟨P0, P⟩ (isSubtype (.ref 752) (.ref 752)) = some true := by kernel_rfl
theorem lk_chk (P : Params) : peek (KF P) ⟨P0, P⟩ (checkBuiltinCall "object.__new__" ⟨[.ref 752], []⟩) = some () := by kernel_rfl
theorem lk_here {h : Heap} (X : (KF w.params).In h) : Looks (model P0 w) h (Bind.madeHere "object.__new__" (.ref 752)) () :=
  (looksP X pk_base).andThen ((looksP X pk_made).andThen (Looks.of_pure (by simp only [Option.map_some, bne_self_eq_false, Bool.false_eq_true, if_false])))
theorem objnew752 (F : Fr h₀ L s.heap m) (N : News h₀ L s.heap news) (X : (KF w.params).In s.heap)
    (h : ∀ x dx h', Fr h₀ L h' m → News h₀ L h' ((x, instObj 752 dx) :: (dx, emptyDict) :: news) → (∀ p ∈ news, p.1 < dx) → dx < x → R (.ok (.ret (.ref x))) { s with heap := h' }) :
    codeAny (model P0 w) A (.call (.builtin "object.__new__") ⟨[.ref 752], []⟩) R s := by
  obtain ⟨hh, g, d, t, os⟩ := s
  have hC : hh.get? 752 = some (o752 w.params) := X _ _ (by k_is)
  have hq := h _ hh.objs.size _ ((F.push emptyDict).push (instObj 752 hh.objs.size)) (by
    have := (N.push F emptyDict).push (F.push _) (instObj 752 hh.objs.size)
    rwa [Heap.size_push] at this) (fun p hp => Heap.lt_size (N p hp).1) (Nat.lt_succ_self _)
  have here := lk_here X
  have ty := looksP X pk_type
  refine codeAny_of_tree ?_
  show wpAny _ A.in1 (do checkBuiltinCall "object.__new__" ⟨[.ref 752], []⟩; again (.builtin "object.__new__" ⟨[.ref 752], []⟩)) _ _ _
  refine wpAny_bind ((looksP X lk_chk).at (wpAny_pure ⟨Code.quiet_builtin _ (by decide +kernel), codeAny_builtin PySem.F.objNew.entry ?_⟩))
  unfold Builtin.«object.__new__»
  refine wpAny_bind (ty.at ?_)
  refine wpAny_bind (here.at ?_)
  have fin : ∀ A', wpAny (model P0 w) A' (do
      let d ← if typeHasDict (.ref 752) then some <$> alloc { cls := .type "dict", data := .dict #[] } else pure none
      ret (← newObj (.ref 752) .plain d)) (fun fin s' => match fin with | .done f => R (.ok f) s' | .again c' => c'.quiet = true ∧ codeAny (model P0 w) A c' R s') (fun e s' => R (.error e) s') ⟨hh, g, d, t, os⟩ := by
    intro A'
    show wpAny _ _ ((alloc emptyDict >>= fun x => pure (some x)) >>= _) _ _ _
    refine wpAny_bind (wpAny_bind (wpAny_alloc (wpAny_pure (wpAny_bind ?_))))
    show wpAny _ _ (newObjAsIs _ _ _) _ _ _
    unfold newObjAsIs classHasDel
    refine wpAny_bind (wpAny_alloc (wpAny_bind (wpAny_bind (wpAny_load (Heap.get?_push_of_some _ (Heap.get?_push_of_some _ hC)) (wpAny_pure ?_)))))
    refine wpAny_pure (wpAny_pure ?_)
    show R _ _
    rw [Heap.size_push]
    exact hq
  show wpAny _ _ (classData 752 >>= _) _ _ _
  refine wpAny_bind (wpAny_bind (wpAny_load hC (wpAny_pure ?_)))
  exact fin _
end

end
section -- RePat
/-- the letters of the law's words -/
noncomputable def alph : List Nat := [32, 34, 35, 39, 73, 83, 84, 88, 89, 90, 105, 115, 116, 120, 121, 122]
noncomputable def okT (t : Str) : Prop := ∀ c ∈ t.cps.toList, c ∈ alph
noncomputable def code54 : Array Nat := #[14, 10, 4, 1, 1, 22, 0, 31, 16, 127, 0, 13, 7, 22, 0, 31, 16, 127, 0, 1]
noncomputable def code59 : Array Nat := #[14, 14, 4, 1, 1, 9, 4294966783, 0, 0, 2147483648, 0, 0, 0, 0, 0, 13, 11, 9, 4294966783, 0, 0, 2147483648, 0, 0, 0, 0, 0, 1]
theorem in54 (seen : Sre.Seen) : ∀ c ∈ alph, ∃ seen', Sre.inSet code54 c code54.size 5 true seen = .ok (false, seen') := by
  intro c hc
  simp only [alph, List.mem_cons, List.not_mem_nil, or_false] at hc
  rcases hc with rfl | rfl | rfl | rfl | rfl | rfl | rfl | rfl | rfl | rfl | rfl | rfl | rfl | rfl | rfl | rfl <;> exact ⟨_, rfl⟩
theorem in59 (seen : Sre.Seen) : ∀ c ∈ alph, ∃ seen', Sre.inSet code59 c code59.size 5 true seen = .ok (false, seen') := by
  intro c hc
  simp only [alph, List.mem_cons, List.not_mem_nil, or_false] at hc
  rcases hc with rfl | rfl | rfl | rfl | rfl | rfl | rfl | rfl | rfl | rfl | rfl | rfl | rfl | rfl | rfl | rfl <;> exact ⟨_, rfl⟩
theorem adm_none {m : Sre.M} (H : ∀ seen, ∀ c ∈ alph, ∃ seen', Sre.inSet m.code c m.code.size 5 true seen = .ok (false, seen')) (hl : m.lim = m.text.size) (ht : ∀ c ∈ m.text.toList, c ∈ alph) :
    ∀ (fuel s : Nat) (seen : Sre.Seen), ∃ seen', Sre.M.admitted m fuel s seen = .ok (none, seen') := by
  intro fuel
  induction fuel with
  | zero => intro s seen; exact ⟨_, rfl⟩
  | succ n ih =>
    intro s seen
    unfold Sre.M.admitted
    by_cases h : s ≥ m.lim
    · rw [if_pos h]; exact ⟨_, rfl⟩
    · rw [if_neg h]
      have hs : s < m.text.size := by omega
      have hc : m.text.getD s 0 ∈ alph := by
        have : m.text.getD s 0 = m.text[s] := by simp [Array.getD, hs]
        rw [this]
        exact ht _ (by simp)
      obtain ⟨seen', e⟩ := H seen _ hc
      rw [e]
      exact ih (s + 1) seen'
theorem run_false {m : Sre.M} (h1 : m.outcome = none) (h2 : m.answer = some false) (h3 : m.frames = []) : m.runFor 4 = { m with outcome := some .failed } := by
  simp [Sre.M.runFor, Sre.M.step, h1, h2, h3]
theorem attempt_none {m : Sre.M} (H : ∀ seen, ∀ c ∈ alph, ∃ seen', Sre.inSet m.code c m.code.size 5 true seen = .ok (false, seen')) (hl : m.lim = m.text.size) (ht : ∀ c ∈ m.text.toList, c ∈ alph) (hf : m.hasFirstSet = true) (h1 : m.outcome = none) (h3 : m.frames = []) :
    (m.attemptFrom 0 true).outcome = none ∧ (m.attemptFrom 0 true).answer = some false ∧ (m.attemptFrom 0 true).frames = [] := by
  unfold Sre.M.attemptFrom
  rw [hf]
  obtain ⟨seen', e⟩ := adm_none H hl ht (m.lim + 1 - 0) 0 m.seen
  rw [e]
  exact ⟨h1, rfl, h3⟩
theorem search_none {code : Array Nat} {text : Str} (H : ∀ seen, ∀ c ∈ alph, ∃ seen', Sre.inSet code c code.size 5 true seen = .ok (false, seen')) (hf : (match Sre.ops[code.getD 0 0]? with | some .INFO => true | _ => false) = true) (h4 : code.getD 2 0 = 4) (ht : okT text) :
    (Sre.forSearch code text.cps 0 0 text.cps.size false).outcome = none ∧ (Sre.forSearch code text.cps 0 0 text.cps.size false).answer = some false ∧ (Sre.forSearch code text.cps 0 0 text.cps.size false).frames = [] := by
  unfold Sre.forSearch
  dsimp only
  split
  · exact ⟨rfl, rfl, rfl⟩
  · refine attempt_none H rfl ht ?_ rfl rfl
    show ((match Sre.ops[code.getD 0 0]? with | some .INFO => true | _ => false) && (code.getD 2 0 == 4)) = true
    rw [hf, h4]
    rfl
section
variable {M : Model} {A : Around} {E : Value → Shared → Prop} {s : Shared}
theorem run_none {m : Sre.M} {Q : Option Sre.M → Shared → Prop} (h1 : m.outcome = none) (h2 : m.answer = some false) (h3 : m.frames = []) (h : Q none s) : wpAny M A (Builtin.Re.reRunToEnd m) Q E s := by
  unfold Builtin.Re.reRunToEnd
  have e : Builtin.Re.reDrive (2 ^ 64) m = pure { m with outcome := some .failed } := by
    rw [show (2 : Nat) ^ 64 = 18446744073709551615 + 1 from rfl]
    unfold Builtin.Re.reDrive
    rw [show Builtin.Re.reTurnSteps = 4 from rfl, run_false h1 h2 h3]
    rfl
  refine wpAny_bind (wpAny_of_eq e ?_)
  refine wpAny_bind ?_
  have loop : ∀ (l : List Nat) (m' : Sre.M) (Q' : PUnit → Shared → Prop), Q' ⟨⟩ s → wpAny M A (forIn l PUnit.unit fun i r => (if m'.seen.has i = true then (rule (Sre.names.getD i "") >>= fun _ => pure (ForInStep.yield PUnit.unit)) else pure (ForInStep.yield PUnit.unit))) Q' E s := by
    intro l
    induction l with
    | nil => intro m' Q' hq; exact wpAny_pure hq
    | cons i l ih =>
      intro m' Q' hq
      rw [List.forIn_cons]
      refine wpAny_bind ?_
      split
      · exact wpAny_bind (wpAny_rule (wpAny_pure (ih m' Q' hq)))
      · exact wpAny_pure (ih m' Q' hq)
  refine loop _ _ _ ?_
  exact wpAny_pure h
end

end
section -- ReSearch
theorem re_pa : PlainAttrs "re.Pattern" :=
  ⟨⟨"object.__getattribute__", by rw [typeLookup_type, builtinLookup_eq_fast]; kernel_rfl, by decide +kernel⟩, by rw [typeLookup_type, builtinLookup_eq_fast]; kernel_rfl⟩
theorem re_slot : Slot "re.Pattern" "search" "re.Pattern.search" :=
  .of (owner := "re.Pattern") (n := "search") (by rw [typeLookup_type, builtinLookup_eq_fast]; kernel_rfl) (by decide +kernel) (by decide +kernel) (by decide +kernel)
    (by first | exact .inl (by decide +kernel) | exact .inr (by decide +kernel)) (by rw [isSubtype_type]; kernel_rfl)
theorem re_type : typeOf (.builtin "re.Pattern.search") = pure (.type "method_descriptor") := by show builtinType _ = _; rw [builtinType_eq_fast]; kernel_rfl
theorem re_entry : entryFor table "re.Pattern.search" = some Builtin.«re.Pattern.search» := entryFor_of_tree (by kernel_rfl)
theorem re_plain : plainId "re.Pattern.search" = true := by decide +kernel
theorem re_args (a b : Value) : argsOk "re.Pattern.search" ⟨[a, b], []⟩ := by unfold argsOk; kernel_rfl
theorem pk_t54 (v : Str) (t : Tok) (P : Params) : peek (KF P) ⟨P0, P⟩ (Builtin.Re.reTarget "re.Pattern.search" "search" ⟨[.ref 54, .str v t], []⟩) = some ⟨.ref 54, .str v t, code54, v.cps, 0, 0, 0, min 9223372036854775807 v.cps.size⟩ := by kernel_rfl
theorem pk_t59 (v : Str) (t : Tok) (P : Params) : peek (KF P) ⟨P0, P⟩ (Builtin.Re.reTarget "re.Pattern.search" "search" ⟨[.ref 59, .str v t], []⟩) = some ⟨.ref 59, .str v t, code59, v.cps, 0, 0, 0, min 9223372036854775807 v.cps.size⟩ := by kernel_rfl
section
variable {w : World} {A : Around} {E : Value → Shared → Prop} {s : Shared} {pl : Sem Bool}
theorem re_get {a : Addr} {o : Obj} {Q : Value × List Value → Shared → Prop} (ho : s.heap.get? a = some o) (hc : o.cls = .type "re.Pattern") (hd : o.dict = none) (h : Q (.builtin "re.Pattern.search", [.ref a]) s) :
    wpAny (model P0 w) A (getMethod (.ref a) "search" pl) Q E s :=
  getMethod_builtin (T := "re.Pattern") ⟨o, ho, hc⟩ re_pa re_slot re_type (fun b e => by cases e; exact ⟨o, ho, hd⟩) h
theorem re_none {a : Addr} {o : Obj} {code : Array Nat} {v : Str} {t : Tok} {Q : Value → Shared → Prop} (X : (KF w.params).In s.heap) (ho : s.heap.get? a = some o) (hc : o.cls = .type "re.Pattern")
    (hp : ∀ P, peek (KF P) ⟨P0, P⟩ (Builtin.Re.reTarget "re.Pattern.search" "search" ⟨[.ref a, .str v t], []⟩) = some ⟨.ref a, .str v t, code, v.cps, 0, 0, 0, min 9223372036854775807 v.cps.size⟩)
    (H : ∀ seen, ∀ c ∈ alph, ∃ seen', Sre.inSet code c code.size 5 true seen = .ok (false, seen')) (hf : (match Sre.ops[code.getD 0 0]? with | some .INFO => true | _ => false) = true) (h4 : code.getD 2 0 = 4) (ht : okT v) (hl : v.length < 1000)
    (h : Q .none s) : wpAny (model P0 w) A (call (.builtin "re.Pattern.search") [.ref a, .str v t]) Q E s := by
  have hT : s.TypeIs (.ref a) "re.Pattern" := ⟨o, ho, hc⟩
  have hm : min 9223372036854775807 v.cps.size = v.cps.size := by
    have : v.length = v.cps.size := rfl
    omega
  rw [hm] at hp
  refine wpAny_call_entry re_slot hT re_entry ?_ (re_args _ _)
  unfold Builtin.«re.Pattern.search»
  refine wpAny_bind ((looksP X hp).at ?_)
  unfold Builtin.Re.reAnswer
  obtain ⟨e1, e2, e3⟩ := search_none H hf h4 ht
  exact wpAny_bind (run_none e1 e2 e3 (wpAny_pure ⟨_, rfl, h⟩))
end

end
section -- HdA
theorem row42 : True := by (k_with_none; trivial)
theorem row43 : True := by ((k_with "MINE enter" => ((k_dflt (refine' enterM ?k1 ?k2 ?k3 ?k4 ?k5 ?kA ?kF ?kK ?k6 ?k7 ?k8 ?k9 ?kB ?_ ?c2 ?c3 ?c4 ?c5; (case kA => first | assumption | exact rfl); (case kF => first | assumption | exact rfl); (case kK => first | assumption | exact rfl); (case k1 => k_asm); (case k2 => k_asm); (case k3 => k_asm); (case k4 => k_asm); (case k5 => k_asm); (case k6 => k_is); (case k7 => k_is); (case k8 => ktr_room); (case k9 => first | exact BindsTo.of_eq rfl | exact binds_K (by k_in) rfl (by k_is) rfl rfl rfl | exact kp_binds (by k_in) (fun _ => rfl) | fail "k_enter: no rule for these arguments"); (case c5 => decide); (case kB => exact locs rfl); (case c2 => exact rfl); (case c3 => exact rfl); (case c4 => exact rfl); k_whole; intro zkg' zkL' zkh' zkgk' zkFG' zkF' zkN' zkB' zkX' zkT' zkl1; (try k_lt zkl1); (try dsimp only); (try k_lift zkB'); (try k_fold))))); trivial)
theorem fill_ha : (PySem.Challenge.rw_of0118_01.name = PySem.Challenge.rw_of0118_01.name) → (∀ P, KF P = KF P) := by
  k_fill
  intro _ _; rfl
theorem row44 : True := by ((k_with "getMethod ref" => ((k_here; (k_dflt (refine' re_get ?a ?b ?c ?_; (case a => exact kto_K (by k_in) (by k_is)); (case b => exact rfl); (case c => exact rfl); k_whole))))); trivial)
theorem row45 : True := by ((k_with "call builtin:re.Pattern.search" => ((k_here; (k_dflt (first | (refine' re_none ?x ?a ?b (pk_t54 _ _) in54 ?d ?e ?f ?g ?_; (case x => k_in); (case a => exact kto_K (by k_in) (by k_is)); (case b => exact rfl); (case d => exact rfl); (case e => exact rfl); (case f => assumption); (case g => assumption); k_whole) | (refine' re_none ?x ?a ?b (pk_t59 _ _) in59 ?d ?e ?f ?g ?_; (case x => k_in); (case a => exact kto_K (by k_in) (by k_is)); (case b => exact rfl); (case d => exact rfl); (case e => exact rfl); (case f => assumption); (case g => assumption); k_whole)))))); trivial)
section
variable {w : World} {p : Program} {loose : List Str} {mean : ExcName → Option Value} {mg mb : Str → Option Value} {A₀ : Around} {dp un : Nat} {gd : Option (List Code)} {cn : Str} {cs : Scope} {ca : Addr} {ccd : Value} {cl : List (Str × Addr)} {outer : List Env} {base h₀ : Heap} {L : Addr} {m : Str → Option Value} {s : Shared} {R : Result → Shared → Prop}
theorem conv_n {x : Addr} {v : Str} {tv : Tok} 
    (B : Below A₀ base outer h₀) (F : Fr h₀ L s.heap m) (X : (KF w.params).In h₀) (T : Top p loose mean mg mb h₀) (hke : cs.kind = .function) (hd : dp + 5 < recursionLimit) (hu : un + 40 < cLine) (hv : okT v) (hvl : v.length < 1000)
    (hret : ∀ h' tk', Fr h₀ L h' m → (∀ b o, s.heap.get? b = some o → h'.get? b = some o) → R (.ok (.ret (.str v tv))) { s with heap := h', toks := tk' }) :
    codeAny (model P0 w) (ktrTop dp un gd cn cs L ca ccd cl outer) (.call (.ref 89) ⟨[.ref x, .str v tv], [(Str.ofString "name", .bool true)]⟩) R s := by
  w_on
  have Nm : News h₀ L s.heap [] := News.nil
  have fin : ∀ h' tk', Fr h₀ L h' m → (∀ b o, s.heap.get? b = some o → (∀ q ∈ ([] : List (Addr × Obj)), q.1 ≠ b) → h'.get? b = some o) → R (.ok (.ret (.str v tv))) { s with heap := h', toks := tk' } := fun h' tk' kF kk => hret h' tk' kF (fun b o e => kk b o e (fun _ hq => nomatch hq))
  walk_at "MINE enter"
  k_steps
  refine' fin _ _ ?e1 ?e2
  case e1 => assumption
  case e2 => exact keep_thru (by assumption) (by assumption)
theorem conv_v {x : Addr} {v : Str} {tv : Tok} 
    (B : Below A₀ base outer h₀) (F : Fr h₀ L s.heap m) (X : (KF w.params).In h₀) (T : Top p loose mean mg mb h₀) (hke : cs.kind = .function) (hd : dp + 5 < recursionLimit) (hu : un + 40 < cLine) (hv : okT v) (hvl : v.length < 1000)
    (hret : ∀ h' tk', Fr h₀ L h' m → (∀ b o, s.heap.get? b = some o → h'.get? b = some o) → R (.ok (.ret (.str v tv))) { s with heap := h', toks := tk' }) :
    codeAny (model P0 w) (ktrTop dp un gd cn cs L ca ccd cl outer) (.call (.ref 89) ⟨[.ref x, .str v tv], [(Str.ofString "name", .bool false)]⟩) R s := by
  w_on
  have Nm : News h₀ L s.heap [] := News.nil
  have fin : ∀ h' tk', Fr h₀ L h' m → (∀ b o, s.heap.get? b = some o → (∀ q ∈ ([] : List (Addr × Obj)), q.1 ≠ b) → h'.get? b = some o) → R (.ok (.ret (.str v tv))) { s with heap := h', toks := tk' } := fun h' tk' kF kk => hret h' tk' kF (fun b o e => kk b o e (fun _ hq => nomatch hq))
  walk_at "MINE enter"
  k_steps
  refine' fin _ _ ?e1 ?e2
  case e1 => assumption
  case e2 => exact keep_thru (by assumption) (by assumption)
end

end
section -- HdB
theorem row46 : True := by (k_with_none; trivial)
theorem row47 : True := by ((k_with "MINE enterC" => ((k_dflt (refine' code_defC ?k1 ?k2 ?k3 ?k4 ?k5 ?kA ?kF ?kK ?k6 ?k7 ?k8 ?k9 ?kB ?kD ?_ ?c2 ?c3 ?c4; (case kA => exact rfl); (case kF => exact rfl); (case kK => first | assumption | exact rfl); (case k1 => k_asm); (case k2 => k_asm); (case k3 => k_asm); (case k4 => assumption); (case k5 => k_asm); (case k6 => k_is); (case k7 => k_is); (case k8 => ktr_room); (case k9 => first | exact BindsTo.of_eq rfl | exact binds_K (by k_in) rfl (by k_is) rfl rfl rfl); (case kB => exact rfl); (case kD => decide +kernel); (case c2 => exact rfl); (case c3 => exact rfl); (case c4 => exact rfl); k_whole; intro zkg' zkL' zkh' zktk' zkcells' zkFG' zkF' zkN' zkY' zkB' zkX' zkT' zkl1; (have zkl2 := zkl1); (try k_lt zkl1); k_cells zkY'; (try simp only [List.cons_append, List.nil_append] at zkN'); (try dsimp only); (try k_lift zkB'); (try k_fold))))); trivial)
theorem tail_ne {all news : List (Addr × Obj)} {L' d : Addr} (l : ∀ p ∈ all, p.1 < L') (sub : ∀ p ∈ news, p ∈ all) (hd : @LE.le Nat _ L' d) : ∀ p ∈ news, p.1 ≠ d := fun p hp => Nat.ne_of_lt (Nat.lt_of_lt_of_le (l p (sub p hp)) hd)
local macro_rules | `(tactic| k_all) => `(tactic| (refine' tail_ne ?a ?b ?c; (case a => assumption); (case b => (intro p hp; repeat (first | exact hp | apply List.Mem.tail))); (case c => omega)))
theorem row48 : True := by ((k_with "eval ListComp" => ((k_here; (k_dflt (refine LCt.ListComp_T (F₀ := by k_asm) (by with_unfolding_all rfl) (by decide) (by rfl) (by decide) (by rfl) ?_))))); trivial)
theorem row49 : True := by ((k_with "CompSrcT" => ((k_here; (k_dflt (refine LCt.CompSrcT.ledger (by rfl) (by k_asm) (by k_asm) (by k_mem) (by assumption) ?_)); intro zkg'))); trivial)
theorem row50 : True := by ((k_with "CompRestT" => (fail "mine")); trivial)
theorem fill_hb : (PySem.Challenge.rw_of0118_01.name = PySem.Challenge.rw_of0118_01.name) → (∀ P, KF P = KF P) := by
  k_fill
  intro _ _; rfl
theorem row51 : True := by ((k_with "call ref" => ((k_here; (k_dflt show wpAny _ _ (call (Value.ref 89) [Value.ref _, Value.str _ _] [(_, Value.bool true)]) _ _ _); k_dflt (refine wpAny_call ?_; refine' conv_n ?r1 ?r2 ?r3 ?r4 ?r5 ?r6 ?r7 ?r8 ?r9 ?_; (case r1 => k_asm); (case r2 => k_asm); (case r3 => k_asm); (case r4 => k_asm); (case r5 => exact rfl); (case r6 => ktr_room); (case r7 => ktr_units); (case r8 => assumption); (case r9 => assumption); k_whole); intro zkh' zktk' zkF' zkhk'; (have zkN' := News.stay (by assumption) zkhk'); (try dsimp only); (try k_sweep)))); trivial)
theorem row52 : True := by ((k_with "CompEnd" => (fail "mine")); trivial)
section
variable {w : World} {p : Program} {loose : List Str} {mean : ExcName → Option Value} {mg mb : Str → Option Value} {A₀ : Around} {dp un : Nat} {gd : Option (List Code)} {cn : Str} {cs : Scope} {ca : Addr} {ccd : Value} {cl : List (Str × Addr)} {outer : List Env} {base h₀ : Heap} {L : Addr} {m : Str → Option Value} {s : Shared} {R : Result → Shared → Prop} {news : List (Addr × Obj)}
noncomputable abbrev hdD (P : Params) (t : Tok) (l : Addr) : Obj := dictOf [ent P "_headers" t (.ref l)] 1
noncomputable abbrev tupO (a b : Value) (k : Nat) : Obj := { cls := .type "tuple", data := .seq #[a, b] k }
inductive RowsAt (news : List (Addr × Obj)) : List Value → List (Str × Str) → Prop
  | nil : RowsAt news [] []
  | cons {a t1 t2 nm v vs rs k} : (a, tupO (.str nm t1) (.str v t2) k) ∈ news → (nm.length < 100) → RowsAt news vs rs → RowsAt news (.ref a :: vs) ((nm, v) :: rs)
theorem ga_comp {A : Around} {c : Addr} {oc : Obj} {ln : Str} {tl : Tok} {its : Array Value} {S : List (Addr × Obj) → Prop} {Fin : List Value → List (Addr × Obj) → Prop} {led : List (Addr × Obj)}
    (X : (KF w.params).In h₀) (T : Top p loose mean mg mb h₀) (hhA : A.handled = none) (hc : (c, oc) ∈ led) (hcd : oc.data = .cell (some (.str ln tl))) (hS : S led) :
    ∀ {vs rows}, RowsAt led vs rows → ∀ (i : Nat) (ys : List Value), its.toList.drop i = vs → (∀ ys', StrsOf ((rows.filter fun r => Txt.lower r.1 == ln).map (·.2)) ys' → Fin (ys ++ ys') led) →
    LCt.CompRestT P0 w A h₀ L m (envOfC (Str.ofString "Headers.get_all") s127 L 127 (Value.ref 126)) 
      (((((Expr.Name (Str.ofString "kv") { line := 58, col := 49, endLine := 58, endCol := 51 }).Subscript (Expr.Constant (Const.int 0) 0 { line := 58, col := 52, endLine := 58, endCol := 53 }) { line := 58, col := 49, endLine := 58, endCol := 54 }).Attribute (Str.ofString "lower") { line := 58, col := 49, endLine := 58, endCol := 60 }).Call [] [] { line := 58, col := 49, endLine := 58, endCol := 62 }).Compare [CmpOp.Eq] [Expr.Name (Str.ofString "name") { line := 58, col := 66, endLine := 58, endCol := 70 }] { line := 58, col := 49, endLine := 58, endCol := 70 })
      ((Expr.Name (Str.ofString "kv") { line := 58, col := 16, endLine := 58, endCol := 18 }).Subscript (Expr.Constant (Const.int 1) 0 { line := 58, col := 19, endLine := 58, endCol := 20 }) { line := 58, col := 16, endLine := 58, endCol := 21 })
      (Str.ofString "kv") { kind := ScopeKind.function, names := [(Str.ofString ".0", NameKind.local), (Str.ofString "kv", NameKind.local), (Str.ofString "name", NameKind.free)], isGenerator := false, isCoroutine := false }
      [(Str.ofString "name", c)] s S (fun i v => its[i]? = some v) Fin vs.length i ys led := by
  w_on
  intro vs rows hr
  induction hr with
  | nil => intro i ys hi hF; exact LCt.CompRestT.zero (by simpa using hF [] .nil)
  | @cons a t1 t2 nm v vs rs k hm hnl hr ih =>
    intro i ys hi hF
    refine LCt.CompRestT.succ ?_
    intro v' I' oI' C' oC' D' m' h' tk' E' hv' hC' hx' F' N' off' ne'
    have e : v' = .ref a := by
      have e1 : its[i]? = (its.toList.drop i)[0]? := by simp
      rw [hi] at e1
      have e2 : its[i]? = some v' := hv'
      rw [e1] at e2
      exact (Option.some.inj e2).symm
    subst e
    have N2 : News h₀ L h' ((a, tupO (.str nm t1) (.str v t2) k) :: (c, oc) :: (I', oI') :: (C', oC') :: (D', LCg.lst ys) :: led) := fun q hq => by
      rcases List.mem_cons.mp hq with rfl | hq
      · exact N' _ (.tail _ (.tail _ (.tail _ hm)))
      · rcases List.mem_cons.mp hq with rfl | hq
        · exact N' _ (.tail _ (.tail _ (.tail _ hc)))
        · exact N' q hq
    clear N'
    k_steps
    · refine LCg.CompEnd.intro (by assumption) N2 led (fun q hq => .tail _ (.tail _ hq)) off' hS (ih (i + 1) (ys ++ [.str v t2]) ?_ ?_)
      · rw [← List.drop_drop, hi]; rfl
      · intro ys' hys
        rw [List.append_assoc]
        refine hF (.str v t2 :: ys') ?_
        have hc : (Txt.lower nm == ln) = true := by assumption
        rw [List.filter_cons_of_pos (by exact hc)]
        exact .cons ⟨_, rfl⟩ hys
    · refine LCg.CompEnd.intro (by assumption) N2 led (fun q hq => .tail _ (.tail _ hq)) off' hS (ih (i + 1) ys ?_ ?_)
      · rw [← List.drop_drop, hi]; rfl
      · intro ys' hys
        refine hF ys' ?_
        have hc : (Txt.lower nm == ln) = false := by assumption
        rw [List.filter_cons_of_neg (by rw [hc]; decide)]
        exact hys
theorem off1_mem {D : Addr} : ∀ {l : List (Addr × Obj)}, LCg.Off1 D l → ∀ q ∈ l, q.1 ≠ D
  | [], _, _, h => nomatch h
  | _ :: _, x, q, h => by
    rcases List.mem_cons.mp h with rfl | h
    · exact x.1
    · exact off1_mem x.2 q h
theorem RowsAt.mono {l l' : List (Addr × Obj)} (hs : ∀ q ∈ l, q ∈ l') : ∀ {vs rows}, RowsAt l vs rows → RowsAt l' vs rows := fun h => by
  induction h with
  | nil => exact .nil
  | cons h1 h2 _ ih => exact .cons (hs _ h1) h2 ih
theorem get_all_c {x dx l : Addr} {its : Array Value} {n : Nat} {th tn : Tok} {nm : Str} {rows : List (Str × Str)}
    (B : Below A₀ base outer h₀) (F : Fr h₀ L s.heap m) (X : (KF w.params).In h₀) (N : News h₀ L s.heap news) (T : Top p loose mean mg mb h₀) (hke : cs.kind = .function)
    (hx : (x, instObj 188 dx) ∈ news) (hdx : (dx, hdD w.params th l) ∈ news) (hl : (l, W.listOf its n) ∈ news) (hr : RowsAt news its.toList rows)
    (hd : dp + 8 < recursionLimit) (hu : un + 60 < cLine) (hv : okT (Txt.lower nm)) (hvl : (Txt.lower nm).length < 1000) (hnl : nm.length < 100) (hsz : its.size ≤ sizeLine)
    (hret : ∀ h' tk' D ys', Fr h₀ L h' m → News h₀ L h' ((D, LCg.lst ys') :: news) → StrsOf ((rows.filter fun r => Txt.lower r.1 == Txt.lower nm).map (·.2)) ys' → (∀ q ∈ news, q.1 ≠ D) → R (.ok (.ret (.ref D))) { s with heap := h', toks := tk' }) :
    codeAny (model P0 w) (ktrTop dp un gd cn cs L ca ccd cl outer) (.call (.ref 127) ⟨[.ref x, .str nm tn], []⟩) R s := by
  w_on
  have Nm : News h₀ L s.heap ((x, instObj 188 dx) :: (dx, hdD w.params th l) :: (l, W.listOf its n) :: news) := fun q hq => by
    rcases List.mem_cons.mp hq with rfl | hq
    · exact N _ hx
    · rcases List.mem_cons.mp hq with rfl | hq
      · exact N _ hdx
      · rcases List.mem_cons.mp hq with rfl | hq
        · exact N _ hl
        · exact N _ hq
  clear N
  walk_at "MINE enterC"
  k_steps
  refine' ga_comp ?X ?T rfl ?hc ?hcd ?hS ?hr 0 [] rfl ?_
  case hc => exact .head _
  case X => assumption
  case T => assumption
  case hcd => assumption
  case hS => exact .inr ⟨_, by k_mem, rfl, _, rfl⟩
  case hr => exact hr.mono fun q hq => .tail _ (.tail _ (.tail _ (.tail _ hq)))
  intro ys' hys
  rw [List.nil_append]
  k_steps
  refine' hret _ _ _ _ ?e1 (fun q hq => ?e2) hys (off1_mem ?e3)
  case e1 => assumption
  case e3 => exact (And.right (And.right (And.right (And.right (by assumption : _ ∧ _ ∧ _ ∧ _ ∧ LCg.Off1 _ news)))))
  case e2 =>
    refine (by assumption : News h₀ L _ ((_, LCg.lst ys') :: _)) q ?_
    rcases List.mem_cons.mp hq with rfl | hq
    · exact .head _
    · exact .tail _ (.tail _ (.tail _ (.tail _ (.tail _ hq))))
end

end
section -- Base2
open PySem.Spec PyProof.V
section
variable {prog : Program} {w : World} {A A₀ : Around} {s : Shared} {K : Frag} {L : Addr} {h₀ base : Heap} {m mg mb : Str → Option Value} {mtl news : List (Addr × Obj)} {p : Program} {loose : List Str} {mean : ExcName → Option Value}
theorem frameM {E : Value → Shared → Prop} {env : Env} {outer : List Env} {R : Result → Shared → Prop} {qual : Str} {body : List Stmt} {scope : Scope} {cdv : Value} {f : Addr} {binds : List (Str × Value)} {cl : List (Str × Addr)}
    (B : Below A₀ base outer h₀) (F : Fr h₀ L s.heap m) (N : News h₀ L s.heap mtl) (hlim : h₀.NoLimit) (hA : A.frames = some (env :: outer)) (hf : env.frame = some L) (hke : env.scope.kind = .function)
    (hloc : ∀ y ∈ binds, scope.names.lookup y.1 = some .local)
    (h : ∀ g L' h₁, (∀ b o, s.heap.get? b = some o → (∀ p ∈ mtl, p.1 ≠ b) → g.get? b = some o) → Fr h₀ L g m → Fr g L' h₁ (fun y => binds.reverse.lookup y) → News g L' h₁ mtl → Below A base (env :: outer) g → h₀.StaysIn g → (∀ p ∈ mtl, p.1 < L') →
      wpAny (model prog w) (A.deeper (envX qual scope L' f cdv cl)) (execs body (envX qual scope L' f cdv cl))
        (fun fl s' => LeaveK h₀ L m g R (match fl with | .ret v => v | _ => .none) s')
        (fun e s' => wpAny (model prog w) (A.deeper (envX qual scope L' f cdv cl)) (leaving (envX qual scope L' f cdv cl) e) (fun _ s'' => R (.error e) s'') (fun e' s'' => R (.error e') s'') s')
        { s with heap := h₁, toks := s.toks + binds.length })
    (hcell : ∀ x ∈ scope.names, x.2 ≠ .cell) (hk : scope.kind = .function) :
    wpAny (model prog w) A.in1 (newFunctionEnv scope mainGlobals cl binds (qual ++ ".<locals>.") (some f) cdv none builtinsNs) (fun env' s₂ => s₂.heap.NoLimit ∧ codeAny (model prog w) A (.func body env') R s₂) E s := by
  obtain ⟨FG, BG, st, lv⟩ := groundX (R := R) B F N hA hf hke
  refine wpAny_newFunctionEnv hcell hloc (fun h₁ hns hsb => ⟨(hlim.keeps F.keep).fresh _ hsb, codeAny_func ?_⟩) hk
  have hk₁ : ∀ b o, s.heap.get? b = some o → h₁.get? b = some o := fun b o e => hsb.extBut b o (Nat.ne_of_lt (Heap.lt_size e)) (Heap.get?_push_of_some _ e)
  show wpAny (model prog w) (A.deeper (envX qual scope s.heap.objs.size f cdv cl)) (execs body (envX qual scope s.heap.objs.size f cdv cl)) _ _ _
  refine wpAny_mono (h _ s.heap.objs.size h₁ (fun b o e q => hideAll_get _ e fun hb => ?_) FG ⟨hns, fun b o e => hk₁ b o (of_hideAll _ e), Nat.le_of_eq (hideAll_size _ _)⟩
    (fun p hp => ⟨hk₁ _ _ (N p hp).1, Nat.ne_of_lt (Heap.lt_size (N p hp).1), hideAll_none _ (List.mem_map_of_mem hp)⟩) BG st (fun p hp => Heap.lt_size (N p hp).1)) (fun fl s' hl => lv _ _ hl) fun _ _ y => y
  obtain ⟨p, hp, rfl⟩ := List.mem_map.mp hb
  exact q p hp rfl

theorem moreM {env : Env} {outer : List Env} {R : Result → Shared → Prop} {name qual : Str} {params : Arguments} {body : List Stmt} {scope : Scope} {dV kV doc pm cdv ct oc : Value} {an od : Option Addr} {osl : Array (Option Value)} {f : Addr} {args : Args} {nm : Str} {ex front : List (Str × Value)} {DD : List (PyData × PyData)} {g₁ : Addr → Sem (List (Str × Value))}
    (B : Below A₀ base outer h₀) (F : Fr h₀ L s.heap m) (X₀ : K.In h₀) (N : News h₀ L s.heap news) (sub : ∀ q ∈ mtl, q ∈ news) (T : Top p loose mean mg mb h₀) (hA : A.frames = some (env :: outer)) (hf : env.frame = some L) (hke : env.scope.kind = .function)
    (ho : K.lookup f = some ⟨oc, od, .func (fnOf name qual params body scope dV kV doc pm an cdv ct), osl⟩) (hcd : codeIn K cdv qual = true) (hroom : A.depth < recursionLimit)
    (hx : args.kw.filter (fun x => !ownKw params x.1) = ex) (hnm : params.kwarg.map (·.arg) = some nm) (hn : kwDistinct ex = true) (hD : FlatPairs PyData.str ex DD)
    (_hfr : peek K ⟨prog, w.params⟩ (bindArgs (fnCut (fnOf name qual params body scope dV kV doc pm an cdv ct)) (argsCut params args)) = some front)
    (hp : peekA K ⟨prog, w.params⟩ (bindArgs (fnOf name qual params body scope dV kV doc pm an cdv ct) args) = some (dictOf [] 0, g₁))
    (hk₁ : ∀ D, g₁ D = (forIn ex PUnit.unit (fun x _ => (nsSet D x.1 x.2 >>= fun _ => pure (ForInStep.yield PUnit.unit))) >>= fun _ => pure (front ++ [(nm, Value.ref D)])))
    (hloc : ∀ D, ∀ y ∈ front ++ [(nm, Value.ref D)], scope.names.lookup y.1 = some .local)
    (h : ∀ D o g L' h₁ tk, (∀ q ∈ news, (∀ p ∈ mtl, p.1 ≠ q.1) → g.get? q.1 = some q.2) → (D == sysModules) = false → o.IsDictOf (strKind prog w) ex → FlatPairs PyData.str ex DD → Fr h₀ L g m → Fr g L' h₁ (fun y => (front ++ [(nm, Value.ref D)]).reverse.lookup y) → News g L' h₁ ((D, o) :: mtl) → Below A base (env :: outer) g → K.In g → Top p loose mean mg mb g → (∀ p ∈ mtl, p.1 < D) → D < L' →
      wpAny (model prog w) (A.deeper (envOf qual scope L' f cdv)) (execs body (envOf qual scope L' f cdv))
        (fun fl s' => LeaveK h₀ L m g R (match fl with | .ret v => v | _ => .none) s')
        (fun e s' => wpAny (model prog w) (A.deeper (envOf qual scope L' f cdv)) (leaving (envOf qual scope L' f cdv) e) (fun _ s'' => R (.error e) s'') (fun e' s'' => R (.error e') s'') s')
        { s with heap := h₁, toks := tk })
    (hco : scope.isCoroutine = false) (hgen : scope.isGenerator = false) (hk : scope.kind = .function)
    (hcell : ∀ x ∈ scope.names, x.2 ≠ .cell) : codeAny (model prog w) A (.call (.ref f) args) R s := by
  have _ := hx
  have _ := hnm
  have hn' := kwDistinct_nodup hn
  refine codeAny_call_function (fd := fnOf name qual params body scope dV kV doc pm an cdv ct) (body := body) hroom ((X₀.keeps F.keep) _ _ ho) rfl hco hgen rfl (codeRec_of (X₀.keeps F.keep) hcd) ?_
  refine wp_of_peekA (o := dictOf [] 0) F N (X₀.keeps F.keep) rfl _ g₁ hp fun h' F' N' l => ?_
  rw [hk₁]
  refine wpAny_bind (kp_fill ex { s with heap := h' } [] 0 F' N' (fun p hp => Nat.ne_of_lt (l p hp)) (fun _ he => nomatch he) (fun _ he => nomatch he) hn' fun h'' F'' N'' => wpAny_pure ?_)
  have N3 : News h₀ L h'' ((s.heap.objs.size, dictOf (kwEs w.params s.toks ex) (0 + ex.length)) :: mtl) := fun q hq => by
    rcases List.mem_cons.mp hq with rfl | hq
    · exact N'' _ (.head _)
    · exact N'' _ (.tail _ (sub q hq))
  exact frameM (cl := []) (s := { s with heap := h'', toks := s.toks + ex.length }) B F'' N3 T.nolimit hA hf hke (hloc _)
    (fun g L' h₁ gk FG FL NG BG st lt => h _ _ g L' h₁ _ (fun q hq hne => gk _ _ (N'' _ (.tail _ hq)).1 fun r hr => by
      rcases List.mem_cons.mp hr with rfl | hr
      · exact (Nat.ne_of_lt (l q hq)).symm
      · exact hne r hr) (F.notModules (modules_low T.nolimit)) (kp_isDict s.toks (0 + ex.length) hn') hD FG FL NG BG (X₀.keeps st) (T.keeps st) (fun p hp => l p (sub p hp)) (lt _ (.head _))) hcell hk

theorem bothM {env : Env} {outer : List Env} {R : Result → Shared → Prop} {name qual : Str} {params : Arguments} {body : List Stmt} {scope : Scope} {dV kV doc pm cdv ct oc : Value} {an od : Option Addr} {osl : Array (Option Value)} {f : Addr} {args : Args} {vs : List Value} {nm nr : Str} {ex front : List (Str × Value)} {DD : List (PyData × PyData)} {g₁ : Addr → Sem (List (Str × Value))} {g₂ : Addr → Addr → Sem (List (Str × Value))}
    (B : Below A₀ base outer h₀) (F : Fr h₀ L s.heap m) (X₀ : K.In h₀) (N : News h₀ L s.heap news) (T : Top p loose mean mg mb h₀) (hA : A.frames = some (env :: outer)) (hf : env.frame = some L) (hke : env.scope.kind = .function)
    (ho : K.lookup f = some ⟨oc, od, .func (fnOf name qual params body scope dV kV doc pm an cdv ct), osl⟩) (hcd : codeIn K cdv qual = true) (hroom : A.depth < recursionLimit)
    (hv : args.pos.drop (params.posonlyargs.length + params.args.length) = vs) (hx : args.kw.filter (fun x => !ownKw params x.1) = ex) (hnr : params.vararg.map (·.arg) = some nr) (hnm : params.kwarg.map (·.arg) = some nm) (hn : kwDistinct ex = true) (hD : FlatPairs PyData.str ex DD)
    (_hfr : peek K ⟨prog, w.params⟩ (bindArgs (fnCut (fnOf name qual params body scope dV kV doc pm an cdv ct)) (argsCut params args)) = some front)
    (hp : peekA K ⟨prog, w.params⟩ (bindArgs (fnOf name qual params body scope dV kV doc pm an cdv ct) args) = some (({ cls := .type "tuple", data := .seq vs.toArray } : Obj), g₁))
    (hp₂ : ∀ D, peekA K ⟨prog, w.params⟩ (g₁ D) = some (dictOf [] 0, g₂ D))
    (hk₂ : ∀ C D, g₂ C D = (forIn ex PUnit.unit (fun x _ => (nsSet D x.1 x.2 >>= fun _ => pure (ForInStep.yield PUnit.unit))) >>= fun _ => pure (front ++ [(nr, Value.ref C)] ++ [(nm, Value.ref D)])))
    (hloc : ∀ C D, ∀ y ∈ front ++ [(nr, Value.ref C)] ++ [(nm, Value.ref D)], scope.names.lookup y.1 = some .local)
    (h : ∀ C D g L' h₁ tk, (∀ q ∈ news, g.get? q.1 = some q.2) → Fr h₀ L g m → Fr g L' h₁ (fun y => (front ++ [(nr, Value.ref C)] ++ [(nm, Value.ref D)]).reverse.lookup y) →
      News g L' h₁ [] → Below A base (env :: outer) g → K.In g → Top p loose mean mg mb g →
      wpAny (model prog w) (A.deeper (envOf qual scope L' f cdv)) (execs body (envOf qual scope L' f cdv))
        (fun fl s' => LeaveK h₀ L m g R (match fl with | .ret v => v | _ => .none) s')
        (fun e s' => wpAny (model prog w) (A.deeper (envOf qual scope L' f cdv)) (leaving (envOf qual scope L' f cdv) e) (fun _ s'' => R (.error e) s'') (fun e' s'' => R (.error e') s'') s')
        { s with heap := h₁, toks := tk })
    (hco : scope.isCoroutine = false) (hgen : scope.isGenerator = false) (hk : scope.kind = .function)
    (hcell : ∀ x ∈ scope.names, x.2 ≠ .cell) : codeAny (model prog w) A (.call (.ref f) args) R s := by
  have _ := hv
  have _ := hx
  have _ := hnr
  have _ := hnm
  have hn' := kwDistinct_nodup hn
  refine codeAny_call_function (fd := fnOf name qual params body scope dV kV doc pm an cdv ct) (body := body) hroom ((X₀.keeps F.keep) _ _ ho) rfl hco hgen rfl (codeRec_of (X₀.keeps F.keep) hcd) ?_
  refine wp_of_peekA (o := ({ cls := .type "tuple", data := .seq vs.toArray } : Obj)) F N (X₀.keeps F.keep) rfl _ g₁ hp fun h' F' N' l => ?_
  refine wp_of_peekA (s := { s with heap := h' }) (o := dictOf [] 0) F' N' (X₀.keeps F'.keep) rfl _ (g₂ s.heap.objs.size) (hp₂ _) fun h'' F'' N'' l' => ?_
  rw [hk₂]
  refine wpAny_bind (kp_fill ex { s with heap := h'' } [] 0 F'' N'' (fun p hp => Nat.ne_of_lt (l' p hp)) (fun _ he => nomatch he) (fun _ he => nomatch he) hn' fun h₃ F₃ N₃ => wpAny_pure ?_)
  exact frameM (cl := []) (mtl := []) (s := { s with heap := h₃, toks := s.toks + ex.length }) B F₃ News.nil T.nolimit hA hf hke (hloc _ _)
    (fun g L' h₁ gk FG FL NG BG st lt => h _ _ g L' h₁ _ (fun q hq => gk _ _ (N₃ _ (.tail _ (.tail _ hq))).1 fun r hr => nomatch hr) FG FL NG BG (X₀.keeps st) (T.keeps st)) hcell hk

theorem cellsM {env : Env} {outer : List Env} {R : Result → Shared → Prop} {name qual : Str} {params : Arguments} {body : List Stmt} {scope : Scope} {dV kV doc pm cdv ct oc : Value} {an od : Option Addr} {osl : Array (Option Value)} {f : Addr} {args : Args} {binds : List (Str × Value)}
    (B : Below A₀ base outer h₀) (F : Fr h₀ L s.heap m) (X₀ : K.In h₀) (N : News h₀ L s.heap mtl) (T : Top p loose mean mg mb h₀) (hA : A.frames = some (env :: outer)) (hf : env.frame = some L) (hke : env.scope.kind = .function)
    (ho : K.lookup f = some ⟨oc, od, .func (fnOf name qual params body scope dV kV doc pm an cdv ct), osl⟩) (hcd : codeIn K cdv qual = true) (hroom : A.depth < recursionLimit)
    (hbind : BindsTo s (fnOf name qual params body scope dV kV doc pm an cdv ct) args binds) (hkind : (binds.all fun y => scope.names.lookup y.1 == some .local || scope.names.lookup y.1 == some .cell) = true)
    (hnd : ((cellsFrom 0 scope.names []).map (·.1)).Nodup)
    (h : ∀ g L' h₁ tk cells, (∀ b o, s.heap.get? b = some o → (∀ p ∈ mtl, p.1 ≠ b) → g.get? b = some o) → Fr h₀ L g m → Fr g L' h₁ (bindL (envOfC qual scope L' f cdv).kindOf binds fun _ => none) → News g L' h₁ (cells ++ mtl) →
      CellsAre (bindC (envOfC qual scope L' f cdv).kindOf binds fun _ => none) (cellsFrom (L' + 1) scope.names []) cells → Below A base (env :: outer) g → K.In g → Top p loose mean mg mb g → (∀ p ∈ mtl, p.1 < L') →
      wpAny (model prog w) (A.deeper (envOfC qual scope L' f cdv)) (execs body (envOfC qual scope L' f cdv))
        (fun fl s' => LeaveK h₀ L m g R (match fl with | .ret v => v | _ => .none) s')
        (fun e s' => wpAny (model prog w) (A.deeper (envOfC qual scope L' f cdv)) (leaving (envOfC qual scope L' f cdv) e) (fun _ s'' => R (.error e) s'') (fun e' s'' => R (.error e') s'') s')
        { s with heap := h₁, toks := tk })
    (hco : scope.isCoroutine = false) (hgen : scope.isGenerator = false) (hk : scope.kind = .function) : codeAny (model prog w) A (.call (.ref f) args) R s := by
  obtain ⟨FG, BG, st, lv⟩ := groundX (R := R) B F N hA hf hke
  refine codeAny_call_function (fd := fnOf name qual params body scope dV kV doc pm an cdv ct) (body := body) hroom ((X₀.keeps F.keep) _ _ ho) rfl hco hgen rfl (codeRec_of (X₀.keeps F.keep) hcd) (hbind _ _ _ _ ?_)
  refine wpAny_newFunctionEnv_cells hk (kindsX hkind _) fun env' he s' x => ?_
  subst he
  refine ⟨(T.nolimit.keeps F.keep).keeps x.toInCall.keep, codeAny_func ?_⟩
  obtain ⟨h₁, tk, rfl, _⟩ := x.done
  have hk₁ := x.toInCall.keep
  obtain ⟨cells, NC, Y⟩ := Cl.news (h₀ := s.heap) (Nat.le_refl _) fun n c hm => ⟨x.cell n c (lookup_of_mem_nodup (cellsFrom_names scope.names 0 (s.heap.objs.size + 1) [] [] rfl ▸ hnd) hm), x.above n c hm⟩
  refine wpAny_mono (h _ s.heap.objs.size h₁ tk cells (fun b o e q => hideAll_get _ e fun hb => ?_) FG ⟨x.toInCall.ns, fun b o e => hk₁ b o (of_hideAll _ e), Nat.le_of_eq (hideAll_size _ _)⟩ (fun p hp => ?_) Y BG (X₀.keeps st) (T.keeps st) (fun p hp => Heap.lt_size (N p hp).1)) (fun fl s' hl => lv _ _ hl) fun _ _ y => y
  · obtain ⟨p, hp, rfl⟩ := List.mem_map.mp hb
    exact q p hp rfl
  rcases List.mem_append.mp hp with hp | hp
  · refine ⟨(NC p hp).1, (NC p hp).2.1, ?_⟩
    cases q : (hideAll s.heap (mtl.map (·.1))).get? p.1 with
    | none => rfl
    | some o => have := of_hideAll _ q; rw [(NC p hp).2.2] at this; cases this
  · exact ⟨hk₁ _ _ (N p hp).1, Nat.ne_of_lt (Heap.lt_size (N p hp).1), hideAll_none _ (List.mem_map_of_mem hp)⟩
end
theorem kept1 {h₀ h h' : Heap} {L d1 : Addr} {news mtl mtl' : List (Addr × Obj)} (N : News h₀ L h news) (sub : ∀ r ∈ mtl, r ∈ news) (kN : News h₀ L h' mtl') (same : ∀ r ∈ mtl, r.1 ≠ d1 → r ∈ mtl')
    (kk : ∀ q ∈ news, (∀ p ∈ mtl, p.1 ≠ q.1) → h'.get? q.1 = some q.2) : ∀ q ∈ news, q.1 ≠ d1 → h'.get? q.1 = some q.2 := by
  intro q hq h1
  by_cases hx : ∃ r ∈ mtl, r.1 = q.1
  · obtain ⟨r, hr, e⟩ := hx
    have z := (N _ (sub r hr)).1
    rw [e, (N _ hq).1] at z
    rw [← e, (kN r (same r hr (e ▸ h1))).1, Option.some.inj z]
  · exact kk q hq fun r hr e => hx ⟨r, hr, e⟩
theorem fresh1 {g h' : Heap} {L' D : Addr} {news mtl led : List (Addr × Obj)} {o : Obj} (gk : ∀ q ∈ news, (∀ p ∈ mtl, p.1 ≠ q.1) → g.get? q.1 = some q.2) (N' : News g L' h' led) (hD : (D, o) ∈ led) (hm : ∀ p ∈ mtl, p.1 ≠ D) : ∀ q ∈ news, q.1 ≠ D := by
  intro q hq e
  by_cases hx : ∃ r ∈ mtl, r.1 = q.1
  · obtain ⟨r, hr, e'⟩ := hx
    exact hm r hr (e'.trans e)
  · have := gk q hq fun r hr e' => hx ⟨r, hr, e'⟩
    rw [e, (N' _ hD).2.2] at this
    cases this
theorem keepQ {g h' : Heap} {L' : Addr} {m' : Str → Option Value} {mtl news : List (Addr × Obj)} (gk : ∀ q ∈ news, (∀ p ∈ mtl, p.1 ≠ q.1) → g.get? q.1 = some q.2) (F' : Fr g L' h' m') : ∀ q ∈ news, (∀ p ∈ mtl, p.1 ≠ q.1) → h'.get? q.1 = some q.2 := fun q hq hp => F'.keep _ _ (gk q hq hp)
theorem News.cons {h₀ h : Heap} {L : Addr} {q : Addr × Obj} {news : List (Addr × Obj)} (h1 : h.get? q.1 = some q.2 ∧ q.1 ≠ L ∧ h₀.get? q.1 = none) (N : News h₀ L h news) : News h₀ L h (q :: news) := fun r hr => by
  rcases List.mem_cons.mp hr with rfl | hr
  · exact h1
  · exact N r hr
theorem freshN {g h' : Heap} {L' D : Addr} {news led : List (Addr × Obj)} {o : Obj} (gk : ∀ q ∈ news, g.get? q.1 = some q.2) (N' : News g L' h' led) (hD : (D, o) ∈ led) : ∀ q ∈ news, q.1 ≠ D := fun q hq e => by
  have := gk q hq
  rw [e, (N' _ hD).2.2] at this
  cases this
theorem keepN {g h' : Heap} {h₀ h : Heap} {L L' : Addr} {m' : Str → Option Value} {news : List (Addr × Obj)} (N : News h₀ L h news) (gk : ∀ q ∈ news, g.get? q.1 = some q.2) (F' : Fr g L' h' m') : News h₀ L h' news := fun q hq => ⟨F'.keep _ _ (gk q hq), (N q hq).2⟩
/-- the ledger behind a call whose small part was pre -/
theorem News.backP {h₀ h h' : Heap} {L : Addr} {pre pre' news : List (Addr × Obj)} (N : News h₀ L h news) (kN : News h₀ L h' pre') (hf : ∀ q ∈ news, ∀ p ∈ pre, p.1 ≠ q.1) (kk : ∀ b o, h.get? b = some o → (∀ p ∈ pre, p.1 ≠ b) → h'.get? b = some o) : News h₀ L h' (pre' ++ news) := fun q hq => by
  rcases List.mem_append.mp hq with hq | hq
  · exact kN q hq
  · exact ⟨kk _ _ (N q hq).1 (hf q hq), (N q hq).2⟩
noncomputable def AllNe (d : Nat) : List (Addr × Obj) → Prop
  | [] => True
  | p :: r => @Ne Nat p.1 d ∧ AllNe d r
theorem allNe_of {d : Addr} : ∀ {l : List (Addr × Obj)}, (∀ p ∈ l, p.1 ≠ d) → AllNe d l
  | [], _ => trivial
  | p :: _, h => ⟨h p (.head _), allNe_of fun q hq => h q (.tail _ hq)⟩

end
section -- HdC
theorem row53 : True := by (k_with_none; trivial)
theorem row54 : True := by ((k_with "MINE more" => ((k_dflt (refine' moreM ?k1 ?k2 ?k3 ?k4 ?ks ?k5 ?kA ?kF ?kK ?k6 ?k7 ?k8 ?kX ?kM ?kN ?kD ?kR ?kP ?kT ?kB ?_ ?c2 ?c3 ?c4 ?c5; (case kA => exact rfl); (case kF => exact rfl); (case kK => first | assumption | exact rfl); (case k1 => k_asm); (case k2 => k_asm); (case k3 => k_asm); (case k4 => assumption); (case ks => assumption); (case k5 => k_asm); (case k6 => k_is); (case k7 => k_is); (case k8 => ktr_room); (case kX => kp_lit); (case kM => exact rfl); (case kN => exact rfl); (case kD => kp_flats); (case kR => exact rfl); (case kP => exact rfl); (case kT => exact fun _ => rfl); (case kB => exact fun _ => locs rfl); (case c5 => decide); (case c2 => exact rfl); (case c3 => exact rfl); (case c4 => exact rfl); k_whole; intro zkD' zko' zkg' zkL' zkh' zktk' zkgk' zklo' zkhs' zkfs' zkFG' zkF' zkN' zkB' zkX' zkT' zkl1 zkl2; (try k_lt zkl1); (try dsimp only); (try k_lift zkB'); (try k_fold))))); trivial)
theorem row55 : True := by ((k_with "call builtin:list.append" => ((k_here; (try dsimp only [List.cons_append, List.nil_append]); k_dflt (refine' append_K ?k1 ?k2 ?k3 ?_ ?z; (case k1 => k_asm); (case k2 => k_asm); (case k3 => k_upd); (case z => size_fits); k_whole); intro zkh' zkF' zkN'; (try k_sweep)))); trivial)
theorem fill_hc : (PySem.Challenge.rw_of0118_01.name = PySem.Challenge.rw_of0118_01.name) → (∀ P, KF P = KF P) := by
  k_fill
  intro _ _; rfl
theorem row56 : True := by ((k_with "call ref" => ((k_here; (k_dflt show wpAny _ _ (call (Value.ref 89) [Value.ref _, Value.str _ _] [(_, Value.bool true)]) _ _ _); k_dflt (refine wpAny_call ?_; refine' conv_n ?r1 ?r2 ?r3 ?r4 ?r5 ?r6 ?r7 ?r8 ?r9 ?_; (case r1 => k_asm); (case r2 => k_asm); (case r3 => k_asm); (case r4 => k_asm); (case r5 => exact rfl); (case r6 => ktr_room); (case r7 => ktr_units); (case r8 => assumption); (case r9 => assumption); k_whole); intro zkh' zktk' zkF' zkhk'; (have zkN' := News.stay (by assumption) zkhk'); (try dsimp only); (try k_sweep)))); trivial)
theorem row57 : True := by ((k_with "call ref" => ((k_here; (k_dflt show wpAny _ _ (call (Value.ref 89) [Value.ref _, Value.str _ _] [(_, Value.bool false)]) _ _ _); k_dflt (refine wpAny_call ?_; refine' conv_v ?r1 ?r2 ?r3 ?r4 ?r5 ?r6 ?r7 ?r8 ?r9 ?_; (case r1 => k_asm); (case r2 => k_asm); (case r3 => k_asm); (case r4 => k_asm); (case r5 => exact rfl); (case r6 => ktr_room); (case r7 => ktr_units); (case r8 => assumption); (case r9 => assumption); k_whole); intro zkh' zktk' zkF' zkhk'; (have zkN' := News.stay (by assumption) zkhk'); (try dsimp only); (try k_sweep)))); trivial)
theorem join1 {sep v : Str} : Txt.join sep [v] = v := by
  simp [Txt.join, Builtin.Str.glued]
section
variable {w : World} {p : Program} {loose : List Str} {mean : ExcName → Option Value} {mg mb : Str → Option Value} {A₀ : Around} {dp un : Nat} {gd : Option (List Code)} {cn : Str} {cs : Scope} {ca : Addr} {ccd : Value} {cl : List (Str × Addr)} {outer : List Env} {base h₀ : Heap} {L : Addr} {m : Str → Option Value} {s : Shared} {R : Result → Shared → Prop} {news : List (Addr × Obj)} {nf : Obj → List (Addr × Obj)}
theorem add_header_c {x dx l : Addr} {its : Array Value} {n : Nat} {th tn tv : Tok} {nm v : Str}
    (B : Below A₀ base outer h₀) (F : Fr h₀ L s.heap m) (X : (KF w.params).In h₀) (N : News h₀ L s.heap news) (T : Top p loose mean mg mb h₀) (hke : cs.kind = .function)
    (hx : (x, instObj 188 dx) ∈ news) (hdx : (dx, hdD w.params th l) ∈ news) (U : UpdF l (W.listOf its n) news nf)
    (n1 : @Ne Nat x l) (n2 : @Ne Nat dx l)
    (hd : dp + 8 < recursionLimit) (hu : un + 60 < cLine) (hn : okT nm) (hnl : nm.length < 1000) (hv : okT v) (hvl : v.length < 1000) (hsz : its.size ≤ 1000)
    (hret : ∀ D t' h' tk', Fr h₀ L h' m → News h₀ L h' ((D, tupO (.str nm tn) (.str v t') 0) :: nf (W.listOf (its.push (.ref D)) (n + 1))) → (∀ q ∈ news, q.1 ≠ D) → R (.ok (.ret .none)) { s with heap := h', toks := tk' }) :
    codeAny (model P0 w) (ktrTop dp un gd cn cs L ca ccd cl outer) (.call (.ref 185) ⟨[.ref x, .str nm tn, .str v tv], []⟩) R s := by
  w_on
  have sub : ∀ q ∈ [(x, instObj 188 dx), (dx, hdD w.params th l), (l, W.listOf its n)], q ∈ news := fun q hq => by
    simp only [List.mem_cons, List.not_mem_nil, or_false] at hq
    rcases hq with rfl | rfl | rfl
    · exact hx
    · exact hdx
    · exact (UpdF.old U).1
  have fin : ∀ D t' h' tk' vj led, vj = v → Fr h₀ L h' m → News h₀ L h' ((D, tupO (.str nm tn) (.str vj t') 0) :: led) → (∀ q ∈ [(x, instObj 188 dx), (dx, hdD w.params th l), (l, W.listOf its n)], q.1 ≠ l → q ∈ led) → (l, W.listOf (its.push (.ref D)) (n + 1)) ∈ led →
      (∀ q ∈ news, (∀ p ∈ [(x, instObj 188 dx), (dx, hdD w.params th l), (l, W.listOf its n)], p.1 ≠ q.1) → h'.get? q.1 = some q.2) → (∀ q ∈ news, q.1 ≠ D) → R (.ok (.ret .none)) { s with heap := h', toks := tk' } := by
    intro D t' h' tk' vj led e kF kN same hl kk hf
    subst e
    exact hret D t' h' tk' kF (News.cons (kN _ (.head _)) (News.updF N U (kN _ (.tail _ hl)).1 (kept1 N sub kN (fun r hr h1 => .tail _ (same r hr h1)) kk))) hf
  walk_at "MINE more"
  k_steps
  refine' fin _ _ _ _ _ _ join1 ?e1 ?e2 ?e3 ?e4 ?e5 ?e6
  case e1 => assumption
  case e2 => assumption
  case e3 =>
    intro q hq hne
    simp only [List.mem_cons, List.not_mem_nil, or_false] at hq
    rcases hq with rfl | rfl | rfl
    · k_mem
    · k_mem
    · exact absurd rfl hne
  case e4 => k_mem
  case e5 => exact keepQ (by assumption) (by assumption)
  case e6 =>
    refine' fresh1 (by assumption) (by assumption) (List.Mem.head _) ?_
    k_all
end

end
section -- Sio2
theorem row58 : True := by (k_with_none; trivial)
theorem fill_t9 : (PySem.Challenge.rw_of0118_01.name = PySem.Challenge.rw_of0118_01.name) → (∀ P, KF P = KF P) := by
  k_fill
  intro _ _; rfl
theorem row59 : True := by ((k_with "MINE both" => ((k_dflt (refine' bothM ?k1 ?k2 ?k3 ?k4 ?k5 ?kA ?kF ?kK ?k6 ?k7 ?k8 ?kV ?kX ?kR' ?kM ?kN ?kD ?kR ?kP ?kP2 ?kT ?kB ?_ ?c2 ?c3 ?c4 ?c5; (case kA => exact rfl); (case kF => exact rfl); (case kK => first | assumption | exact rfl); (case k1 => k_asm); (case k2 => k_asm); (case k3 => k_asm); (case k4 => assumption); (case k5 => k_asm); (case k6 => k_is); (case k7 => k_is); (case k8 => ktr_room); (case kV => exact rfl); (case kX => kp_lit); (case kR' => exact rfl); (case kM => exact rfl); (case kN => exact rfl); (case kD => kp_flats); (case kR => exact rfl); (case kP => exact rfl); (case kP2 => exact fun _ => rfl); (case kT => exact fun _ _ => rfl); (case kB => exact fun _ _ => locs rfl); (case c5 => decide); (case c2 => exact rfl); (case c3 => exact rfl); (case c4 => exact rfl); k_whole; intro zkC' zkD' zkg' zkL' zkh' zktk' zkgk' zkFG' zkF' zkN' zkB' zkX' zkT'; (try dsimp only); (try k_lift zkB'); (try k_fold))))); trivial)
section
variable {w : World} {p : Program} {loose : List Str} {mean : ExcName → Option Value} {mg mb : Str → Option Value} {A₀ : Around} {dp un : Nat} {gd : Option (List Code)} {cn : Str} {cs : Scope} {ca : Addr} {ccd : Value} {cl : List (Str × Addr)} {outer : List Env} {base h₀ : Heap} {L : Addr} {m : Str → Option Value} {s : Shared} {news : List (Addr × Obj)} {R : Result → Shared → Prop} {Q E : Value → Shared → Prop}
theorem row60 : True := by ((k_with "call builtin:object.__new__" => ((k_here; k_dflt (refine wpAny_call ?_; refine' objnew752 ?F ?N ?X ?_; (case F => k_asm); (case N => k_asm); (case X => k_in)); intro zkx' zkdx' zkh' zkF' zkN' zkl1' zkl2'; (try dsimp only at zkN'); (try k_sweep)))); trivial)
theorem new245 {v : Value}
    (B : Below A₀ base outer h₀) (F : Fr h₀ L s.heap m) (X : (KF w.params).In h₀) (N : News h₀ L s.heap news) (T : Top p loose mean mg mb h₀) (hke : cs.kind = .function)
    (hd : dp + 14 < recursionLimit) (hu : un + 90 < cLine)
    (hret : ∀ x dx h' tk', Fr h₀ L h' m → News h₀ L h' ((x, instObj 752 dx) :: (dx, emptyDict) :: news) → (∀ q ∈ news, q.1 ≠ dx) → (∀ q ∈ news, q.1 ≠ x) → dx < x → R (.ok (.ret (.ref x))) { s with heap := h', toks := tk' }) :
    codeAny (model P0 w) (ktrTop dp un gd cn cs L ca ccd cl outer) (.call (.ref 245) ⟨[.ref 752, v], []⟩) R s := by
  w_on
  walk_at "MINE both"
  k_steps
  refine' hret _ _ _ _ ?e1 ?e2 (freshN (by assumption) (by assumption) (List.Mem.tail _ (List.Mem.head _))) (freshN (by assumption) (by assumption) (List.Mem.head _)) ?e3
  case e1 => assumption
  case e2 => exact News.cons ((by assumption : News h₀ L _ [_, _]) _ (.head _)) (News.cons ((by assumption : News h₀ L _ [_, _]) _ (.tail _ (.head _))) (keepN N (by assumption) (by assumption)))
  case e3 => assumption
theorem pkc_hasdict (P : Params) : peek (KF P) ⟨P0, P⟩ (specialOf (.ref 752) "__call__") = some (some (.builtin "type.__call__")) := by kernel_rfl
theorem pkc_mro (P : Params) : peek (KF P) ⟨P0, P⟩ (mroOf (.ref 752)) = some [.ref 752, .ref 275, .ref 248, .type "object"] := by kernel_rfl
theorem pkc_init (P : Params) : peek (KF P) ⟨P0, P⟩ (typeLookup (.ref 752) "__init__") = some (some (.ref 522)) := by kernel_rfl
theorem pkc_bind (P : Params) (v : Value) : peek (KF P) ⟨P0, P⟩ (bindSpecial (.ref 522) v) = some (.ref 522, [v]) := by kernel_rfl
theorem pkc_typ (P : Params) : peek (KF P) ⟨P0, P⟩ (isInstance (.ref 752) (.type "type")) = some true := by kernel_rfl
theorem under_make {C : Addr} {rest : List Value} : (ktrTop dp un gd cn cs L ca ccd cl outer).under (.builtin "type.__call__" ⟨.ref C :: rest, []⟩) = ktrTop (dp + 1) (un + 1) gd cn cs L ca ccd cl outer := rfl
theorem make752 {v : Value}
    (B : Below A₀ base outer h₀) (F : Fr h₀ L s.heap m) (X : (KF w.params).In h₀) (N : News h₀ L s.heap news) (T : Top p loose mean mg mb h₀) (hke : cs.kind = .function)
    (hd : dp + 16 < recursionLimit) (hu : un + 95 < cLine)
    (h : ∀ x dx h' tk', Fr h₀ L h' m → News h₀ L h' ((x, instObj 752 dx) :: (dx, emptyDict) :: news) → (∀ q ∈ news, q.1 ≠ dx) → (∀ q ∈ news, q.1 ≠ x) → dx < x →
      codeAny (model P0 w) (ktrTop (dp + 1) (un + 1) gd cn cs L ca ccd cl outer) (.call (.ref 522) ⟨[.ref x, v], []⟩) (InitBack x R) { s with heap := h', toks := tk' }) :
    codeAny (model P0 w) (ktrTop dp un gd cn cs L ca ccd cl outer) (.call (.ref 752) ⟨[v], []⟩) R s := by
  w_on
  have Xs := X.keeps F.keep
  have hC : s.heap.get? 752 = some (o752 w.params) := Xs _ _ (by k_is)
  have call := looksP Xs pkc_hasdict
  have typ := looksP Xs pkc_typ
  have hm := looksP Xs pkc_mro
  have hmade := looksP Xs pk_none
  refine codeAny_of_tree ?_
  show wpAny _ _ (callAny (.ref 752) _) _ _ _
  refine nd_load hC ?_
  show wpAny _ _ (callAny.viaDunder (.ref 752) _) _ _ _
  unfold callAny.viaDunder
  refine wpAny_bind (call.at ?_)
  dsimp only
  rw [tc_bind]
  refine wpAny_bind (wpAny_pure (wpAny_bind (wpAny_pure ?_)))
  refine wpAny_pure (a := Fin.again (.call (.builtin "type.__call__") ⟨.ref 752 :: [v], []⟩)) (And.intro rfl ?_)
  refine codeAny_call_builtin_at (Code.quiet_builtin _ (by decide +kernel)) entry_typeCall (check_slot tc_kind tc_split typ (tc_args _ _ _) ?_)
  rw [under_make]
  unfold Builtin.«type.__call__»
  show wpAny _ _ (mroOf (.ref 752) >>= _) _ _ _
  refine wpAny_bind (hm.at ?_)
  show wpAny _ _ (Bind.madeBy (.ref 752) >>= _) _ _ _
  refine wpAny_bind (hmade.at ?_)
  show wpAny _ _ (getAttr (.ref 752) (Str.ofString "__new__") >>= _) _ _ _
  refine wpAny_bind ?_
  refine' cls_sm (mc := .type "type") (p := 249) (f := .ref 245) (rest := []) F X ?a1 ?a2 ?a3 ?a4 ?a5 ?_
  case a1 => k_is
  case a2 => k_is
  case a3 => k_is
  case a4 => k_is
  case a5 => exact rfl
  refine wpAny_bind (wpAny_holding (wpAny_call ?_))
  refine new245 (s := { s with toks := s.toks + 1 }) B F X N T hke (by omega) (by omega) ?_
  intro x dx h' tk' F' N' f1 f2 l
  have X' := X.keeps F'.keep
  have hx := (N' _ (.head _)).1
  have t1 : Looks (model P0 w) h' (typeOf (.ref x)) (.ref 752) := (Looks.ld hx).andThen .now
  have s1 := looksP X' pk_sub
  have i1 := looksP X' pkc_init
  have b1 := looksP X' (pkc_bind · (.ref x))
  unfold isInstance
  refine wpAny_bind (wpAny_bind (t1.at (s1.at ?_)))
  show wpAny _ _ (holding [.ref x] (callSpecial? (.ref x) "__init__" [v]) >>= _) _ _ _
  refine wpAny_bind (wpAny_holding ?_)
  unfold callSpecial? specialOf
  refine wpAny_bind (wpAny_bind (t1.at (i1.at ?_)))
  refine wpAny_holding (wpAny_bind (b1.at (wpAny_bind (wpAny_call ?_))))
  refine codeAny_mono (h x dx h' tk' F' N' f1 f2 l) fun r s' z => ?_
  rcases r with e | (v | _ | _ | _) <;> first | exact z | exact z.elim | skip
  obtain ⟨rfl, z⟩ := z
  exact wpAny_pure (wpAny_pure z)
end

end
section -- Sio3
theorem row61 : True := by (k_with_none; trivial)
theorem row62 : True := by ((k_with "MINE enter" => ((k_dflt (refine' enterM ?k1 ?k2 ?k3 ?k4 ?k5 ?kA ?kF ?kK ?k6 ?k7 ?k8 ?k9 ?kB ?_ ?c2 ?c3 ?c4 ?c5; (case kA => first | assumption | exact rfl); (case kF => first | assumption | exact rfl); (case kK => first | assumption | exact rfl); (case k1 => k_asm); (case k2 => k_asm); (case k3 => k_asm); (case k4 => k_asm); (case k5 => k_asm); (case k6 => k_is); (case k7 => k_is); (case k8 => ktr_room); (case k9 => first | exact BindsTo.of_eq rfl | exact binds_K (by k_in) rfl (by k_is) rfl rfl rfl | exact kp_binds (by k_in) (fun _ => rfl) | fail "k_enter: no rule for these arguments"); (case c5 => decide); (case kB => exact locs rfl); (case c2 => exact rfl); (case c3 => exact rfl); (case c4 => exact rfl); k_whole; intro zkg' zkL' zkh' zkgk' zkFG' zkF' zkN' zkB' zkX' zkT' zkl1; (try k_lt zkl1); (try dsimp only); (try k_lift zkB'); (try k_fold))))); trivial)
theorem fill_s3 : (PySem.Challenge.rw_of0118_01.name = PySem.Challenge.rw_of0118_01.name) → (∀ P, KF P = KF P) := by
  k_fill
  intro _ _; rfl
theorem row63 : True := by ((k_with "ite" => ((k_closed; k_dflt (first | refine W.ite_pos (by decide +kernel) ?_ | refine W.ite_neg (by decide +kernel) ?_)))); trivial)
section
variable {w : World} {p : Program} {loose : List Str} {mean : ExcName → Option Value} {mg mb : Str → Option Value} {A₀ : Around} {dp un : Nat} {gd : Option (List Code)} {cn : Str} {cs : Scope} {ca : Addr} {ccd : Value} {cl : List (Str × Addr)} {outer : List Env} {base h₀ : Heap} {L : Addr} {m : Str → Option Value} {s : Shared} {news : List (Addr × Obj)} {R : Result → Shared → Prop} {Q E : Value → Shared → Prop}
theorem init522 {x dx : Addr} {v : Str} {t : Tok}
    (B : Below A₀ base outer h₀) (F : Fr h₀ L s.heap m) (X : (KF w.params).In h₀) (N : News h₀ L s.heap ((x, instObj 752 dx) :: (dx, emptyDict) :: news)) (T : Top p loose mean mg mb h₀) (hke : cs.kind = .function)
    (hne : @Ne Nat dx x) (f1 : ∀ q ∈ news, q.1 ≠ dx) (f2 : ∀ q ∈ news, q.1 ≠ x)
    (hd : dp + 8 < recursionLimit) (hu : un + 60 < cLine) (hvl : v.length < 1000) 
    (hret : ∀ h' tk' nl t1 t2 t3 t4, Fr h₀ L h' m → News h₀ L h' ((x, instObj 752 dx) :: (dx, ioD w.params nl (.str v t) (.int 0 t4) t1 t2 t3) :: news) → R (.ok (.ret .none)) { s with heap := h', toks := tk' }) :
    codeAny (model P0 w) (ktrTop dp un gd cn cs L ca ccd cl outer) (.call (.ref 522) ⟨[.ref x, .str v t], []⟩) R s := by
  w_on
  have Nm : News h₀ L s.heap [(x, instObj 752 dx), (dx, emptyDict)] := fun q hq => by
    simp only [List.mem_cons, List.not_mem_nil, or_false] at hq
    rcases hq with rfl | rfl
    · exact N _ (.head _)
    · exact N _ (.tail _ (.head _))
  walk_at "MINE enter"
  k_steps
  refine' hret _ _ _ _ _ _ _ ?e1 (News.backP (pre := [(x, instObj 752 dx), (dx, emptyDict)]) (pre' := [_, _]) (fun q hq => N q (.tail _ (.tail _ hq))) ?e2 ?e3 (keep_thru (by assumption) (by assumption)))
  case e1 => assumption
  case e2 => assumption
  case e3 =>
    intro q hq r hr
    simp only [List.mem_cons, List.not_mem_nil, or_false] at hr
    rcases hr with rfl | rfl
    · exact Ne.symm (f2 q hq)
    · exact Ne.symm (f1 q hq)
theorem sio_make {v : Str} {t : Tok}
    (B : Below A₀ base outer h₀) (F : Fr h₀ L s.heap m) (X : (KF w.params).In h₀) (N : News h₀ L s.heap news) (T : Top p loose mean mg mb h₀) (hke : cs.kind = .function)
    (hd : dp + 16 < recursionLimit) (hu : un + 95 < cLine) (hvl : v.length < 1000) 
    (hret : ∀ x dx h' tk' nl t1 t2 t3 t4, Fr h₀ L h' m → News h₀ L h' ((x, instObj 752 dx) :: (dx, ioD w.params nl (.str v t) (.int 0 t4) t1 t2 t3) :: news) → (∀ q ∈ news, q.1 ≠ dx) → (∀ q ∈ news, q.1 ≠ x) → @Ne Nat dx x → R (.ok (.ret (.ref x))) { s with heap := h', toks := tk' }) :
    codeAny (model P0 w) (ktrTop dp un gd cn cs L ca ccd cl outer) (.call (.ref 752) ⟨[.str v t], []⟩) R s := by
  refine make752 B F X N T hke hd hu ?_
  intro x dx h' tk' F' N' f1 f2 l
  refine init522 (s := { s with heap := h', toks := tk' }) B F' X N' T hke (Nat.ne_of_lt l) f1 f2 (by omega) (by omega) hvl ?_
  intro h'' tk'' nl t1 t2 t3 t4 F'' N''
  exact ⟨rfl, hret x dx h'' tk'' nl t1 t2 t3 t4 F'' N'' f1 f2 (Nat.ne_of_lt l)⟩
end

end
section -- Shx
theorem row64 : True := by (k_with_none; trivial)
theorem row65 : True := by ((k_with "MINE enter" => ((k_dflt (refine' enterM ?k1 ?k2 ?k3 ?k4 ?k5 ?kA ?kF ?kK ?k6 ?k7 ?k8 ?k9 ?kB ?_ ?c2 ?c3 ?c4 ?c5; (case kA => first | assumption | exact rfl); (case kF => first | assumption | exact rfl); (case kK => first | assumption | exact rfl); (case k1 => k_asm); (case k2 => k_asm); (case k3 => k_asm); (case k4 => k_asm); (case k5 => k_asm); (case k6 => k_is); (case k7 => k_is); (case k8 => ktr_room); (case k9 => first | exact BindsTo.of_eq rfl | exact binds_K (by k_in) rfl (by k_is) rfl rfl rfl | exact kp_binds (by k_in) (fun _ => rfl) | fail "k_enter: no rule for these arguments"); (case c5 => decide); (case kB => exact locs rfl); (case c2 => exact rfl); (case c3 => exact rfl); (case c4 => exact rfl); k_whole; intro zkg' zkL' zkh' zkgk' zkFG' zkF' zkN' zkB' zkX' zkT' zkl1; (try k_lt zkl1); (try dsimp only); (try k_lift zkB'); (try k_fold))))); trivial)
theorem fill_s4 : (PySem.Challenge.rw_of0118_01.name = PySem.Challenge.rw_of0118_01.name) → (∀ P, KF P = KF P) := by
  k_fill
  intro _ _; rfl
theorem row66 : True := by ((k_with "ite" => ((k_closed; k_dflt (first | refine W.ite_pos (by decide +kernel) ?_ | refine W.ite_neg (by decide +kernel) ?_)))); trivial)
section
variable {w : World} {p : Program} {loose : List Str} {mean : ExcName → Option Value} {mg mb : Str → Option Value} {A₀ : Around} {dp un : Nat} {gd : Option (List Code)} {cn : Str} {cs : Scope} {ca : Addr} {ccd : Value} {cl : List (Str × Addr)} {outer : List Env} {base h₀ : Heap} {L : Addr} {m : Str → Option Value} {s : Shared} {news : List (Addr × Obj)} {R : Result → Shared → Prop} {Q E : Value → Shared → Prop}
theorem dqK {A : Around} (F : Fr h₀ L s.heap m) (N : News h₀ L s.heap news)
    (h : ∀ D vs h', vs.size = 2 → Fr h₀ L h' m → News h₀ L h' ((D, dqO vs) :: news) → (∀ p ∈ news, p.1 < D) → Q (.ref D) { s with heap := h' }) :
    wpAny (model P0 w) A (call (.type "collections.deque") []) Q E s := by
  refine dq_new fun h' vs k e hs => ?_
  have N' := News.stay N k
  exact h _ vs h' hs (Fr.stay F k) (News.fresh' F N' (by
    cases q : s.heap.get? s.heap.objs.size with
    | none => rfl
    | some o => exact absurd (Heap.lt_size q) (Nat.lt_irrefl _)) e) fun p hp => Heap.lt_size (N p hp).1
noncomputable abbrev lexE (P : Params) (k0 k1 k2 k3 k4 k5 k6 k7 k8 k9 k10 k11 k12 k13 k14 k15 k16 k17 k18 v4 v5 v6 v8 v9 v10 v11 v13 v14 v15 v18 : Tok) (wsp : Bool) (cm : Str) (y pb fs : Addr) : Obj := dictOf [ent P "instream" k0 (.ref y), ent P "infile" k1 .none, ent P "posix" k2 (.bool true), ent P "eof" k3 .none, ent P "commenters" k4 (.str cm v4), ent P "wordchars" k5 (.str (Str.ofString "abcdfeghijklmnopqrstuvwxyzABCDEFGHIJKLMNOPQRSTUVWXYZ0123456789_ßàáâãäåæçèéêëìíîïðñòóôõöøùúûüýþÿÀÁÂÃÄÅÆÇÈÉÊËÌÍÎÏÐÑÒÓÔÕÖØÙÚÛÜÝÞ") v5), ent P "whitespace" k6 (.str (Str.ofString " \t\r\n") v6), ent P "whitespace_split" k7 (.bool wsp), ent P "quotes" k8 (.str (Str.ofString "'\"") v8), ent P "escape" k9 (.str (Str.ofString "\\") v9), ent P "escapedquotes" k10 (.str (Str.ofString "\"") v10), ent P "state" k11 (.str (Str.ofString " ") v11), ent P "pushback" k12 (.ref pb), ent P "lineno" k13 (.int 1 v13), ent P "debug" k14 (.int 0 v14), ent P "token" k15 (.str (Str.ofString "") v15), ent P "filestack" k16 (.ref fs), ent P "source" k17 .none, ent P "_punctuation_chars" k18 (.str (Str.ofString "") v18)] 19
noncomputable def tkOf (l : List Tok) (i : Nat) : Tok := l.getD i 0
theorem wc_eq : Str.ofString "abcdfeghijklmnopqrstuvwxyzABCDEFGHIJKLMNOPQRSTUVWXYZ0123456789_ßàáâãäåæçèéêëìíîïðñòóôõöøùúûüýþÿÀÁÂÃÄÅÆÇÈÉÊËÌÍÎÏÐÑÒÓÔÕÖØÙÚÛÜÝÞ" = WC := by decide +kernel
theorem lexE_D {P : Params} {k0 k1 k2 k3 k4 k5 k6 k7 k8 k9 k10 k11 k12 k13 k14 k15 k16 k17 k18 v4 v5 v6 v8 v9 v10 v11 v13 v14 v15 v18 : Tok} {y pb fs : Addr} : lexE P k0 k1 k2 k3 k4 k5 k6 k7 k8 k9 k10 k11 k12 k13 k14 k15 k16 k17 k18 v4 v5 v6 v8 v9 v10 v11 v13 v14 v15 v18 true (Str.ofString "") y pb fs = lexD P (tkOf [k0, k1, k2, k3, k4, k5, k6, k7, k8, k9, k10, k11, k12, k13, k14, k15, k16, k17, k18]) (tkOf [0, 0, 0, 0, v4, v5, v6, 0, v8, v9, v10, v11, 0, v13, v14, v15, 0, 0, v18]) y pb fs (.str (Str.ofString " ") v11) (.str (Str.ofString "") v15) := by
  unfold lexE lexD
  rw [wc_eq]
  rfl
theorem row67 : True := by ((k_with "call ref" => ((k_here; (k_dflt show wpAny _ _ (call (Value.ref 752) [Value.str _ _]) _ _ _); k_dflt (refine wpAny_call ?_; refine' sio_make ?r1 ?r2 ?r3 ?r4 ?r5 ?r6 ?r7 ?r8 ?r9 ?_; (case r1 => k_asm); (case r2 => k_asm); (case r3 => k_asm); (case r4 => k_asm); (case r5 => k_asm); (case r6 => exact rfl); (case r7 => ktr_room); (case r8 => ktr_units); (case r9 => assumption); k_whole); intro zky' zkdy' zkh' zktk' zknl' zkt1' zkt2' zkt3' zkt4' zkF' zkN' zkf1' zkf2' zkne'; (replace zkf1' := allNe_of zkf1'); (replace zkf2' := allNe_of zkf2'); (simp only [AllNe, and_true] at zkf1' zkf2'); (replace zkne' := neN zkne'); (try dsimp only at zkN'); (try k_sweep)))); trivial)
theorem row68 : True := by ((k_with "call type:collections.deque" => ((k_here; k_dflt (refine' dqK ?F ?N ?_; (case F => k_asm); (case N => k_asm)); intro zkD' zkvs' zkh' zkhv' zkF' zkN' zkl1; k_lt zkl1; (try k_sweep)))); trivial)
theorem init811 {x dx : Addr} {v : Str} {t : Tok}
    (B : Below A₀ base outer h₀) (F : Fr h₀ L s.heap m) (X : (KF w.params).In h₀) (N : News h₀ L s.heap ((x, instObj 887 dx) :: (dx, emptyDict) :: news)) (T : Top p loose mean mg mb h₀) (hke : cs.kind = .function)
    (hne : @Ne Nat dx x) (f1 : ∀ q ∈ news, q.1 ≠ dx) (f2 : ∀ q ∈ news, q.1 ≠ x)
    (hd : dp + 28 < recursionLimit) (hu : un + 160 < cLine) (hvl : v.length < 1000)
    (hret : ∀ h' tk' y dy pb fs nl t1 t2 t3 t4 v1 v2 k0 k1 k2 k3 k4 k5 k6 k7 k8 k9 k10 k11 k12 k13 k14 k15 k16 k17 k18 v4 v5 v6 v8 v9 v10 v11 v13 v14 v15 v18, Fr h₀ L h' m → News h₀ L h' ((fs, dqO v2) :: (pb, dqO v1) :: (y, instObj 752 dy) :: (dy, ioD w.params nl (.str v t) (.int 0 t4) t1 t2 t3) :: (x, instObj 887 dx) :: (dx, lexE w.params k0 k1 k2 k3 k4 k5 k6 k7 k8 k9 k10 k11 k12 k13 k14 k15 k16 k17 k18 v4 v5 v6 v8 v9 v10 v11 v13 v14 v15 v18 false (Str.ofString "#") y pb fs) :: news) → v1.size = 2 → v2.size = 2 →
      @Ne Nat x y → @Ne Nat x dy → @Ne Nat dx y → @Ne Nat dx dy → @Ne Nat y dy → @Ne Nat pb dx → @Ne Nat pb dy → @Ne Nat fs dx → @Ne Nat fs dy → R (.ok (.ret .none)) { s with heap := h', toks := tk' }) :
    codeAny (model P0 w) (ktrTop dp un gd cn cs L ca ccd cl outer) (.call (.ref 811) ⟨[.ref x, .str v t], [(Str.ofString "posix", .bool true)]⟩) R s := by
  w_on
  have Nm : News h₀ L s.heap [(x, instObj 887 dx), (dx, emptyDict)] := fun q hq => by
    simp only [List.mem_cons, List.not_mem_nil, or_false] at hq
    rcases hq with rfl | rfl
    · exact N _ (.head _)
    · exact N _ (.tail _ (.head _))
  walk_at "MINE enter"
  k_steps
  refine' hret _ _ _ _ _ _ _ _ _ _ _ _ _ _ _ _ _ _ _ _ _ _ _ _ _ _ _ _ _ _ _ _ _ _ _ _ _ _ _ _ _ _ _ ?e1 (News.backP (pre := [(x, instObj 887 dx), (dx, emptyDict)]) (pre' := [_, _, _, _, _, _]) (fun q hq => N q (.tail _ (.tail _ hq))) ?e2 ?e3 (keep_thru (by assumption) (by assumption))) ?s1 ?s2 ?n1 ?n2 ?n3 ?n4 ?n5 ?n6 ?n7 ?n8 ?n9
  case e1 => assumption
  case e2 => assumption
  case e3 =>
    intro q hq r hr
    simp only [List.mem_cons, List.not_mem_nil, or_false] at hr
    rcases hr with rfl | rfl
    · exact Ne.symm (f2 q hq)
    · exact Ne.symm (f1 q hq)
  case s1 => assumption
  case s2 => assumption
  all_goals omega
end

end
section -- Base3
section
variable {prog : Program} {w : World} {A₀ A : Around} {s : Shared} {base h₀ g₀ : Heap} {outer : List Env} {L a : Addr} {m : Str → Option Value} {mtl news : List (Addr × Obj)} {K : Frag} {p : Program} {loose : List Str} {mean : ExcName → Option Value} {mg mb : Str → Option Value} {env : Env}
    {R : Result → Shared → Prop} {name qual : Str} {params : Arguments} {body : List Stmt} {scope : Scope} {dV kV doc pm cdv ct oc : Value} {an od : Option Addr} {osl : Array (Option Value)} {f : Addr} {args : Args} {binds : List (Str × Value)}
theorem memX (hf : env.frame = some L) {b : Addr} (hb : b ∈ (env :: outer).filterMap (·.frame)) : b = L ∨ b ∈ outer.filterMap (·.frame) := by
  rw [List.filterMap_cons_some hf] at hb
  rcases List.mem_cons.mp hb with z | z
  · exact .inl z
  · exact .inr z
theorem enterS (B : Below A₀ base outer h₀) (F : Fr h₀ L s.heap m) (X₀ : K.In h₀) (N : News h₀ L s.heap mtl) (T : Top p loose mean mg mb h₀) (XB : K.In base) (TB : Top p loose mean mg mb base) (D : KtsDicts (outer.filterMap (·.frame)) h₀)
    (hA : A.frames = some (env :: outer)) (hf : env.frame = some L) (hke : env.scope.kind = .function)
    (ho : K.lookup f = some ⟨oc, od, .func (fnOf name qual params body scope dV kV doc pm an cdv ct), osl⟩) (hcd : codeIn K cdv qual = true) (hroom : A.depth < recursionLimit)
    (hbind : BindsTo s (fnOf name qual params body scope dV kV doc pm an cdv ct) args binds) (hloc : ∀ y ∈ binds, scope.names.lookup y.1 = some .local)
    (h : ∀ g L' h₁, (∀ b o, s.heap.get? b = some o → (∀ p ∈ mtl, p.1 ≠ b) → g.get? b = some o) → Fr h₀ L g m → Fr g L' h₁ (fun y => binds.reverse.lookup y) → News g L' h₁ mtl → Below A base (env :: outer) g → K.In g → Top p loose mean mg mb g → KtsDicts ((env :: outer).filterMap (·.frame)) g → (∀ p ∈ mtl, p.1 < L') →
      wpAny (model prog w) (A.deeper (envOf qual scope L' f cdv)) (execs body (envOf qual scope L' f cdv))
        (fun fl s' => LeaveS ((env :: outer).filterMap (·.frame)) A₀ base outer K p loose mean mg mb h₀ h₀ L m g R (match fl with | .ret v => v | _ => .none) s')
        (fun e s' => wpAny (model prog w) (A.deeper (envOf qual scope L' f cdv)) (leaving (envOf qual scope L' f cdv) e) (fun _ s'' => R (.error e) s'') (fun e' s'' => R (.error e') s'') s')
        { s with heap := h₁, toks := s.toks + binds.length })
    (hco : scope.isCoroutine = false) (hgen : scope.isGenerator = false) (hk : scope.kind = .function)
    (hcell : ∀ x ∈ scope.names, x.2 ≠ .cell) : codeAny (model prog w) A (.call (.ref f) args) R s := by
  have X := X₀.keeps F.keep
  obtain ⟨FG, BG, st, lv⟩ := groundX (R := R) B F N hA hf hke
  have gk : ∀ b o, s.heap.get? b = some o → (∀ p ∈ mtl, p.1 ≠ b) → (hideAll s.heap (mtl.map (·.1))).get? b = some o := fun b o e q => hideAll_get _ e fun hb => by
    obtain ⟨p, hp, rfl⟩ := List.mem_map.mp hb
    exact q p hp rfl
  obtain ⟨oL, es, ep, hLg, hLd, hLk, hLf⟩ := FG.ns
  refine codeAny_call_def (fd := fnOf name qual params body scope dV kV doc pm an cdv ct) (body := body) (binds := binds) hroom (X _ _ ho) rfl (T.nolimit.keeps F.keep) (codeRec_of X hcd) rfl hbind hcell hloc (fun h₁ hns hk₁ => ?_) hco hgen hk
  refine wpAny_mono (h _ s.heap.objs.size h₁ gk FG ⟨hns, fun b o e => hk₁ b o (of_hideAll _ e), Nat.le_of_eq (hideAll_size _ _)⟩
    (fun p hp => ⟨hk₁ _ _ (N p hp).1, Nat.ne_of_lt (Heap.lt_size (N p hp).1), hideAll_none _ (List.mem_map_of_mem hp)⟩) BG (X₀.keeps st) (T.keeps st) (fun b hb => by
      rcases memX hf hb with rfl | hb
      · exact ⟨oL, es, ep, hLg, hLd⟩
      · obtain ⟨o, es', n', ho', hd'⟩ := D b hb
        exact ⟨o, es', n', st b o ho', hd'⟩) (fun p hp => Heap.lt_size (N p hp).1)) (fun fl s' hl => ?_) fun _ _ y => y
  have nL₀ : h₀.get? L = none := kts_self F
  rcases hl with ⟨L', m', news', F', N', k⟩ | ⟨g', L', m', news', T', F', N', k⟩
  · refine k ⟨⟨oL, es, ep, F'.keep _ _ hLg, hLd, hLk, hLf⟩, fun b o e => F'.keep b o (st b o e), F.above⟩ fun p hp => ⟨(N' p hp).1, fun q => ?_, ?_⟩
    · have := (N' p hp).2.2; rw [q, hLg] at this; cases this
    · cases q : h₀.get? p.1 with
      | none => rfl
      | some o => have := (N' p hp).2.2; rw [st _ _ q] at this; cases this
  obtain ⟨sl, hs⟩ := T'.up hLg
  obtain ⟨T₁, S₁⟩ := kts_turn_at (h := s'.heap) (fs := outer.filterMap (·.frame)) (g := h₀)
    (fun b hb => by
      obtain ⟨_, o, ho', _⟩ := B.frames.mem hb
      exact ⟨o, ho'⟩)
    (fun b o e nmem => F'.keep b o (T'.other b o (st b o e) (fun q => by
      rcases memX hf q with z | z
      · rw [z, nL₀] at e
        cases e
      · exact nmem z)))
    (fun b o e hm => by
      obtain ⟨sl', hs'⟩ := T'.up (st b o e)
      exact ⟨sl', F'.keep _ _ hs'⟩)
  have B₃ : Below A₀ base outer (ktsHeap s'.heap (outer.filterMap (·.frame)) h₀) := ⟨B.stack, fun b o e => T₁.other b o (B.stays b o e) (fun hm => by
    rw [(B.frames.mem hm).1] at e
    cases e), B.frames.of_keeps fun b o e _ => by
    obtain ⟨sl', hs'⟩ := T₁.up e
    exact ⟨_, hs', rfl⟩⟩
  refine k _ (KtsTurn.refl.trans T₁) ⟨⟨_, es, ep, F'.keep _ _ hs, hLd, hLk, hLf⟩, S₁, by rw [T₁.size]; exact F.above⟩ (fun p hp => ⟨(N' p hp).1, fun q => ?_, ?_⟩) B₃ (XB.keeps B₃.stays) (TB.keeps B₃.stays) (D.turn T₁)
  · have := (N' p hp).2.2; rw [q, hs] at this; cases this
  · refine T₁.none_ _ ?_
    cases q : h₀.get? p.1 with
    | none => rfl
    | some o =>
      obtain ⟨sl', hs'⟩ := T'.up (st _ _ q)
      have := (N' p hp).2.2
      rw [hs'] at this
      cases this
/-- what stood in the heap ahead of the call, no frame and no entry of the small ledger, stands behind it -/
theorem keep_turn {g g' h h' : Heap} {L' : Addr} {m' : Str → Option Value} {fs : List Addr} (gk : ∀ b o, h.get? b = some o → (∀ p ∈ mtl, p.1 ≠ b) → g.get? b = some o) (T : KtsTurn fs g g') (F' : Fr g' L' h' m') :
    ∀ b o, h.get? b = some o → (∀ p ∈ mtl, p.1 ≠ b) → b ∉ fs → h'.get? b = some o := fun b o e q n => F'.keep b o (T.other b o (gk b o e q) n)
theorem News.backT {h h' h₀' : Heap} {pre pre' : List (Addr × Obj)} (B : Below A₀ base outer h₀) (hf : env.frame = some L) (T : KtsTurn (outer.filterMap (·.frame)) h₀ h₀') (N : News h₀ L h news) (kN : News h₀' L h' pre') (hne : ∀ q ∈ news, ∀ p ∈ pre, p.1 ≠ q.1)
    (kk : ∀ b o, h.get? b = some o → (∀ p ∈ pre, p.1 ≠ b) → b ∉ (env :: outer).filterMap (·.frame) → h'.get? b = some o) : News h₀' L h' (pre' ++ news) := fun q hq => by
  rcases List.mem_append.mp hq with hq | hq
  · exact kN q hq
  · refine ⟨kk _ _ (N q hq).1 (hne q hq) (fun hm => ?_), (N q hq).2.1, T.none_ _ (N q hq).2.2⟩
    rcases memX hf hm with z | z
    · exact (N q hq).2.1 z
    · obtain ⟨_, o, ho, _⟩ := B.frames.mem z
      rw [(N q hq).2.2] at ho; cases ho
theorem freshT {g g' h h' : Heap} {S L' : Addr} {o : Obj} {led : List (Addr × Obj)} (B : Below A₀ base outer h₀) (hf : env.frame = some L) (N : News h₀ L h news) (gk : ∀ b o, h.get? b = some o → (∀ p ∈ mtl, p.1 ≠ b) → g.get? b = some o)
    (T : KtsTurn ((env :: outer).filterMap (·.frame)) g g') (N' : News g' L' h' led) (hS : (S, o) ∈ led) (hm : ∀ q ∈ news, ∀ p ∈ mtl, p.1 ≠ q.1) : ∀ q ∈ news, q.1 ≠ S := fun q hq e => by
  have z := T.other _ _ (gk _ _ (N q hq).1 (hm q hq)) (fun hm => by
    rcases memX hf hm with z | z
    · exact (N q hq).2.1 z
    · obtain ⟨_, o, ho, _⟩ := B.frames.mem z
      rw [(N q hq).2.2] at ho; cases ho)
  rw [e, (N' _ hS).2.2] at z
  cases z
theorem keptT {g g' h h' h₀' : Heap} {L' : Addr} {m' : Str → Option Value} {pre' : List (Addr × Obj)} (B : Below A₀ base outer h₀) (hf : env.frame = some L) (T : KtsTurn (outer.filterMap (·.frame)) h₀ h₀') (N : News h₀ L h news) (sub : ∀ r ∈ mtl, r ∈ news) (kM : ∀ r ∈ mtl, h'.get? r.1 = some r.2) (kN : News h₀' L h' pre')
    (gk : ∀ b o, h.get? b = some o → (∀ p ∈ mtl, p.1 ≠ b) → g.get? b = some o) (TT : KtsTurn ((env :: outer).filterMap (·.frame)) g g') (F' : Fr g' L' h' m') : News h₀' L h' (pre' ++ news) := fun q hq => by
  rcases List.mem_append.mp hq with hq | hq
  · exact kN q hq
  · refine ⟨?_, (N q hq).2.1, T.none_ _ (N q hq).2.2⟩
    by_cases hx : ∃ r ∈ mtl, r.1 = q.1
    · obtain ⟨r, hr, e⟩ := hx
      have z := (N _ (sub r hr)).1
      rw [e, (N _ hq).1] at z
      rw [← e, kM r hr, Option.some.inj z]
    · refine keep_turn gk TT F' _ _ (N q hq).1 (fun r hr e => hx ⟨r, hr, e⟩) (fun hm => ?_)
      rcases memX hf hm with z | z
      · exact (N q hq).2.1 z
      · obtain ⟨_, o, ho, _⟩ := B.frames.mem z
        rw [(N q hq).2.2] at ho; cases ho
theorem freshT2 {g g' h h' : Heap} {S L' : Addr} {o : Obj} {led : List (Addr × Obj)} (B : Below A₀ base outer h₀) (hf : env.frame = some L) (N : News h₀ L h news) (gk : ∀ b o, h.get? b = some o → (∀ p ∈ mtl, p.1 ≠ b) → g.get? b = some o)
    (T : KtsTurn ((env :: outer).filterMap (·.frame)) g g') (N' : News g' L' h' led) (hS : (S, o) ∈ led) (hm : ∀ p ∈ mtl, p.1 ≠ S) : ∀ q ∈ news, q.1 ≠ S := fun q hq e => by
  by_cases hx : ∃ r ∈ mtl, r.1 = q.1
  · obtain ⟨r, hr, e'⟩ := hx
    exact hm r hr (e'.trans e)
  · have z := T.other _ _ (gk _ _ (N q hq).1 (fun r hr e => hx ⟨r, hr, e⟩)) (fun hm => by
      rcases memX hf hm with z | z
      · exact (N q hq).2.1 z
      · obtain ⟨_, o, ho, _⟩ := B.frames.mem z
        rw [(N q hq).2.2] at ho; cases ho)
    rw [e, (N' _ hS).2.2] at z
    cases z
end

end
section -- Spl
theorem row69 : True := by (k_with_none; trivial)
theorem row70 : True := by ((k_with "MINE enterS" => ((k_dflt (refine' enterS ?k1 ?k2 ?k3 ?k4 ?k5 ?XB ?TB ?kD ?kA ?kF ?kK ?k6 ?k7 ?k8 ?k9 ?kB ?_ ?c2 ?c3 ?c4 ?c5; (case kA => first | assumption | exact rfl); (case kF => first | assumption | exact rfl); (case kK => first | assumption | exact rfl); (case k1 => k_asm); (case k2 => k_asm); (case k3 => assumption); (case k4 => k_asm); (case k5 => assumption); (case XB => assumption); (case TB => assumption); (case kD => assumption); (case k6 => k_is); (case k7 => k_is); (case k8 => ktr_room); (case k9 => first | exact BindsTo.of_eq rfl | exact binds_K (by k_in) rfl (by k_is) rfl rfl rfl | exact kp_binds (by k_in) (fun _ => rfl) | fail "k_enter: no rule for these arguments"); (case c5 => decide); (case kB => exact locs rfl); (case c2 => exact rfl); (case c3 => exact rfl); (case c4 => exact rfl); k_whole; intro zkg' zkL' zkh' zkgk' zkFG' zkF' zkN' zkB' zkX' zkT' zkD' zkl1; (try k_lt zkl1); (try dsimp only); (try k_lift zkB'); (try k_fold))))); trivial)
theorem fill_sp : (PySem.Challenge.rw_of0118_01.name = PySem.Challenge.rw_of0118_01.name) → (∀ P, KF P = KF P) := by
  k_fill
  intro _ _; rfl
section
variable {w : World} {p : Program} {loose : List Str} {mean : ExcName → Option Value} {mg mb : Str → Option Value} {A₀ : Around} {dp un : Nat} {gd : Option (List Code)} {cn : Str} {cs : Scope} {ca : Addr} {ccd : Value} {cl : List (Str × Addr)} {outer : List Env} {base h₀ : Heap} {L : Addr} {m : Str → Option Value} {s : Shared} {news : List (Addr × Obj)} {R : Result → Shared → Prop} {Q E : Value → Shared → Prop}
theorem lex_make {v : Str} {t : Tok}
    (B : Below A₀ base outer h₀) (F : Fr h₀ L s.heap m) (X : (KF w.params).In h₀) (N : News h₀ L s.heap []) (T : Top p loose mean mg mb h₀) (hke : cs.kind = .function)
    (hd : dp + 30 < recursionLimit) (hu : un + 170 < cLine) (hvl : v.length < 1000)
    (hret : ∀ x dx h' tk' y dy pb fs nl t1 t2 t3 t4 v1 v2 k0 k1 k2 k3 k4 k5 k6 k7 k8 k9 k10 k11 k12 k13 k14 k15 k16 k17 k18 v4 v5 v6 v8 v9 v10 v11 v13 v14 v15 v18, Fr h₀ L h' m → News h₀ L h' [(fs, dqO v2), (pb, dqO v1), (y, instObj 752 dy), (dy, ioD w.params nl (.str v t) (.int 0 t4) t1 t2 t3), (x, instObj 887 dx), (dx, lexE w.params k0 k1 k2 k3 k4 k5 k6 k7 k8 k9 k10 k11 k12 k13 k14 k15 k16 k17 k18 v4 v5 v6 v8 v9 v10 v11 v13 v14 v15 v18 false (Str.ofString "#") y pb fs)] → v1.size = 2 → v2.size = 2 →
      @Ne Nat x dx → @Ne Nat x y → @Ne Nat x dy → @Ne Nat dx y → @Ne Nat dx dy → @Ne Nat y dy → @Ne Nat pb dx → @Ne Nat pb dy → @Ne Nat fs dx → @Ne Nat fs dy → R (.ok (.ret (.ref x))) { s with heap := h', toks := tk' }) :
    codeAny (model P0 w) (ktrTop dp un gd cn cs L ca ccd cl outer) (.call (.ref 887) ⟨[.str v t], [(Str.ofString "posix", .bool true)]⟩) R s := by
  w_on
  refine' make_K (K := KF w.params) (fI := 811) F N (X.keeps F.keep) ?a ?b ?c ?_
  case a => k_is
  case b => k_is
  case c => k_is
  intro x dx h' F' N' _ l
  refine init811 (s := { s with heap := h' }) (dp := dp + 1) (un := un + 1) (gd := gd) (cn := cn) (cs := cs) (ca := ca) (ccd := ccd) (cl := cl) B F' X N' T hke (Nat.ne_of_lt l) (fun _ hq => nomatch hq) (fun _ hq => nomatch hq) (by omega) (by omega) hvl ?_
  intro h'' tk' y dy pb fs nl t1 t2 t3 t4 v1 v2 k0 k1 k2 k3 k4 k5 k6 k7 k8 k9 k10 k11 k12 k13 k14 k15 k16 k17 k18 v4 v5 v6 v8 v9 v10 v11 v13 v14 v15 v18 F'' N'' s1 s2 n1 n2 n3 n4 n5 n6 n7 n8 n9
  exact ⟨rfl, hret x dx h'' tk' y dy pb fs nl t1 t2 t3 t4 v1 v2 k0 k1 k2 k3 k4 k5 k6 k7 k8 k9 k10 k11 k12 k13 k14 k15 k16 k17 k18 v4 v5 v6 v8 v9 v10 v11 v13 v14 v15 v18 F'' N'' s1 s2 (Nat.ne_of_gt l) n1 n2 n3 n4 n5 n6 n7 n8 n9⟩
theorem list_lexE {x dx y dy pb fs : Addr} {k0 k1 k2 k3 k4 k5 k6 k7 k8 k9 k10 k11 k12 k13 k14 k15 k16 k17 k18 v4 v5 v6 v8 v9 v10 v11 v13 v14 v15 v18 : Tok} {tb t1 t2 t3 tp : Tok} {buf : Str} {nl : Value} {va vb : Array Value} {ws : List Str}
    (B : Below A₀ base outer h₀) (F : Fr h₀ L s.heap m) (X : (KF w.params).In h₀) (N : News h₀ L s.heap news) (T : Top p loose mean mg mb h₀) (hke : cs.kind = .function) 
    (hx : (x, instObj 887 dx) ∈ news) (hdx : (dx, lexE w.params k0 k1 k2 k3 k4 k5 k6 k7 k8 k9 k10 k11 k12 k13 k14 k15 k16 k17 k18 v4 v5 v6 v8 v9 v10 v11 v13 v14 v15 v18 true (Str.ofString "") y pb fs) ∈ news) (hy : (y, instObj 752 dy) ∈ news) (hdy : (dy, ioD w.params nl (.str buf tb) (.int 0 tp) t1 t2 t3) ∈ news) (hpb : (pb, dqO va) ∈ news) (hfs : (fs, dqO vb) ∈ news)
    (hv1 : va.size = 2) (hv2 : vb.size = 2)
    (n1 : @Ne Nat x dx) (n2 : @Ne Nat x y) (n3 : @Ne Nat x dy) (n4 : @Ne Nat dx y) (n5 : @Ne Nat dx dy) (n6 : @Ne Nat y dy) (n7 : @Ne Nat pb dx) (n8 : @Ne Nat pb dy) (n9 : @Ne Nat fs dx) (n10 : @Ne Nat fs dy)
    (hlen : buf.length < 1000) (hd : dp + 14 < recursionLimit) (hu : un + 95 < cLine) (hw : Words buf.cps.toList ws) (hsz : ws.length ≤ 1000)
    (hret : ∀ h₀' h' tk' S vs c', KtsTurn (outer.filterMap (·.frame)) h₀ h₀' → Fr h₀' L h' m → Below A₀ base outer h₀' → News h₀' L h' [(S, listOf vs.toArray c')] → StrsOf ws vs → Q (.ref S) { s with heap := h', toks := tk' }) :
    wpAny (model P0 w) (ktrTop dp un gd cn cs L ca ccd cl outer) (call (.type "list") [.ref x]) Q E s :=
  list_lex B F X N T hke hx (lexE_D ▸ hdx) hy hdy hpb hfs hv1 hv2 n1 n2 n3 n4 n5 n6 n7 n8 n9 n10 hlen hd hu hw hsz hret
theorem row71 : True := by ((k_with "call ref" => ((k_here; (k_dflt show wpAny _ _ (call (Value.ref 887) [Value.str _ _] [(_, Value.bool true)]) _ _ _); k_dflt (refine wpAny_call ?_; refine' lex_make ?r1 ?r2 ?r3 ?r4 ?r5 ?r6 ?r7 ?r8 ?r9 ?_; (case r1 => k_asm); (case r2 => k_asm); (case r3 => k_asm); (case r4 => k_asm); (case r5 => k_asm); (case r6 => exact rfl); (case r7 => ktr_room); (case r8 => ktr_units); (case r9 => assumption); k_whole); intro zkx' zkdx' zkh' zktk' zky' zkdy' zkpb' zkfs' zknl' zkt1' zkt2' zkt3' zkt4' zkv1' zkv2' zkk0' zkk1' zkk2' zkk3' zkk4' zkk5' zkk6' zkk7' zkk8' zkk9' zkk10' zkk11' zkk12' zkk13' zkk14' zkk15' zkk16' zkk17' zkk18' zkv4' zkv5' zkv6' zkv8' zkv9' zkv10' zkv11' zkv13' zkv14' zkv15' zkv18' zkF' zkN' zks1' zks2' zkn1' zkn2' zkn3' zkn4' zkn5' zkn6' zkn7' zkn8' zkn9' zkn10'; (try dsimp only at zkN'); (try k_sweep)))); trivial)
theorem row72 : True := by ((k_with "call type:list" => ((k_here; (k_dflt show wpAny _ _ (call (Value.type "list") [Value.ref _]) _ _ _); k_dflt (refine' list_lexE ?r1 ?r2 ?r3 ?r4 ?r5 ?r6 ?r7 ?r8 ?r9 ?r10 ?r11 ?r12 ?r13 ?r14 ?n1 ?n2 ?n3 ?n4 ?n5 ?n6 ?n7 ?n8 ?n9 ?n10 ?r15 ?r16 ?r17 ?r18 ?r19 ?_; (case r1 => k_asm); (case r2 => k_asm); (case r3 => k_asm); (case r4 => k_asm); (case r5 => k_asm); (case r6 => exact rfl); (case r7 => k_mem); (case r8 => k_mem); (case r9 => k_mem); (case r10 => k_mem); (case r11 => k_mem); (case r12 => k_mem); (case r13 => assumption); (case r14 => assumption); (case n1 => assumption); (case n2 => assumption); (case n3 => assumption); (case n4 => assumption); (case n5 => assumption); (case n6 => assumption); (case n7 => assumption); (case n8 => assumption); (case n9 => assumption); (case n10 => assumption); (case r15 => assumption); (case r16 => ktr_room); (case r17 => ktr_units); (case r18 => assumption); (case r19 => assumption); k_whole); intro zkg2' zkh' zktk' zkS' zkvs' zkc' zkT2' zkF' zkB2' zkN' zkhs2'; (try dsimp only at zkN'); (try k_sweep)))); trivial)
theorem split_c {v : Str} {t : Tok} {ws : List Str}
    (XB : (KF w.params).In base) (TB : Top p loose mean mg mb base) (D : KtsDicts (outer.filterMap (·.frame)) h₀) (B : Below A₀ base outer h₀) (F : Fr h₀ L s.heap m) (X : (KF w.params).In h₀) (N : News h₀ L s.heap news) (T : Top p loose mean mg mb h₀) (hke : cs.kind = .function)
    (hd : dp + 34 < recursionLimit) (hu : un + 180 < cLine) (hvl : v.length < 1000) (hw : Words v.cps.toList ws) (hsz : ws.length ≤ 1000)
    (hret : ∀ h₀' h' tk' S vs c', KtsTurn (outer.filterMap (·.frame)) h₀ h₀' → Fr h₀' L h' m → News h₀' L h' ((S, listOf vs.toArray c') :: news) → Below A₀ base outer h₀' → (KF w.params).In h₀' → Top p loose mean mg mb h₀' → KtsDicts (outer.filterMap (·.frame)) h₀' → (∀ q ∈ news, q.1 ≠ S) → StrsOf ws vs → R (.ok (.ret (.ref S))) { s with heap := h', toks := tk' }) :
    codeAny (model P0 w) (ktrTop dp un gd cn cs L ca ccd cl outer) (.call (.ref 899) ⟨[.str v t], []⟩) R s := by
  w_on
  have Nm : News h₀ L s.heap [] := News.nil
  walk_at "MINE enterS"
  k_steps
  refine' hret _ _ _ _ _ _ ?T ?F (News.backT (pre := []) (pre' := [_]) B (env := envX cn cs L ca ccd cl) rfl ?T N ?N (fun _ _ _ hp => nomatch hp) (keep_turn (by assumption) (by assumption) (by assumption))) ?B ?X ?P ?D (freshT (mtl := []) (env := envX cn cs L ca ccd cl) B rfl N (by assumption) (by assumption) (by assumption) (List.Mem.head _) (fun _ _ _ hp => nomatch hp)) ?S
  case T => assumption
  case F => assumption
  case N => assumption
  case B => assumption
  case X => assumption
  case P => assumption
  case D => assumption
  case S => assumption
end

end
section -- SetSl
section
variable {prog : Program} {w : World} {A : Around} {E : Value → Shared → Prop} {s : Shared} {h₀ : Heap} {L : Addr} {m : Str → Option Value}
theorem setSl {l sl v : Addr} {items new : Array Value} {n n2 : Nat} {Q : Unit → Shared → Prop} (ho : s.heap.get? l = some (W.listOf items n)) (hs : s.heap.IsSliceOf sl .none .none .none) (hv : s.heap.get? v = some (W.listOf new n2)) (hne : l ≠ v) (hsz : items.size + new.size ≤ sizeLine)
    (hQ : Q () { s with heap := s.heap.update l (Obj.mapSeq (fun xs => xs.extract 0 (0 : Int).toNat ++ new ++ xs.extract (max 0 (items.size : Int)).toNat xs.size)) }) :
    wpAny (model prog w) A (setItem (.ref l) (.ref sl) (.ref v)) Q E s := by
  have hl : s.heap.IsList l items := PySem.IsL.isList (n := n) ho
  obtain ⟨os, hos, hcs, hds⟩ := id hs
  have hTs : s.TypeIs (.ref sl) "slice" := ⟨os, hos, hcs⟩
  have hTv : s.TypeIs (.ref v) "list" := ⟨_, hv, rfl⟩
  unfold setItem
  try with_reducible refine wpAny_holding ?_
  first | refine wpAny_bind (wpAny_pure ?_) | skip
  refine wpAny_bind (wpAny_sequenceKey hl.typeIs (by decide) ?_)
  refine wpAny_bind (wpAny_callSpecial?_slot (name := Str.ofString "__setitem__") hl.typeIs slot_list_setitem
    (wpAny_call_entry slot_list_setitem hl.typeIs entry_list_setitem ?_ (args_list_setitem _ _ _)))
  show wpAny _ _ (Builtin.List.listSubscript? (.ref sl) >>= _) _ _ s
  refine wpAny_bind ?_
  unfold Builtin.List.listSubscript?
  refine wpAny_bind (wpAny_specialOf hTs slice_no_index ?_)
  simp only [Option.isNone_none, if_true]
  refine wpAny_pure ?_
  show wpAny _ _ (typeOf (.ref sl) >>= _) _ _ s
  refine wpAny_bind (wpAny_typeOf hTs ?_)
  rw [if_neg (by decide)]
  rw [listSliceParts_eq]
  refine wpAny_bind (wpAny_bind (wpAny_field hos hds (x := .none) rfl (wpAny_bind (wpAny_listPart .none ?_))))
  rw [if_neg (by exact Bool.false_ne_true)]
  refine wpAny_bind (wpAny_field hos hds (x := .none) rfl (wpAny_bind (wpAny_listPart .none ?_)))
  refine wpAny_bind (wpAny_field hos hds (x := .none) rfl (wpAny_bind (wpAny_listPart .none (wpAny_pure ?_))))
  have h1 : Builtin.List.listSameRef (.ref l) (.ref v) = false := by simp [Builtin.List.listSameRef, hne]
  simp only [h1, Bool.false_eq_true, if_false]
  refine wpAny_bind ?_
  unfold Builtin.List.listAllItems
  refine wpAny_bind (wpAny_typeOf hTv ?_)
  rw [if_pos (by decide)]
  unfold Builtin.List.listItems
  refine wpAny_bind (wpAny_seqItems hv rfl (wpAny_pure ?_))
  refine wpAny_bind (wpAny_bind (wpAny_seqItems ho rfl (wpAny_pure ?_)))
  refine wpAny_bind (wpAny_of_eq (sliceIndices_raw none none none items.size (by simp)) ?_)
  show wpAny _ _ (rule "list.__setitem__.slice" >>= _) _ _ s
  refine wpAny_bind (wpAny_rule ?_)
  have h2 : Builtin.List.listTooLong (items.size + new.size) = false := by simp [Builtin.List.listTooLong]; omega
  simp only [h2, Bool.false_eq_true, if_false]
  show wpAny _ _ (updateSeq l (fun xs => xs.extract 0 (0 : Int).toNat ++ new ++ xs.extract (max 0 (items.size : Int)).toNat xs.size) >>= _) _ _ s
  refine wpAny_bind (wpAny_updateSeq ho rfl ?_ ?z1 ?z2)
  case z1 => show items.size ≤ sizeLine; omega
  case z2 =>
    show (items.extract 0 (0 : Int).toNat ++ new ++ items.extract (max 0 (items.size : Int)).toNat items.size).size ≤ sizeLine + 1
    simp
    omega
  refine wpAny_bind (wpAny_letGo ?_)
  exact wpAny_pure ⟨.none, rfl, wpAny_pure hQ⟩
theorem setSlK {l D : Addr} {its : Array Value} {ys : List Value} {n : Nat} {hh : Heap} {pre post : List (Addr × Obj)} {Q : Unit → Shared → Prop} (F : Fr h₀ L hh m) (N : News h₀ L hh (pre ++ (l, W.listOf its n) :: post)) (hD : (D, LCg.lst ys) ∈ pre ++ (l, W.listOf its n) :: post) (a : ∀ p ∈ pre, p.1 ≠ l) (b : ∀ p ∈ post, p.1 ≠ l) (hne : l ≠ D)
    (hs : s.heap = hh.push { cls := .type "slice", data := .fields #[.none, .none, .none] }) (hsz : its.size + ys.length ≤ sizeLine)
    (h : ∀ h' n', Fr h₀ L h' m → News h₀ L h' (pre ++ (l, W.listOf ys.toArray n') :: post) → Q () { s with heap := h' }) :
    wpAny (model prog w) A (setItem (.ref l) (.ref hh.objs.size) (.ref D)) Q E s := by
  have N1 := News.push F N { cls := .type "slice", data := .fields #[.none, .none, .none] }
  have N2 : News h₀ L s.heap (pre ++ (l, W.listOf its n) :: post) := fun q hq => by rw [hs]; exact N1 q (.tail _ hq)
  have F2 : Fr h₀ L s.heap m := by rw [hs]; exact F.push _
  have hl := N2 (l, W.listOf its n) (by simp)
  refine setSl hl.1 (by rw [hs]; exact Heap.IsSliceOf.new ..) (N2 _ hD).1 hne (by simpa using hsz) ?_
  refine h _ (if ys.toArray.size == its.size then n else n + 1) (F2.change (Heap.SameBut.update ..) hl.2.1 hl.2.2) (ki_turn _ N2 a b ?_ rfl)
  simp
end

end
section -- HdD
theorem row73 : True := by (k_with_none; trivial)
theorem row74 : True := by ((k_with "MINE enterC" => ((k_dflt (refine' code_defC ?k1 ?k2 ?k3 ?k4 ?k5 ?kA ?kF ?kK ?k6 ?k7 ?k8 ?k9 ?kB ?kD ?_ ?c2 ?c3 ?c4; (case kA => exact rfl); (case kF => exact rfl); (case kK => first | assumption | exact rfl); (case k1 => k_asm); (case k2 => k_asm); (case k3 => k_asm); (case k4 => assumption); (case k5 => k_asm); (case k6 => k_is); (case k7 => k_is); (case k8 => ktr_room); (case k9 => first | exact BindsTo.of_eq rfl | exact binds_K (by k_in) rfl (by k_is) rfl rfl rfl); (case kB => exact rfl); (case kD => decide +kernel); (case c2 => exact rfl); (case c3 => exact rfl); (case c4 => exact rfl); k_whole; intro zkg' zkL' zkh' zktk' zkcells' zkFG' zkF' zkN' zkY' zkB' zkX' zkT' zkl1; (have zkl2 := zkl1); (try k_lt zkl1); k_cells zkY'; (try simp only [List.cons_append, List.nil_append] at zkN'); (try dsimp only); (try k_lift zkB'); (try k_fold))))); trivial)
local macro_rules | `(tactic| k_all) => `(tactic| (refine' tail_ne ?a ?b ?c; (case a => assumption); (case b => (intro p hp; repeat (first | exact hp | apply List.Mem.tail))); (case c => omega)))
theorem row75 : True := by ((k_with "eval ListComp" => ((k_here; (k_dflt (refine LCt.ListComp_T (F₀ := by k_asm) (by with_unfolding_all rfl) (by decide) (by rfl) (by decide) (by rfl) ?_))))); trivial)
theorem row76 : True := by ((k_with "CompSrcT" => ((k_here; (k_dflt (refine LCt.CompSrcT.ledger (by rfl) (by k_asm) (by k_asm) (by k_mem) (by assumption) ?_)); intro zkg'))); trivial)
theorem row77 : True := by ((k_with "CompRestT" => (fail "mine")); trivial)
theorem fill_hd : (PySem.Challenge.rw_of0118_01.name = PySem.Challenge.rw_of0118_01.name) → (∀ P, KF P = KF P) := by
  k_fill
  intro _ _; rfl
theorem row78 : True := by ((k_with "call ref" => ((k_here; (k_dflt show wpAny _ _ (call (Value.ref 89) [Value.ref _, Value.str _ _] [(_, Value.bool true)]) _ _ _); k_dflt (refine wpAny_call ?_; refine' conv_n ?r1 ?r2 ?r3 ?r4 ?r5 ?r6 ?r7 ?r8 ?r9 ?_; (case r1 => k_asm); (case r2 => k_asm); (case r3 => k_asm); (case r4 => k_asm); (case r5 => exact rfl); (case r6 => ktr_room); (case r7 => ktr_units); (case r8 => assumption); (case r9 => assumption); k_whole); intro zkh' zktk' zkF' zkhk'; (have zkN' := News.stay (by assumption) zkhk'); (try dsimp only); (try k_sweep)))); trivial)
theorem row79 : True := by ((k_with "CompEnd" => (fail "mine")); trivial)
section
variable {w : World} {p : Program} {loose : List Str} {mean : ExcName → Option Value} {mg mb : Str → Option Value} {A₀ : Around} {dp un : Nat} {gd : Option (List Code)} {cn : Str} {cs : Scope} {ca : Addr} {ccd : Value} {cl : List (Str × Addr)} {outer : List Env} {base h₀ : Heap} {L : Addr} {m : Str → Option Value} {s : Shared} {R : Result → Shared → Prop} {news : List (Addr × Obj)}
theorem gd_comp {A : Around} {c : Addr} {oc : Obj} {ln : Str} {tl : Tok} {its : Array Value} {S : List (Addr × Obj) → Prop} {Fin : List Value → List (Addr × Obj) → Prop} {led : List (Addr × Obj)}
    (X : (KF w.params).In h₀) (T : Top p loose mean mg mb h₀) (hhA : A.handled = none) (hc : (c, oc) ∈ led) (hcd : oc.data = .cell (some (.str ln tl))) (hS : S led) :
    ∀ {vs rows}, RowsAt led vs rows → ∀ (i : Nat) (ys : List Value), its.toList.drop i = vs → (∀ ys', ys'.length ≤ vs.length → (∀ led', RowsAt led' vs rows → RowsAt led' ys' (rows.filter fun r => !(Txt.lower r.1 == ln))) → Fin (ys ++ ys') led) →
    LCt.CompRestT P0 w A h₀ L m (envOfC (Str.ofString "Headers.__delitem__") s108 L 108 (Value.ref 107)) 
      (((((Expr.Name (Str.ofString "kv") { line := 48, col := 58, endLine := 48, endCol := 60 }).Subscript (Expr.Constant (Const.int 0) 0 { line := 48, col := 61, endLine := 48, endCol := 62 }) { line := 48, col := 58, endLine := 48, endCol := 63 }).Attribute (Str.ofString "lower") { line := 48, col := 58, endLine := 48, endCol := 69 }).Call [] [] { line := 48, col := 58, endLine := 48, endCol := 71 }).Compare [CmpOp.NotEq] [Expr.Name (Str.ofString "name") { line := 48, col := 75, endLine := 48, endCol := 79 }] { line := 48, col := 58, endLine := 48, endCol := 79 })
      (Expr.Name (Str.ofString "kv") { line := 48, col := 28, endLine := 48, endCol := 30 })
      (Str.ofString "kv") { kind := ScopeKind.function, names := [(Str.ofString ".0", NameKind.local), (Str.ofString "kv", NameKind.local), (Str.ofString "name", NameKind.free)], isGenerator := false, isCoroutine := false }
      [(Str.ofString "name", c)] s S (fun i v => its[i]? = some v) Fin vs.length i ys led := by
  w_on
  intro vs rows hr
  induction hr with
  | nil => intro i ys hi hF; exact LCt.CompRestT.zero (by simpa using hF [] (Nat.le_refl _) (fun _ h => h))
  | @cons a t1 t2 nm v vs rs k hm hnl hr ih =>
    intro i ys hi hF
    refine LCt.CompRestT.succ ?_
    intro v' I' oI' C' oC' D' m' h' tk' E' hv' hC' hx' F' N' off' ne'
    have e : v' = .ref a := by
      have e1 : its[i]? = (its.toList.drop i)[0]? := by simp
      rw [hi] at e1
      have e2 : its[i]? = some v' := hv'
      rw [e1] at e2
      exact (Option.some.inj e2).symm
    subst e
    have N2 : News h₀ L h' ((a, tupO (.str nm t1) (.str v t2) k) :: (c, oc) :: (I', oI') :: (C', oC') :: (D', LCg.lst ys) :: led) := fun q hq => by
      rcases List.mem_cons.mp hq with rfl | hq
      · exact N' _ (.tail _ (.tail _ (.tail _ hm)))
      · rcases List.mem_cons.mp hq with rfl | hq
        · exact N' _ (.tail _ (.tail _ (.tail _ hc)))
        · exact N' q hq
    clear N'
    k_steps
    · refine LCg.CompEnd.intro (by assumption) N2 led (fun q hq => .tail _ (.tail _ hq)) off' hS (ih (i + 1) (ys ++ [.ref a]) ?_ ?_)
      · rw [← List.drop_drop, hi]; rfl
      · intro ys' hl hys
        rw [List.append_assoc]
        refine hF (.ref a :: ys') (Nat.succ_le_succ hl) ?_
        intro led' hr'
        have hc : (Txt.lower nm != ln) = true := by assumption
        rw [List.filter_cons_of_pos (by simpa [bne] using hc)]
        cases hr' with
        | cons h1 h2 h3 => exact .cons h1 h2 (hys led' h3)
    · refine LCg.CompEnd.intro (by assumption) N2 led (fun q hq => .tail _ (.tail _ hq)) off' hS (ih (i + 1) ys ?_ ?_)
      · rw [← List.drop_drop, hi]; rfl
      · intro ys' hl hys
        refine hF ys' (Nat.le_succ_of_le hl) ?_
        intro led' hr'
        have hc : (Txt.lower nm != ln) = false := by assumption
        rw [List.filter_cons_of_neg (by simpa [bne] using hc)]
        cases hr' with
        | cons h1 h2 h3 => exact hys led' h3
theorem delitem_c {x dx l : Addr} {its : Array Value} {n : Nat} {th tn : Tok} {nm : Str} {rows : List (Str × Str)}
    (B : Below A₀ base outer h₀) (F : Fr h₀ L s.heap m) (X : (KF w.params).In h₀) (N : News h₀ L s.heap ((l, W.listOf its n) :: news)) (T : Top p loose mean mg mb h₀) (hke : cs.kind = .function)
    (hx : (x, instObj 188 dx) ∈ news) (hdx : (dx, hdD w.params th l) ∈ news) (hr : RowsAt news its.toList rows) (hne : ∀ q ∈ news, q.1 ≠ l)
    (hd : dp + 8 < recursionLimit) (hu : un + 60 < cLine) (hv : okT (Txt.lower nm)) (hvl : (Txt.lower nm).length < 1000) (hnl : nm.length < 100) (hsz : its.size ≤ 1000)
    (hret : ∀ h' tk' ys' n', Fr h₀ L h' m → News h₀ L h' ((l, W.listOf ys'.toArray n') :: news) → ys'.length ≤ its.size → RowsAt news ys' (rows.filter fun r => !(Txt.lower r.1 == Txt.lower nm)) → R (.ok (.ret .none)) { s with heap := h', toks := tk' }) :
    codeAny (model P0 w) (ktrTop dp un gd cn cs L ca ccd cl outer) (.call (.ref 108) ⟨[.ref x, .str nm tn], []⟩) R s := by
  w_on
  have Nm : News h₀ L s.heap ((x, instObj 188 dx) :: (dx, hdD w.params th l) :: (l, W.listOf its n) :: news) := fun q hq => by
    rcases List.mem_cons.mp hq with rfl | hq
    · exact N _ (.tail _ hx)
    · rcases List.mem_cons.mp hq with rfl | hq
      · exact N _ (.tail _ hdx)
      · exact N _ hq
  clear N
  have hsz' : its.size ≤ sizeLine := Nat.le_trans hsz (by decide)
  walk_at "MINE enterC"
  k_steps
  refine' gd_comp ?X ?T rfl ?hc ?hcd ?hS ?hr 0 [] rfl ?_
  case hc => exact .head _
  case X => assumption
  case T => assumption
  case hcd => assumption
  case hS => exact .inr ⟨_, by k_mem, rfl, _, rfl⟩
  case hr => exact hr.mono fun q hq => .tail _ (.tail _ (.tail _ (.tail _ hq)))
  intro ys' hyl hys
  rw [List.nil_append]
  k_steps
  refine' setSlK (pre := [_, _, _, _]) ?F ?N (List.Mem.head _) ?a hne ?ne rfl ?z ?_
  case F => assumption
  case N => assumption
  case a =>
    intro q hq
    simp only [List.mem_cons, List.not_mem_nil, or_false] at hq
    rcases hq with rfl | rfl | rfl | rfl
    · k_ne
    · k_ne
    · exact hne _ hx
    · exact hne _ hdx
  case ne => k_ne
  case z =>
    have h1 : ys'.length ≤ its.size := by simpa using hyl
    have h2 : 2000 ≤ sizeLine := by decide
    omega
  intro h' n' F' N'
  k_steps
  refine' hret _ _ ys' n' ?e1 (fun q hq => ?e2) (by simpa using hyl) (hys news hr)
  case e1 => assumption
  case e2 =>
    refine (by assumption : News h₀ L _ ([_, _, _, _] ++ (l, W.listOf ys'.toArray n') :: news)) q ?_
    exact .tail _ (.tail _ (.tail _ (.tail _ hq)))
end

end
section -- HdE
theorem row80 : True := by (k_with_none; trivial)
theorem allLt_ne {d : Addr} : ∀ {l : List (Addr × Obj)}, AllLt d l → ∀ p ∈ l, p.1 ≠ d
  | [], _, _, h => nomatch h
  | _ :: _, x, q, h => by
    rcases List.mem_cons.mp h with rfl | h
    · exact Nat.ne_of_lt x.1
    · exact allLt_ne x.2 q h
theorem ne_c1 {a0 : Prop} {d : Addr} {l : List (Addr × Obj)} (h : a0 ∧ AllLt d l) : ∀ p ∈ l, p.1 ≠ d := allLt_ne h.2
theorem ne_c2 {a0 a1 : Prop} {d : Addr} {l : List (Addr × Obj)} (h : a0 ∧ a1 ∧ AllLt d l) : ∀ p ∈ l, p.1 ≠ d := allLt_ne h.2.2
theorem ne_c3 {a0 a1 a2 : Prop} {d : Addr} {l : List (Addr × Obj)} (h : a0 ∧ a1 ∧ a2 ∧ AllLt d l) : ∀ p ∈ l, p.1 ≠ d := allLt_ne h.2.2.2
theorem ne_c4 {a0 a1 a2 a3 : Prop} {d : Addr} {l : List (Addr × Obj)} (h : a0 ∧ a1 ∧ a2 ∧ a3 ∧ AllLt d l) : ∀ p ∈ l, p.1 ≠ d := allLt_ne h.2.2.2.2
theorem ne_c5 {a0 a1 a2 a3 a4 : Prop} {d : Addr} {l : List (Addr × Obj)} (h : a0 ∧ a1 ∧ a2 ∧ a3 ∧ a4 ∧ AllLt d l) : ∀ p ∈ l, p.1 ≠ d := allLt_ne h.2.2.2.2.2
theorem ne_c6 {a0 a1 a2 a3 a4 a5 : Prop} {d : Addr} {l : List (Addr × Obj)} (h : a0 ∧ a1 ∧ a2 ∧ a3 ∧ a4 ∧ a5 ∧ AllLt d l) : ∀ p ∈ l, p.1 ≠ d := allLt_ne h.2.2.2.2.2.2
theorem ne_c7 {a0 a1 a2 a3 a4 a5 a6 : Prop} {d : Addr} {l : List (Addr × Obj)} (h : a0 ∧ a1 ∧ a2 ∧ a3 ∧ a4 ∧ a5 ∧ a6 ∧ AllLt d l) : ∀ p ∈ l, p.1 ≠ d := allLt_ne h.2.2.2.2.2.2.2
theorem ne_c8 {a0 a1 a2 a3 a4 a5 a6 a7 : Prop} {d : Addr} {l : List (Addr × Obj)} (h : a0 ∧ a1 ∧ a2 ∧ a3 ∧ a4 ∧ a5 ∧ a6 ∧ a7 ∧ AllLt d l) : ∀ p ∈ l, p.1 ≠ d := allLt_ne h.2.2.2.2.2.2.2.2
theorem ne_c9 {a0 a1 a2 a3 a4 a5 a6 a7 a8 : Prop} {d : Addr} {l : List (Addr × Obj)} (h : a0 ∧ a1 ∧ a2 ∧ a3 ∧ a4 ∧ a5 ∧ a6 ∧ a7 ∧ a8 ∧ AllLt d l) : ∀ p ∈ l, p.1 ≠ d := allLt_ne h.2.2.2.2.2.2.2.2.2
theorem ne_c10 {a0 a1 a2 a3 a4 a5 a6 a7 a8 a9 : Prop} {d : Addr} {l : List (Addr × Obj)} (h : a0 ∧ a1 ∧ a2 ∧ a3 ∧ a4 ∧ a5 ∧ a6 ∧ a7 ∧ a8 ∧ a9 ∧ AllLt d l) : ∀ p ∈ l, p.1 ≠ d := allLt_ne h.2.2.2.2.2.2.2.2.2.2
theorem ne_c11 {a0 a1 a2 a3 a4 a5 a6 a7 a8 a9 a10 : Prop} {d : Addr} {l : List (Addr × Obj)} (h : a0 ∧ a1 ∧ a2 ∧ a3 ∧ a4 ∧ a5 ∧ a6 ∧ a7 ∧ a8 ∧ a9 ∧ a10 ∧ AllLt d l) : ∀ p ∈ l, p.1 ≠ d := allLt_ne h.2.2.2.2.2.2.2.2.2.2.2
theorem ne_c12 {a0 a1 a2 a3 a4 a5 a6 a7 a8 a9 a10 a11 : Prop} {d : Addr} {l : List (Addr × Obj)} (h : a0 ∧ a1 ∧ a2 ∧ a3 ∧ a4 ∧ a5 ∧ a6 ∧ a7 ∧ a8 ∧ a9 ∧ a10 ∧ a11 ∧ AllLt d l) : ∀ p ∈ l, p.1 ≠ d := allLt_ne h.2.2.2.2.2.2.2.2.2.2.2.2
local macro_rules | `(tactic| k_all) => `(tactic| with_reducible assumption)
theorem row81 : True := by ((k_with "MINE enter" => ((k_dflt (refine' enterM ?k1 ?k2 ?k3 ?k4 ?k5 ?kA ?kF ?kK ?k6 ?k7 ?k8 ?k9 ?kB ?_ ?c2 ?c3 ?c4 ?c5; (case kA => first | assumption | exact rfl); (case kF => first | assumption | exact rfl); (case kK => first | assumption | exact rfl); (case k1 => k_asm); (case k2 => k_asm); (case k3 => k_asm); (case k4 => assumption); (case k5 => k_asm); (case k6 => k_is); (case k7 => k_is); (case k8 => ktr_room); (case k9 => first | exact BindsTo.of_eq rfl | exact binds_K (by k_in) rfl (by k_is) rfl rfl rfl | exact kp_binds (by k_in) (fun _ => rfl) | fail "k_enter: no rule for these arguments"); (case c5 => decide); (case kB => exact locs rfl); (case c2 => exact rfl); (case c3 => exact rfl); (case c4 => exact rfl); k_whole; intro zkg' zkL' zkh' zkgk' zkFG' zkF' zkN' zkB' zkX' zkT' zkl1; (try k_lt zkl1); (try dsimp only); (try k_lift zkB'); (try k_fold))))); trivial)
theorem row82 : True := by ((k_with "call builtin:list.append" => ((k_here; (try dsimp only [List.cons_append, List.nil_append]); k_dflt (refine' append_K ?k1 ?k2 ?k3 ?_ ?z; (case k1 => k_asm); (case k2 => k_asm); (case k3 => k_upd); (case z => size_fits); k_whole); intro zkh' zkF' zkN'; (try k_sweep)))); trivial)
theorem fill_he : (PySem.Challenge.rw_of0118_01.name = PySem.Challenge.rw_of0118_01.name) → (∀ P, KF P = KF P) := by
  k_fill
  intro _ _; rfl
theorem row83 : True := by ((k_with "call ref" => ((k_here; (k_dflt show wpAny _ _ (call (Value.ref 89) [Value.ref _, Value.str _ _] [(_, Value.bool true)]) _ _ _); k_dflt (refine wpAny_call ?_; refine' conv_n ?r1 ?r2 ?r3 ?r4 ?r5 ?r6 ?r7 ?r8 ?r9 ?_; (case r1 => k_asm); (case r2 => k_asm); (case r3 => k_asm); (case r4 => k_asm); (case r5 => exact rfl); (case r6 => ktr_room); (case r7 => ktr_units); (case r8 => assumption); (case r9 => assumption); k_whole); intro zkh' zktk' zkF' zkhk'; (have zkN' := News.stay (by assumption) zkhk'); (try dsimp only); (try k_sweep)))); trivial)
theorem row84 : True := by ((k_with "call ref" => ((k_here; (k_dflt show wpAny _ _ (call (Value.ref 89) [Value.ref _, Value.str _ _] [(_, Value.bool false)]) _ _ _); k_dflt (refine wpAny_call ?_; refine' conv_v ?r1 ?r2 ?r3 ?r4 ?r5 ?r6 ?r7 ?r8 ?r9 ?_; (case r1 => k_asm); (case r2 => k_asm); (case r3 => k_asm); (case r4 => k_asm); (case r5 => exact rfl); (case r6 => ktr_room); (case r7 => ktr_units); (case r8 => assumption); (case r9 => assumption); k_whole); intro zkh' zktk' zkF' zkhk'; (have zkN' := News.stay (by assumption) zkhk'); (try dsimp only); (try k_sweep)))); trivial)
section
variable {w : World} {p : Program} {loose : List Str} {mean : ExcName → Option Value} {mg mb : Str → Option Value} {A₀ : Around} {dp un : Nat} {gd : Option (List Code)} {cn : Str} {cs : Scope} {ca : Addr} {ccd : Value} {cl : List (Str × Addr)} {outer : List Env} {base h₀ : Heap} {L : Addr} {m : Str → Option Value} {s : Shared} {R : Result → Shared → Prop} {news : List (Addr × Obj)}
theorem RowsAt.snoc {led : List (Addr × Obj)} {a : Addr} {t1 t2 : Tok} {nm v : Str} {k : Nat} (hm : (a, tupO (.str nm t1) (.str v t2) k) ∈ led) (hl : nm.length < 100) : ∀ {vs rows}, RowsAt led vs rows → RowsAt led (vs ++ [.ref a]) (rows ++ [(nm, v)]) := fun h => by
  induction h with
  | nil => exact .cons hm hl .nil
  | cons h1 h2 _ ih => exact .cons h1 h2 ih
theorem delItem_K {M : Model} {A : Around} {E : Value → Shared → Prop} {K : Frag} {x C f : Addr} {ox : Obj} {od : Option Obj} {v : Value} {Q : Unit → Shared → Prop} (F : Fr h₀ L s.heap m) (X₀ : K.In h₀) (I : InstAt s.heap x ox C od) (hq : noSeq K C = true) (hs : findIn K (.ref C) "__delitem__" = some (some (.ref f))) (hf : isFn K (.ref f) = true)
    (h : wpAny M A (call (.ref f) [.ref x, v]) (fun _ => Q ()) E s) : wpAny M A (delItem (.ref x) v) Q E s := by
  have X := X₀.keeps F.keep
  unfold delItem sequenceKey
  refine wpAny_holding (wpAny_bind (wpAny_bind (I.type.here ?_)))
  refine wpAny_bind ((anyM_none X hq).here ?_)
  rw [if_pos (show (!false) = true from rfl)]
  exact wpAny_pure (wpAny_bind (special_fn X I hs (beq_iff_eq.mp hf) (wpAny_mono h (fun _ _ z => wpAny_pure z) fun _ _ z => z)))
theorem row85 : True := by ((k_with "delItem" => ((k_here; k_dflt (refine' delItem_K ?F ?X ?I ?q ?s ?f ?_; (case F => k_asm); (case X => k_asm); (case I => k_inst); (case q => k_is); (case s => k_is); (case f => k_is); k_whole)))); trivial)
theorem row86 : True := by ((k_with "call ref" => ((k_here; (k_dflt show wpAny _ _ (call (Value.ref 108) [Value.ref _, Value.str _ _]) _ _ _); k_dflt (refine wpAny_call ?_; refine' delitem_c ?r1 ?r2 ?r3 ?r4 ?r5 ?r6 ?r7 ?r8 ?r9 ?r10 ?r11 ?r12 ?r13 ?r14 ?r15 ?r16 ?_; (case r1 => k_asm); (case r2 => k_asm); (case r3 => k_asm); (case r4 => assumption); (case r5 => k_asm); (case r6 => exact rfl); (case r7 => k_mem); (case r8 => k_mem); (case r9 => assumption); (case r10 => assumption); (case r11 => ktr_room); (case r12 => ktr_units); (case r13 => assumption); (case r14 => assumption); (case r15 => assumption); (case r16 => assumption); k_whole); intro zkh' zktk' zkys' zkn' zkF' zkN' zkhyl' zkhr'; (try dsimp only at zkN'); (try k_sweep)))); trivial)
theorem setitem_c {x dx l : Addr} {its : Array Value} {n : Nat} {th tn tv : Tok} {nm v : Str} {rows : List (Str × Str)}
    (B : Below A₀ base outer h₀) (F : Fr h₀ L s.heap m) (X : (KF w.params).In h₀) (N : News h₀ L s.heap ((l, W.listOf its n) :: news)) (T : Top p loose mean mg mb h₀) (hke : cs.kind = .function)
    (hx : (x, instObj 188 dx) ∈ news) (hdx : (dx, hdD w.params th l) ∈ news) (hr : RowsAt news its.toList rows) (hne : ∀ q ∈ news, q.1 ≠ l)
    (hd : dp + 12 < recursionLimit) (hu : un + 80 < cLine) (hv : okT (Txt.lower nm)) (hvl : (Txt.lower nm).length < 1000) (hnl : nm.length < 100) (hn : okT nm) (hnl' : nm.length < 1000) (hv' : okT v) (hvl' : v.length < 1000) (hsz : its.size ≤ 900)
    (hret : ∀ h' tk' its' n' D t1 t2, Fr h₀ L h' m → News h₀ L h' ((l, W.listOf its' n') :: (D, tupO (.str nm t1) (.str v t2) 0) :: news) → its'.size ≤ its.size + 1 → RowsAt ((D, tupO (.str nm t1) (.str v t2) 0) :: news) its'.toList ((rows.filter fun r => !(Txt.lower r.1 == Txt.lower nm)) ++ [(nm, v)]) → @Ne Nat D l → (∀ q ∈ news, q.1 ≠ D) → R (.ok (.ret .none)) { s with heap := h', toks := tk' }) :
    codeAny (model P0 w) (ktrTop dp un gd cn cs L ca ccd cl outer) (.call (.ref 103) ⟨[.ref x, .str nm tn, .str v tv], []⟩) R s := by
  w_on
  have Nm : News h₀ L s.heap ((l, W.listOf its n) :: (x, instObj 188 dx) :: (dx, hdD w.params th l) :: news) := fun q hq => by
    rcases List.mem_cons.mp hq with rfl | hq
    · exact N _ (.head _)
    · rcases List.mem_cons.mp hq with rfl | hq
      · exact N _ (.tail _ hx)
      · rcases List.mem_cons.mp hq with rfl | hq
        · exact N _ (.tail _ hdx)
        · exact N _ (.tail _ hq)
  clear N
  have hr2 : RowsAt ((x, instObj 188 dx) :: (dx, hdD w.params th l) :: news) its.toList rows := hr.mono fun q hq => .tail _ (.tail _ hq)
  have hne2 : ∀ q ∈ ((x, instObj 188 dx) :: (dx, hdD w.params th l) :: news), q.1 ≠ l := by
    intro q hq
    rcases List.mem_cons.mp hq with rfl | hq
    · exact hne _ hx
    · rcases List.mem_cons.mp hq with rfl | hq
      · exact hne _ hdx
      · exact hne _ hq
  have hsz2 : its.size ≤ 1000 := Nat.le_trans hsz (by decide)
  have fin : ∀ h' tk' ys n' D, Fr h₀ L h' m → News h₀ L h' ((D, tupO (.str nm tn) (.str v tv) 0) :: (l, W.listOf (ys.toArray.push (.ref D)) (n' + 1)) :: (x, instObj 188 dx) :: (dx, hdD w.params th l) :: news) → ys.length ≤ its.size → RowsAt ((x, instObj 188 dx) :: (dx, hdD w.params th l) :: news) ys (rows.filter fun r => !(Txt.lower r.1 == Txt.lower nm)) → @Ne Nat D l → (∀ q ∈ news, q.1 ≠ D) → R (.ok (.ret .none)) { s with heap := h', toks := tk' } := by
    intro h' tk' ys n' D kF kN hl hrr hDl hf
    refine hret h' tk' (ys.toArray.push (.ref D)) (n' + 1) D tn tv kF (fun q hq => kN q ?_) ?_ ?_ hDl hf
    · rcases List.mem_cons.mp hq with rfl | hq
      · exact .tail _ (.head _)
      · rcases List.mem_cons.mp hq with rfl | hq
        · exact .head _
        · exact .tail _ (.tail _ (.tail _ (.tail _ hq)))
    · simpa using hl
    · rw [Array.toList_push, List.toList_toArray]
      refine RowsAt.snoc (.head _) hnl (RowsAt.mono ?_ hrr)
      intro q hq
      rcases List.mem_cons.mp hq with rfl | hq
      · exact .tail _ hx
      · rcases List.mem_cons.mp hq with rfl | hq
        · exact .tail _ hdx
        · exact .tail _ hq
  walk_at "MINE enter"
  k_steps
  refine' fin _ _ _ _ _ ?e1 ?e2 ?e3 ?e4 ?e5 ?e6
  case e1 => assumption
  case e2 => assumption
  case e3 => assumption
  case e4 => assumption
  case e5 => omega
  case e6 => exact ne_c3 (by assumption)
theorem add_header_h {x dx l : Addr} {its : Array Value} {n : Nat} {th tn tv : Tok} {nm v : Str} {rows : List (Str × Str)}
    (B : Below A₀ base outer h₀) (F : Fr h₀ L s.heap m) (X : (KF w.params).In h₀) (N : News h₀ L s.heap ((l, W.listOf its n) :: news)) (T : Top p loose mean mg mb h₀) (hke : cs.kind = .function)
    (hx : (x, instObj 188 dx) ∈ news) (hdx : (dx, hdD w.params th l) ∈ news) (hr : RowsAt news its.toList rows) (hne : ∀ q ∈ news, q.1 ≠ l)
    (hd : dp + 12 < recursionLimit) (hu : un + 80 < cLine) (hnl : nm.length < 100) (hn : okT nm) (hv' : okT v) (hvl' : v.length < 1000) (hsz : its.size ≤ 900)
    (hret : ∀ h' tk' its' n' D t1 t2, Fr h₀ L h' m → News h₀ L h' ((l, W.listOf its' n') :: (D, tupO (.str nm t1) (.str v t2) 0) :: news) → its'.size ≤ its.size + 1 → RowsAt ((D, tupO (.str nm t1) (.str v t2) 0) :: news) its'.toList (rows ++ [(nm, v)]) → @Ne Nat D l → (∀ q ∈ news, q.1 ≠ D) → R (.ok (.ret .none)) { s with heap := h', toks := tk' }) :
    codeAny (model P0 w) (ktrTop dp un gd cn cs L ca ccd cl outer) (.call (.ref 185) ⟨[.ref x, .str nm tn, .str v tv], []⟩) R s := by
  refine add_header_c (nf := fun o => (l, o) :: news) B F X N T hke (.tail _ hx) (.tail _ hdx) (UpdF.head hne) (hne _ hx) (hne _ hdx) (by omega) (by omega) hn (by omega) hv' hvl' (by omega) ?_
  intro D t' h' tk' F' N' hf
  refine hret h' tk' (its.push (.ref D)) (n + 1) D tn t' F' (fun q hq => N' q ?_) (by simp) ?_ (Ne.symm (hf _ (.head _))) (fun q hq => hf q (.tail _ hq))
  · rcases List.mem_cons.mp hq with rfl | hq
    · exact .tail _ (.head _)
    · rcases List.mem_cons.mp hq with rfl | hq
      · exact .head _
      · exact .tail _ (.tail _ hq)
  · rw [Array.toList_push]
    exact RowsAt.snoc (.head _) hnl (hr.mono fun q hq => .tail _ hq)
end

end
section -- HdF
theorem row87 : True := by (k_with_none; trivial)
theorem row88 : True := by ((k_with "MINE enter" => ((k_dflt (refine' enterM ?k1 ?k2 ?k3 ?k4 ?k5 ?kA ?kF ?kK ?k6 ?k7 ?k8 ?k9 ?kB ?_ ?c2 ?c3 ?c4 ?c5; (case kA => first | assumption | exact rfl); (case kF => first | assumption | exact rfl); (case kK => first | assumption | exact rfl); (case k1 => k_asm); (case k2 => k_asm); (case k3 => k_asm); (case k4 => k_asm); (case k5 => k_asm); (case k6 => k_is); (case k7 => k_is); (case k8 => ktr_room); (case k9 => first | exact BindsTo.of_eq rfl | exact binds_K (by k_in) rfl (by k_is) rfl rfl rfl | exact kp_binds (by k_in) (fun _ => rfl) | fail "k_enter: no rule for these arguments"); (case c5 => decide); (case kB => exact locs rfl); (case c2 => exact rfl); (case c3 => exact rfl); (case c4 => exact rfl); k_whole; intro zkg' zkL' zkh' zkgk' zkFG' zkF' zkN' zkB' zkX' zkT' zkl1; (try k_lt zkl1); (try dsimp only); (try k_lift zkB'); (try k_fold))))); trivial)
theorem fill_hf : (PySem.Challenge.rw_of0118_01.name = PySem.Challenge.rw_of0118_01.name) → (∀ P, KF P = KF P) := by
  k_fill
  intro _ _; rfl
theorem freshM {g h h' h₀ : Heap} {L L' D : Addr} {mtl news led : List (Addr × Obj)} {o : Obj} (N : News h₀ L h news) (gk : ∀ b o, h.get? b = some o → (∀ p ∈ mtl, p.1 ≠ b) → g.get? b = some o) (N' : News g L' h' led) (hD : (D, o) ∈ led) (hf : ∀ q ∈ news, ∀ p ∈ mtl, p.1 ≠ q.1) : ∀ q ∈ news, q.1 ≠ D := fun q hq e => by
  have z := gk _ _ (N q hq).1 (hf q hq)
  rw [e, (N' _ hD).2.2] at z
  cases z
section
variable {w : World} {p : Program} {loose : List Str} {mean : ExcName → Option Value} {mg mb : Str → Option Value} {A₀ : Around} {dp un : Nat} {gd : Option (List Code)} {cn : Str} {cs : Scope} {ca : Addr} {ccd : Value} {cl : List (Str × Addr)} {outer : List Env} {base h₀ : Heap} {L : Addr} {m : Str → Option Value} {s : Shared} {R : Result → Shared → Prop} {news : List (Addr × Obj)}
theorem init82 {x dx : Addr}
    (B : Below A₀ base outer h₀) (F : Fr h₀ L s.heap m) (X : (KF w.params).In h₀) (N : News h₀ L s.heap ((x, instObj 188 dx) :: (dx, emptyDict) :: news)) (T : Top p loose mean mg mb h₀) (hke : cs.kind = .function)
    (hne : @Ne Nat dx x) (f1 : ∀ q ∈ news, q.1 ≠ dx) (f2 : ∀ q ∈ news, q.1 ≠ x)
    (hd : dp + 8 < recursionLimit) (hu : un + 60 < cLine)
    (hret : ∀ h' tk' l th, Fr h₀ L h' m → News h₀ L h' ((l, W.listOf #[] 0) :: (x, instObj 188 dx) :: (dx, hdD w.params th l) :: news) → @Ne Nat x l → @Ne Nat dx l → (∀ q ∈ news, q.1 ≠ l) → R (.ok (.ret .none)) { s with heap := h', toks := tk' }) :
    codeAny (model P0 w) (ktrTop dp un gd cn cs L ca ccd cl outer) (.call (.ref 82) ⟨[.ref x], []⟩) R s := by
  w_on
  have Nm : News h₀ L s.heap [(x, instObj 188 dx), (dx, emptyDict)] := fun q hq => by
    simp only [List.mem_cons, List.not_mem_nil, or_false] at hq
    rcases hq with rfl | rfl
    · exact N _ (.head _)
    · exact N _ (.tail _ (.head _))
  have hf : ∀ q ∈ news, ∀ p ∈ [(x, instObj 188 dx), (dx, emptyDict)], p.1 ≠ q.1 := by
    intro q hq r hr
    simp only [List.mem_cons, List.not_mem_nil, or_false] at hr
    rcases hr with rfl | rfl
    · exact Ne.symm (f2 q hq)
    · exact Ne.symm (f1 q hq)
  walk_at "MINE enter"
  k_steps
  refine' hret _ _ _ _ ?e1 (News.backP (pre := [(x, instObj 188 dx), (dx, emptyDict)]) (pre' := [_, _, _]) (fun q hq => N q (.tail _ (.tail _ hq))) ?e2 hf (keep_thru (by assumption) (by assumption))) ?e4 ?e5 ?e6
  case e1 => assumption
  case e2 => assumption
  case e4 => omega
  case e5 => omega
  case e6 => exact freshM (fun q hq => N q (.tail _ (.tail _ hq))) (by assumption) (by assumption) (List.Mem.head _) hf
theorem hd_make
    (B : Below A₀ base outer h₀) (F : Fr h₀ L s.heap m) (X : (KF w.params).In h₀) (N : News h₀ L s.heap news) (T : Top p loose mean mg mb h₀) (hke : cs.kind = .function)
    (hd : dp + 12 < recursionLimit) (hu : un + 70 < cLine)
    (hret : ∀ x dx h' tk' l th, Fr h₀ L h' m → News h₀ L h' ((l, W.listOf #[] 0) :: (x, instObj 188 dx) :: (dx, hdD w.params th l) :: news) → @Ne Nat x l → @Ne Nat dx l → (∀ q ∈ news, q.1 ≠ l) → R (.ok (.ret (.ref x))) { s with heap := h', toks := tk' }) :
    codeAny (model P0 w) (ktrTop dp un gd cn cs L ca ccd cl outer) (.call (.ref 188) ⟨[], []⟩) R s := by
  w_on
  refine' make_K (K := KF w.params) (fI := 82) F N (X.keeps F.keep) ?a ?b ?c ?_
  case a => k_is
  case b => k_is
  case c => k_is
  intro x dx h' F' N' lt l
  refine init82 (s := { s with heap := h' }) (dp := dp + 1) (un := un + 1) (gd := gd) (cn := cn) (cs := cs) (ca := ca) (ccd := ccd) (cl := cl) B F' X N' T hke (Nat.ne_of_lt l) (fun q hq => Nat.ne_of_lt (lt q hq)) (fun q hq => Nat.ne_of_lt (Nat.lt_trans (lt q hq) l)) (by omega) (by omega) ?_
  intro h'' tk' l th F'' N'' n1 n2 n3
  exact ⟨rfl, hret x dx h'' tk' l th F'' N'' n1 n2 n3⟩
end

end
section -- Quo
theorem row89 : True := by (k_with_none; trivial)
noncomputable def nxt (K : Frag) (S : Setting) (t : Sem Fin) (C : Addr) : Sem Fin := match peekA K S t with | some (_, g) => g C | none => t
theorem peekA_nxt {K : Frag} {S : Setting} {t : Sem Fin} {o : Obj} (h : (peekA K S t).map (·.1) = some o) : peekA K S t = some (o, nxt K S t) := by
  obtain ⟨⟨o', g⟩, h1, h2⟩ := Option.map_eq_some_iff.mp h
  subst h2
  rw [h1]
  have : nxt K S t = g := by
    funext C
    unfold nxt
    rw [h1]
  rw [this]
theorem fill_qu : (PySem.Challenge.rw_of0118_01.name = PySem.Challenge.rw_of0118_01.name) → (∀ P, KF P = KF P) := by
  k_fill
  intro _ _; rfl
noncomputable abbrev serS (v : Str) (t : Tok) : Sem Fin := Builtin.«re.Pattern.search» ⟨[.ref 204, .str v t], []⟩
/-- the search finds something -/
structure Found (v : Str) (t : Tok) : Prop where
  o1 : ∃ o1 : Obj, o1.isFreed = false ∧ ∀ P, (peekA (KF P) ⟨P0, P⟩ (serS v t)).map (·.1) = some o1
  o2 : ∃ o2 : Addr → Obj, (∀ C, (o2 C).isFreed = false) ∧ ∀ P C, (peekA (KF P) ⟨P0, P⟩ (nxt (KF P) ⟨P0, P⟩ (serS v t) C)).map (·.1) = some (o2 C)
  o3 : ∀ P C D, nxt (KF P) ⟨P0, P⟩ (nxt (KF P) ⟨P0, P⟩ (serS v t) C) D = pure (.done (.ret (.ref D)))
noncomputable abbrev tupR (a b : Int) : Obj := { cls := .type "tuple", data := .seq #[rawInt a, rawInt b] }
noncomputable abbrev matO (v : Str) (t : Tok) (n l : Int) (C : Addr) : Obj := { cls := .type "re.Match", data := .fields #[.str v t, .ref 204, rawInt 0, rawInt n, rawInt l, .ref C] }
theorem found_hash (t : Tok) : Found (Str.ofString "#") t :=
  ⟨⟨tupR 0 1, rfl, fun P => by kernel_rfl⟩, ⟨fun C => matO (Str.ofString "#") t 1 (-1) C, fun _ => rfl, fun P C => by kernel_rfl⟩, fun P C D => by kernel_rfl⟩
theorem found_its (t : Tok) : Found (Str.ofString "it's") t :=
  ⟨⟨tupR 2 3, rfl, fun P => by kernel_rfl⟩, ⟨fun C => matO (Str.ofString "it's") t 4 (-1) C, fun _ => rfl, fun P C => by kernel_rfl⟩, fun P C D => by kernel_rfl⟩
theorem found_ITS (t : Tok) : Found (Str.ofString "IT'S") t :=
  ⟨⟨tupR 2 3, rfl, fun P => by kernel_rfl⟩, ⟨fun C => matO (Str.ofString "IT'S") t 4 (-1) C, fun _ => rfl, fun P C => by kernel_rfl⟩, fun P C D => by kernel_rfl⟩
theorem found_xy (t : Tok) : Found (Str.ofString "x y") t :=
  ⟨⟨tupR 1 2, rfl, fun P => by kernel_rfl⟩, ⟨fun C => matO (Str.ofString "x y") t 3 (-1) C, fun _ => rfl, fun P C => by kernel_rfl⟩, fun P C D => by kernel_rfl⟩
theorem found_XY (t : Tok) : Found (Str.ofString "X Y") t :=
  ⟨⟨tupR 1 2, rfl, fun P => by kernel_rfl⟩, ⟨fun C => matO (Str.ofString "X Y") t 3 (-1) C, fun _ => rfl, fun P C => by kernel_rfl⟩, fun P C D => by kernel_rfl⟩
theorem safe_z (t : Tok) (P : Params) : peek (KF P) ⟨P0, P⟩ (serS (Str.ofString "z") t) = some (.done (.ret .none)) := by kernel_rfl
theorem safe_Z (t : Tok) (P : Params) : peek (KF P) ⟨P0, P⟩ (serS (Str.ofString "Z") t) = some (.done (.ret .none)) := by kernel_rfl
theorem pk_bound (v : Str) (t : Tok) (P : Params) : peek (KF P) ⟨P0, P⟩ (checkBoundCall "re.Pattern.search" ⟨[.ref 204, .str v t], []⟩) = some () := by kernel_rfl
section
variable {w : World} {A : Around} {E : Value → Shared → Prop} {s : Shared} {h₀ : Heap} {L : Addr} {m : Str → Option Value} {news : List (Addr × Obj)}
theorem fu_call {v : Str} {t : Tok} {Q : Value → Shared → Prop} (X : (KF w.params).In s.heap)
    (h : wpAny (model P0 w) A.in1 (serS v t) (fun fin s' => ∃ r, fin = .done (.ret r) ∧ Q r s') E s) : wpAny (model P0 w) A (call (.ref 900) [.str v t]) Q E s := by
  have h900 : s.heap.get? 900 = some (o900 w.params) := X _ _ (by k_is)
  refine wpAny_call (codeAny_of_tree ?_)
  show wpAny _ _ (callAny (.ref 900) _) _ _ _
  refine nd_load h900 ?_
  show wpAny _ _ (checkBoundCall "re.Pattern.search" ⟨[.ref 204, .str v t], []⟩ >>= _) _ _ _
  refine wpAny_bind ((looksP X (pk_bound v t)).at ?_)
  refine wpAny_pure ⟨plainId_quiet re_plain _, codeAny_builtin re_entry ?_⟩
  rw [Around.under_plainId re_plain _]
  exact wpAny_mono h (fun fin s' h' => by obtain ⟨r, rfl, hq⟩ := h'; exact hq) fun _ _ e => e
theorem fu_found {v : Str} {t : Tok} {Q : Value → Shared → Prop} (F : Fr h₀ L s.heap m) (N : News h₀ L s.heap news) (X₀ : (KF w.params).In h₀) (hf : Found v t)
    (h : ∀ D h', Fr h₀ L h' m → News h₀ L h' news → Q (.ref D) { s with heap := h' }) : wpAny (model P0 w) A (call (.ref 900) [.str v t]) Q E s := by
  obtain ⟨⟨o1, f1, p1⟩, ⟨o2, f2, p2⟩, p3⟩ := hf
  have X := X₀.keeps F.keep
  refine fu_call X ?_
  refine wp_of_peekA (M := model P0 w) F N X f1 _ _ (peekA_nxt (p1 w.params)) fun h' F' N' l => ?_
  refine wp_of_peekA (M := model P0 w) (s := { s with heap := h' }) F' N' (X₀.keeps F'.keep) (f2 _) _ _ (peekA_nxt (p2 w.params _)) fun h'' F'' N'' l' => ?_
  refine wpAny_of_eq (p3 w.params _ _) ?_
  exact ⟨_, rfl, h _ h'' F'' fun q hq => N'' q (.tail _ (.tail _ hq))⟩
theorem fu_none {v : Str} {t : Tok} {Q : Value → Shared → Prop} (X : (KF w.params).In s.heap) (hf : ∀ P, peek (KF P) ⟨P0, P⟩ (serS v t) = some (.done (.ret .none))) (h : Q .none s) : wpAny (model P0 w) A (call (.ref 900) [.str v t]) Q E s :=
  fu_call X ((looksP X hf).at ⟨_, rfl, h⟩)
end
section
variable {w : World} {p : Program} {loose : List Str} {mean : ExcName → Option Value} {mg mb : Str → Option Value} {A₀ : Around} {dp un : Nat} {gd : Option (List Code)} {cn : Str} {cs : Scope} {ca : Addr} {ccd : Value} {cl : List (Str × Addr)} {outer : List Env} {base h₀ : Heap} {L : Addr} {m : Str → Option Value} {s : Shared} {R : Result → Shared → Prop} {news : List (Addr × Obj)}
theorem row90 : True := by ((k_with "MINE enter" => ((k_dflt (refine' enterM ?k1 ?k2 ?k3 ?k4 ?k5 ?kA ?kF ?kK ?k6 ?k7 ?k8 ?k9 ?kB ?_ ?c2 ?c3 ?c4 ?c5; (case kA => first | assumption | exact rfl); (case kF => first | assumption | exact rfl); (case kK => first | assumption | exact rfl); (case k1 => k_asm); (case k2 => k_asm); (case k3 => k_asm); (case k4 => k_asm); (case k5 => k_asm); (case k6 => k_is); (case k7 => k_is); (case k8 => ktr_room); (case k9 => first | exact BindsTo.of_eq rfl | exact binds_K (by k_in) rfl (by k_is) rfl rfl rfl | exact kp_binds (by k_in) (fun _ => rfl) | fail "k_enter: no rule for these arguments"); (case c5 => decide); (case kB => exact locs rfl); (case c2 => exact rfl); (case c3 => exact rfl); (case c4 => exact rfl); k_whole; intro zkg' zkL' zkh' zkgk' zkFG' zkF' zkN' zkB' zkX' zkT' zkl1; (try k_lt zkl1); (try dsimp only); (try k_lift zkB'); (try k_fold))))); trivial)
theorem row91 : True := by ((k_with "ite" => ((k_closed; k_dflt (first | refine W.ite_pos (by decide +kernel) ?_ | refine W.ite_neg (by decide +kernel) ?_)))); trivial)
theorem row92 : True := by ((k_with "call ref" => ((k_here; (k_dflt show wpAny _ _ (call (Value.ref 900) [Value.str _ _]) _ _ _); k_dflt (first | (refine' fu_found ?F ?N ?X ?f ?_; (case F => k_asm); (case N => k_asm); (case X => k_asm); (case f => assumption); k_whole; intro zkD' zkh' zkF' zkN'; (try k_sweep)) | (refine' fu_none ?X ?f ?_; (case X => k_in); (case f => assumption); k_whole))))); trivial)
theorem pk_keep (P : Params) : peek (KF P) ⟨P0, P⟩ (keeperOf (.ref 900)) = some Keeper.machine := by kernel_rfl
theorem callWith_900 {A : Around} {E : Value → Shared → Prop} {env : Env} {pos : Pos} {first : List Value} {Q : Value → Shared → Prop} {e : Expr} {rest : List Expr} (_X : (KF w.params).In h₀) (h : wpAny (model P0 w) A (spliced (backTo pos (starEach (e :: rest) env))) (fun vs s₁ => (KF w.params).In s₁.heap ∧ wpAny (model P0 w) A (call (.ref 900) (first ++ vs)) Q E s₁) E s)
    (he : starEach (e :: rest) env = (false, eval e env) :: starEach rest env := by rfl) (hplain : (backTo pos (starEach rest env)).any (·.1) = false := by rfl) :
    wpAny (model P0 w) A (callWith pos (.ref 900) first (backTo pos (starEach (e :: rest) env)) []) Q E s := by
  rw [he] at h ⊢
  exact callWith_of (by show ((false || (backTo pos (starEach rest env)).any (·.1)) || false) = false; rw [hplain]; rfl) (fun h X => ⟨.machine, .inr (.inl rfl), looksP X pk_keep⟩) (evalArgs_plain h)
theorem row93 : True := by ((k_with "callWith ref" => ((k_here; (with_reducible show wpAny _ _ (callWith _ (Value.ref 900) _ _ []) _ _ _); k_dflt (refine' callWith_900 ?k1 ?_; (case k1 => k_asm); k_whole)))); trivial)
theorem row94 : True := by ((k_with "call builtin:str.replace" => ((k_here; (dsimp only [List.cons_append, List.nil_append]); (k_dflt (refine SC.replaceW (by (show @Ne Nat _ _); omega) (by (show @Ne Nat _ _); omega) (by (show @Ne Nat _ _); omega) (by decide +kernel) (by omega) (by decide +kernel) ?_)); intro zkt' zkk'))); trivial)
theorem row95 : True := by ((k_with "ite" => ((k_dflt (first | (refine W.ite_neg (by with_reducible assumption) ?_) | (refine W.ite_neg (nf_of (by with_reducible assumption)) ?_) | (refine W.ite_pos (by with_reducible assumption) ?_))))); trivial)
theorem row96 : True := by ((k_with "ite" => ((k_closed; k_dflt (first | refine W.ite_pos (by decide +kernel) ?_ | refine W.ite_neg (by decide +kernel) ?_)))); trivial)
noncomputable abbrev qOut (v : Str) : Str := Str.ofString "'" ++ Txt.replace v (Str.ofString "'") (Str.ofString "'\"'\"'") ++ Str.ofString "'"
theorem q_found {t : Tok} {v : Str} (hv0 : v.length ≠ 0) (hvl : v.length ≤ 1000) (hf : Found v t) (hrl : (Txt.replace v (Str.ofString "'") (Str.ofString "'\"'\"'")).length ≤ 1000)
    (B : Below A₀ base outer h₀) (F : Fr h₀ L s.heap m) (X : (KF w.params).In h₀) (T : Top p loose mean mg mb h₀) (hke : cs.kind = .function) (hd : dp + 5 < recursionLimit) (hu : un + 40 < cLine)
    (hret : ∀ h' tk' t', Fr h₀ L h' m → (∀ b o, s.heap.get? b = some o → h'.get? b = some o) → R (.ok (.ret (.str (qOut v) t'))) { s with heap := h', toks := tk' }) :
    codeAny (model P0 w) (ktrTop dp un gd cn cs L ca ccd cl outer) (.call (.ref 907) ⟨[.str v t], []⟩) R s := by
  w_on
  have Nm : News h₀ L s.heap [] := News.nil
  have fin : ∀ h' tk' t', Fr h₀ L h' m → (∀ b o, s.heap.get? b = some o → (∀ q ∈ ([] : List (Addr × Obj)), q.1 ≠ b) → h'.get? b = some o) → R (.ok (.ret (.str (qOut v) t'))) { s with heap := h', toks := tk' } := fun h' tk' t' kF kk => hret h' tk' t' kF (fun b o e => kk b o e (fun _ hq => nomatch hq))
  walk_at "MINE enter"
  k_steps
  rotate_left
  · exfalso
    have : (v.length : Int) = 0 := by assumption
    omega
  refine' fin _ _ _ ?e1 ?e2
  case e1 => assumption
  case e2 => exact keep_thru (by assumption) (by assumption)
theorem q_none {t : Tok} {v : Str} (hv0 : v.length ≠ 0) (hvl : v.length ≤ 1000) (hf : ∀ P, peek (KF P) ⟨P0, P⟩ (serS v t) = some (.done (.ret .none)))
    (B : Below A₀ base outer h₀) (F : Fr h₀ L s.heap m) (X : (KF w.params).In h₀) (T : Top p loose mean mg mb h₀) (hke : cs.kind = .function) (hd : dp + 5 < recursionLimit) (hu : un + 40 < cLine)
    (hret : ∀ h' tk' t', Fr h₀ L h' m → (∀ b o, s.heap.get? b = some o → h'.get? b = some o) → R (.ok (.ret (.str v t'))) { s with heap := h', toks := tk' }) :
    codeAny (model P0 w) (ktrTop dp un gd cn cs L ca ccd cl outer) (.call (.ref 907) ⟨[.str v t], []⟩) R s := by
  w_on
  have Nm : News h₀ L s.heap [] := News.nil
  have fin : ∀ h' tk' t', Fr h₀ L h' m → (∀ b o, s.heap.get? b = some o → (∀ q ∈ ([] : List (Addr × Obj)), q.1 ≠ b) → h'.get? b = some o) → R (.ok (.ret (.str v t'))) { s with heap := h', toks := tk' } := fun h' tk' t' kF kk => hret h' tk' t' kF (fun b o e => kk b o e (fun _ hq => nomatch hq))
  walk_at "MINE enter"
  k_steps
  rotate_left
  · exfalso
    have : (v.length : Int) = 0 := by assumption
    omega
  refine' fin _ _ _ ?e1 ?e2
  case e1 => assumption
  case e2 => exact keep_thru (by assumption) (by assumption)
theorem q_empty {t : Tok}
    (B : Below A₀ base outer h₀) (F : Fr h₀ L s.heap m) (X : (KF w.params).In h₀) (T : Top p loose mean mg mb h₀) (hke : cs.kind = .function) (hd : dp + 5 < recursionLimit) (hu : un + 40 < cLine)
    (hret : ∀ h' tk' t', Fr h₀ L h' m → (∀ b o, s.heap.get? b = some o → h'.get? b = some o) → R (.ok (.ret (.str (Str.ofString "''") t'))) { s with heap := h', toks := tk' }) :
    codeAny (model P0 w) (ktrTop dp un gd cn cs L ca ccd cl outer) (.call (.ref 907) ⟨[.str (Str.ofString "") t], []⟩) R s := by
  w_on
  have Nm : News h₀ L s.heap [] := News.nil
  have fin : ∀ h' tk' t', Fr h₀ L h' m → (∀ b o, s.heap.get? b = some o → (∀ q ∈ ([] : List (Addr × Obj)), q.1 ≠ b) → h'.get? b = some o) → R (.ok (.ret (.str (Str.ofString "''") t'))) { s with heap := h', toks := tk' } := fun h' tk' t' kF kk => hret h' tk' t' kF (fun b o e => kk b o e (fun _ hq => nomatch hq))
  walk_at "MINE enter"
  k_steps
  refine' fin _ _ _ ?e1 ?e2
  case e1 => assumption
  case e2 => exact keep_thru (by assumption) (by assumption)
/-- what quote makes of a word -/
inductive QuoteIs : Str → Str → Prop
  | empty : QuoteIs (Str.ofString "") (Str.ofString "''")
  | found {v} : v.length ≠ 0 → v.length ≤ 1000 → (∀ t, Found v t) → (Txt.replace v (Str.ofString "'") (Str.ofString "'\"'\"'")).length ≤ 1000 → QuoteIs v (qOut v)
  | none {v} : v.length ≠ 0 → v.length ≤ 1000 → (∀ t P, peek (KF P) ⟨P0, P⟩ (serS v t) = some (.done (.ret .none))) → QuoteIs v v
theorem quote_c {t : Tok} {v q : Str} (hq : QuoteIs v q)
    (B : Below A₀ base outer h₀) (F : Fr h₀ L s.heap m) (X : (KF w.params).In h₀) (T : Top p loose mean mg mb h₀) (hke : cs.kind = .function) (hd : dp + 5 < recursionLimit) (hu : un + 40 < cLine)
    (hret : ∀ h' tk' t', Fr h₀ L h' m → (∀ b o, s.heap.get? b = some o → h'.get? b = some o) → R (.ok (.ret (.str q t'))) { s with heap := h', toks := tk' }) :
    codeAny (model P0 w) (ktrTop dp un gd cn cs L ca ccd cl outer) (.call (.ref 907) ⟨[.str v t], []⟩) R s := by
  cases hq with
  | empty => exact q_empty B F X T hke hd hu hret
  | found h1 h2 h3 h4 => exact q_found h1 h2 (h3 t) h4 B F X T hke hd hu hret
  | none h1 h2 h3 => exact q_none h1 h2 (h3 t) B F X T hke hd hu hret
theorem qi_hash : QuoteIs (Str.ofString "#") (Str.ofString "'#'") := (by decide +kernel : qOut (Str.ofString "#") = Str.ofString "'#'") ▸ .found (by decide +kernel) (by decide +kernel) found_hash (by decide +kernel)
theorem qi_its : QuoteIs (Str.ofString "it's") (Str.ofString "'it'\"'\"'s'") := (by decide +kernel : qOut (Str.ofString "it's") = Str.ofString "'it'\"'\"'s'") ▸ .found (by decide +kernel) (by decide +kernel) found_its (by decide +kernel)
theorem qi_ITS : QuoteIs (Str.ofString "IT'S") (Str.ofString "'IT'\"'\"'S'") := (by decide +kernel : qOut (Str.ofString "IT'S") = Str.ofString "'IT'\"'\"'S'") ▸ .found (by decide +kernel) (by decide +kernel) found_ITS (by decide +kernel)
theorem qi_xy : QuoteIs (Str.ofString "x y") (Str.ofString "'x y'") := (by decide +kernel : qOut (Str.ofString "x y") = Str.ofString "'x y'") ▸ .found (by decide +kernel) (by decide +kernel) found_xy (by decide +kernel)
theorem qi_XY : QuoteIs (Str.ofString "X Y") (Str.ofString "'X Y'") := (by decide +kernel : qOut (Str.ofString "X Y") = Str.ofString "'X Y'") ▸ .found (by decide +kernel) (by decide +kernel) found_XY (by decide +kernel)
theorem qi_z : QuoteIs (Str.ofString "z") (Str.ofString "z") := .none (by decide +kernel) (by decide +kernel) safe_z
theorem qi_Z : QuoteIs (Str.ofString "Z") (Str.ofString "Z") := .none (by decide +kernel) (by decide +kernel) safe_Z
end

end
section -- ExcN
/-- an exception with its first entry, as the ledger bears it -/
noncomputable def TrC (oe oT : Obj) (T : Addr) (X : String) (c fl : Value) : Prop := oe.cls = .type X ∧ (∃ vs, oe.data = .fields vs ∧ vs[1]? = some (.ref T) ∧ vs[2]? = some c) ∧ ∃ ts, oT.data = .fields ts ∧ ts[3]? = some fl
/-- a new exception, its context c -/
structure NewX (h h' : Heap) (e : Addr) (X : String) (c : Value) : Prop where
  keeps : ∀ b o, h.get? b = some o → h'.get? b = some o
  new : h.get? e = none
  there : ∃ ob vs, h'.get? e = some ob ∧ ob.cls = .type X ∧ ob.data = .fields vs ∧ vs[1]? = some .none ∧ vs[2]? = some c
theorem NewX.of {h h' : Heap} {e : Addr} {X : String} (x : Heap.NewExc h h' e X) : NewX h h' e X .none := by
  obtain ⟨k, n, ob, t, h1, h2, h3⟩ := x
  exact ⟨k, n, ob, _, h1, h2, h3, rfl, rfl⟩
section
variable {prog : Program} {w : World} {A A₀ : Around} {E : Value → Shared → Prop} {s : Shared} {base g h : Heap} {L a e : Addr} {m : Str → Option Value} {name : Str} {scope : Scope} {cd : Value} {X : String} {outer : List Env} {news : List (Addr × Obj)} {K : Frag} {p : Program} {loose : List Str} {mean : ExcName → Option Value} {mg mb : Str → Option Value}
theorem noteN {c : Value} {Q : Unit → Shared → Prop} (B : Below A₀ base outer g) (D : KtsDicts (outer.filterMap (·.frame)) g) (hx : NewX h s.heap e X c) (F : Fr g L h m) (N : News g L h news) (hAf : A.frames = some (envOf name scope L a cd :: outer))
    (k : ∀ h' g' oe T oT, KtsTurn (outer.filterMap (·.frame)) g g' → Fr g' L h' m → News g' L h' ((e, oe) :: (T, oT) :: news) → Below A₀ base outer g' → TrC oe oT T X c (rawInt L) → @Ne Nat e T → (∀ q ∈ news, q.1 ≠ e) → (∀ q ∈ news, q.1 ≠ T) → Q () { s with heap := h' }) (hk : scope.kind = .function := by rfl) :
    wpAny (model prog w) A (noteFrame (.ref e) (envOf name scope L a cd)) Q E s := by
  have K' := B.push (name := name) (a := a) (cd := cd) F hk
  obtain ⟨ob, vs, he, hcls, hd, hv1, hv2⟩ := hx.there
  have hsz : 1 < vs.size := (Array.getElem?_eq_some_iff.mp hv1).1
  have hBG : ∀ b o, h.get? b = some o → b ∉ (envOf name scope L a cd :: outer).filterMap (·.frame) → (hideAll h ((envOf name scope L a cd :: outer).filterMap (·.frame))).get? b = some o := fun b o q nm => hideAll_get _ q nm
  have hFF : s.heap.FunFrames (hideAll h ((envOf name scope L a cd :: outer).filterMap (·.frame))) (envOf name scope L a cd :: outer) :=
    (funFrames_hide K'.frames (fun env he b hb => List.mem_filterMap.mpr ⟨env, he, hb⟩)).of_keeps fun b o e _ => ⟨o, hx.keeps b o e, rfl⟩
  have hene : e ∉ (envOf name scope L a cd :: outer).filterMap (·.frame) := fun hm => by
    obtain ⟨_, o, ho, hnf⟩ := hFF.mem hm
    rw [he] at ho; injection ho with ho; subst ho; exact hnf vs hd
  unfold noteFrame
  simp only [show (envOf name scope L a cd).frame = some L from rfl]
  refine wpAny_bind (wpAny_field he hd hv1 ?_)
  rw [if_neg (by decide)]
  refine wpAny_bind (wpAny_frameOf_fun hAf hFF rfl fun h₁ hs₁ => ?_)
  refine wpAny_bind (wpAny_entryPlaceOf fun pl hpl => ?_)
  unfold EntryCells.newEntry newFields
  refine wpAny_bind (wpAny_newObj_type ?_ (hpl.sizeOk5 _ _ _ _ _))
  have he₁ : h₁.get? e = some ob := (hs₁.2.1 e hene).trans he
  generalize hoT : ({ cls := .type "traceback", dict := none, data := .fields ([Value.none, .ref L, .none, rawInt L, .none] ++ (if pl.isEmpty then List.replicate 6 Value.none else pl)).toArray } : Obj) = oT
  have hoTf : oT.isFreed = false := by rw [← hoT]; rfl
  have he₂ := Heap.get?_push_of_some (h := h₁) oT he₁
  refine wpAny_setField he₂ hd hsz ?_
  have hd₃ := Obj.data_mapFields hd (·.setIfInBounds 1 (Value.ref h₁.objs.size))
  have he₃ := Heap.get?_update_self (Obj.mapFields (·.setIfInBounds 1 (Value.ref h₁.objs.size))) he₂ (Obj.isFreed_of_fields hd₃)
  have hTe : h₁.objs.size ≠ e := Nat.ne_of_gt (Heap.lt_size he₁)
  have keep : ∀ b o, b ≠ e → h₁.get? b = some o → ((h₁.push oT).update e (Obj.mapFields (·.setIfInBounds 1 (Value.ref h₁.objs.size)))).get? b = some o := fun b o hbe hb => by
    rw [Heap.get?_update_other _ _ (Ne.symm hbe)]
    exact Heap.get?_push_of_some _ hb
  have hT₃ : ((h₁.push oT).update e (Obj.mapFields (·.setIfInBounds 1 (Value.ref h₁.objs.size)))).get? h₁.objs.size = some oT := by
    rw [Heap.get?_update_other _ _ (Ne.symm hTe)]
    exact Heap.get?_push_size h₁ hoTf
  have ne : ∀ b o, h.get? b = some o → b ≠ e := fun b o hb z => by rw [z, hx.new] at hb; cases hb
  have hsm : h.UpToSlots ((h₁.push oT).update e (Obj.mapFields (·.setIfInBounds 1 (Value.ref h₁.objs.size)))) := fun b o hb _ => by
    obtain ⟨sl, hs⟩ := hs₁.2.2 b o (hx.keeps b o hb)
    exact ⟨sl, keep b _ (ne b o hb) hs⟩
  have hBh : (hideAll h ((envOf name scope L a cd :: outer).filterMap (·.frame))).StaysIn ((h₁.push oT).update e (Obj.mapFields (·.setIfInBounds 1 (Value.ref h₁.objs.size)))) := fun b o hb => by
    have hb' := of_hideAll _ hb
    refine keep b o (ne b o hb') ((hs₁.2.1 b fun hm => ?_).trans (hx.keeps b o hb'))
    rw [hideAll_none _ hm] at hb; cases hb
  generalize (h₁.push oT).update e (Obj.mapFields (·.setIfInBounds 1 (Value.ref h₁.objs.size))) = h' at *
  obtain ⟨g', T', F', B'⟩ := kts_ground B F hBG hBh hsm
  have nf : ∀ q ∈ news, q.1 ∉ (envOf name scope L a cd :: outer).filterMap (·.frame) := fun q hq hm => by
    rcases kts_mem hm with z | z
    · exact (N q hq).2.1 z
    · obtain ⟨_, o, ho, _⟩ := B.frames.mem z
      rw [(N q hq).2.2] at ho; cases ho
  have hh₁ : ∀ b o, h.get? b = some o → b ≠ h₁.objs.size := fun b o hb z => by
    obtain ⟨sl, hs⟩ := hs₁.2.2 b o (hx.keeps b o hb)
    rw [z] at hs
    exact absurd (Heap.lt_size hs) (Nat.lt_irrefl _)
  have hTL : h₁.objs.size ≠ L := fun q => by
    obtain ⟨oL, es, ep, hL, hLd, _⟩ := F.ns
    exact hh₁ _ _ hL q.symm
  have heL : e ≠ L := fun q => by
    obtain ⟨oL, es, ep, hL, hLd, _⟩ := F.ns
    exact ne _ _ hL q.symm
  have ge : g'.get? e = none := T'.none_ _ (kts_none F.keep hx.new)
  have gT : g'.get? h₁.objs.size = none := T'.none_ _ (by
    cases q : g.get? h₁.objs.size with
    | none => rfl
    | some o => exact absurd rfl (hh₁ _ _ (F.keep _ _ q)))
  refine k h' g' _ h₁.objs.size oT T' F' (fun q hq => ?_) B' ⟨?_, ⟨_, hd₃, by simp [hsz], ?_⟩, _, by rw [← hoT], ?_⟩ (Ne.symm hTe) (fun q hq => ne _ _ (N q hq).1) (fun q hq => hh₁ _ _ (N q hq).1)
  · rcases List.mem_cons.mp hq with rfl | hq
    · exact ⟨he₃, heL, ge⟩
    · rcases List.mem_cons.mp hq with rfl | hq
      · exact ⟨hT₃, hTL, gT⟩
      · exact ⟨hBh _ _ (hBG _ _ (N q hq).1 (nf q hq)), (N q hq).2.1, T'.none_ _ (N q hq).2.2⟩
  · exact (Obj.cls_mapFields _ _).trans hcls
  · rw [Array.getElem?_setIfInBounds_ne (by decide)]; exact hv2
  · simp
theorem flightN {Q : Unit → Shared → Prop} {c : Value} {oe oT : Obj} {T : Addr} {fl : Value} {fr : Option Addr} (F : Fr g L s.heap m) (N : News g L s.heap ((e, oe) :: (T, oT) :: news)) (hT : TrC oe oT T X c fl) (hne : @Ne Nat e T) (hf : ∀ q ∈ news, q.1 ≠ T)
    (k : ∀ h' oT', Fr g L h' m → News g L h' ((e, oe) :: (T, oT') :: news) → TrC oe oT' T X c (fr.elim .none fun f => rawInt f) → Q () { s with heap := h' }) :
    wpAny (model prog w) A (setFlight (.ref e) fr) Q E s := by
  obtain ⟨hc, ⟨vs, hd, h1, hc2⟩, ts, hdT, h3⟩ := hT
  have He := (N _ (.head _)).1
  have HT := N _ (.tail _ (.head _))
  have hsz : 3 < ts.size := (Array.getElem?_eq_some_iff.mp h3).1
  unfold setFlight
  refine wpAny_bind (wpAny_field He hd h1 ?_)
  rw [if_pos (show (Value.ref T != Value.none) = true from by simp)]
  refine wpAny_setField HT.1 hdT hsz ?_
  have sb : Heap.SameBut T s.heap (s.heap.update T (Obj.mapFields (·.setIfInBounds 3 (fr.elim .none fun f => rawInt f)))) := Heap.SameBut.update ..
  have hdT' := Obj.data_mapFields hdT (·.setIfInBounds 3 (fr.elim .none fun f => rawInt f))
  have HT' := Heap.get?_update_self (Obj.mapFields (·.setIfInBounds 3 (fr.elim .none fun f => rawInt f))) HT.1 (Obj.isFreed_of_fields hdT')
  refine k _ _ (F.change sb HT.2.1 HT.2.2) (news_set (pre := [(e, oe)]) N (fun q hq => ?_) hf sb HT') ⟨hc, ⟨vs, hd, h1, hc2⟩, _, hdT', ?_⟩
  · rw [List.mem_singleton] at hq
    subst hq
    exact hne
  · simp [hsz]
theorem noteAgain {Q : Unit → Shared → Prop} {c : Value} {oe oT : Obj} {T : Addr} {env : Env} (hf : env.frame = some L) (N : News g L s.heap ((e, oe) :: (T, oT) :: news)) (hT : TrC oe oT T X c (rawInt L)) (h : Q () s) :
    wpAny (model prog w) A (noteFrame (.ref e) env) Q E s := by
  obtain ⟨hc, ⟨vs, hd, h1, hc2⟩, ts, hdT, h3⟩ := hT
  unfold noteFrame
  simp only [hf]
  refine wpAny_bind (wpAny_field (N _ (.head _)).1 hd h1 ?_)
  rw [if_pos (show (Value.ref T != Value.none) = true from by simp)]
  refine wpAny_bind (wpAny_field (N _ (.tail _ (.head _))).1 hdT h3 ?_)
  rw [if_pos (show (rawInt L == rawInt L) = true from by simp)]
  exact wpAny_pure h
theorem cameBackN {c : Value} {oe oT : Obj} {T : Addr} {fl : Value} {env : Env} (hfr : env.frame = some L) (F : Fr g L s.heap m) (N : News g L s.heap ((e, oe) :: (T, oT) :: news)) (hT : TrC oe oT T X c fl) (hne : @Ne Nat e T) (hf : ∀ q ∈ news, q.1 ≠ T)
    (k : ∀ h' oT', Fr g L h' m → News g L h' ((e, oe) :: (T, oT') :: news) → TrC oe oT' T X c (rawInt L) → E (.ref e) { s with heap := h' }) : cameBackBy (model prog w) A env E (.ref e) s := by
  obtain ⟨hc, ⟨vs, hd, h1, hc2⟩, ts, hdT, h3⟩ := id hT
  unfold cameBackBy
  refine wpAny_bind (wpAny_field (N _ (.head _)).1 hd h1 ?_)
  rw [if_neg (by simp)]
  rw [hfr]
  exact flightN F N hT hne hf k
theorem passOnN {α : Type} {Q : α → Shared → Prop} {wh : String} {c : Value} {oe oT : Obj} {T : Addr} {fl : Value} {env : Env} (hfr : env.frame = some L) (F : Fr g L s.heap m) (N : News g L s.heap ((e, oe) :: (T, oT) :: news)) (hT : TrC oe oT T X c fl) (hne : @Ne Nat e T) (hf : ∀ q ∈ news, q.1 ≠ T)
    (k : ∀ h' oT', Fr g L h' m → News g L h' ((e, oe) :: (T, oT') :: news) → TrC oe oT' T X c (rawInt L) → E (.ref e) { s with heap := h' }) : wpAny (model prog w) A (PySem.passOn (α := α) wh (.ref e) env) Q E s := by
  obtain ⟨hc, ⟨vs, hd, h1, hc2⟩, ts, hdT, h3⟩ := id hT
  unfold PySem.passOn
  refine wpAny_bind (wpAny_field (N _ (.head _)).1 hd h1 ?_)
  rw [if_neg (by simp)]
  rw [hfr]
  exact wpAny_bind (flightN F N hT hne hf fun h' oT' F' N' hT' => wpAny_throw (k h' oT' F' N' hT'))
theorem handleN {Q : Flow → Shared → Prop} {c : Value} {oe oT : Obj} {T : Addr} {fl : Value} {x : Str} {T' : String} {b₀ : Stmt} {suite : List Stmt} {pos np : Pos} {rest : List ExceptHandler} (X₀ : K.In g) (P : Top p loose mean mg mb g) (F : Fr g L s.heap m) (N : News g L s.heap ((e, oe) :: (T, oT) :: news)) (hT : TrC oe oT T X c fl) (hne : @Ne Nat e T) (hf : ∀ q ∈ news, q.1 ≠ T)
    (ex : nsIn K mainGlobals x = some none) (hv : bootBuiltins x = some (.type T')) (hn' : x ≠ "__name__")
    (hexc : isSubtype (.type T') (.type "BaseException") = pure true) (hnt : isSubtype (.type ((Manifest.find? T').elim "type" fun y => y.metatype)) (.type "tuple") = pure false) (hsub : isSubtype (.type X) (.type T') = pure true)
    (k : ∀ h' oT', Fr g L h' m → News g L h' ((e, oe) :: (T, oT') :: news) → TrC oe oT' T X c .none → wpAny (model prog w) (A.mark (some (.ref e))) (execs (b₀ :: suite) (envOf name scope L a cd)) Q E { s with heap := h' })
    (hk : scope.kind = .function := by rfl) (hx : (envOf name scope L a cd).kindOf x = some .globalImplicit := by rfl) (hd : (x == ("__debug__" : Str)) = false := by decide)
    (hE : PassesOwnAt (model prog w) (A.mark (some (.ref e))) A (envOf name scope L a cd) E := by passes_own) :
    wpAny (model prog w) A (handleBy (.ref e) (envOf name scope L a cd) (.ExceptHandler (some (.Name x np)) none (b₀ :: suite) pos :: rest)) Q E s := by
  refine wpAny_handleBy_builtin (X := X) (T := T') (b := true) hexc hnt hsub (name_B F X₀ (topRead_of P) ex hv hn' ⟨rfl, ⟨oe, (N _ (.head _)).1, hT.1⟩, ?_⟩ hk hx hd)
  exact flightN F N hT hne hf fun h' oT' F' N' hT' => wpAny_passesOwnAt hE (k h' oT' F' N' hT')
theorem caughtX {c : Value} {Q : Flow → Shared → Prop} {x : Str} {T' : String} {b₀ : Stmt} {suite : List Stmt} {pos np : Pos} {rest : List ExceptHandler} (XB : K.In base) (TB : Top p loose mean mg mb base) (B : Below A₀ base outer g) (D : KtsDicts (outer.filterMap (·.frame)) g) (hx : NewX h s.heap e X c) (F : Fr g L h m) (N : News g L h news) (hAf : A.frames = some (envOf name scope L a cd :: outer))
    (ex : nsIn K mainGlobals x = some none) (hv : bootBuiltins x = some (.type T')) (hn' : x ≠ "__name__")
    (hexc : isSubtype (.type T') (.type "BaseException") = pure true) (hnt : isSubtype (.type ((Manifest.find? T').elim "type" fun y => y.metatype)) (.type "tuple") = pure false) (hsub : isSubtype (.type X) (.type T') = pure true)
    (k : ∀ h' g', KtsTurn (outer.filterMap (·.frame)) g g' → Fr g' L h' m → News g' L h' news → Below A₀ base outer g' → K.In g' → Top p loose mean mg mb g' → KtsDicts (outer.filterMap (·.frame)) g' → wpAny (model prog w) (A.mark (some (.ref e))) (execs (b₀ :: suite) (envOf name scope L a cd)) Q E { s with heap := h' })
    (hk : scope.kind = .function := by rfl) (hx' : (envOf name scope L a cd).kindOf x = some .globalImplicit := by rfl) (hd : (x == ("__debug__" : Str)) = false := by decide)
    (hE : PassesOwnAt (model prog w) (A.mark (some (.ref e))) A (envOf name scope L a cd) E := by passes_own) :
    wpAny (model prog w) A (noteFrame (.ref e) (envOf name scope L a cd)) (fun _ s₂ => wpAny (model prog w) A (setFlight (.ref e) none) (fun _ s₃ =>
      wpAny (model prog w) A (handleBy (.ref e) (envOf name scope L a cd) (.ExceptHandler (some (.Name x np)) none (b₀ :: suite) pos :: rest)) Q E s₃) E s₂) E s := by
  refine noteN B D hx F N hAf ?_ hk
  intro h' g' oe T oT TT F' N' B' hT hne f1 f2
  refine flightN (s := { s with heap := h' }) F' N' hT hne f2 ?_
  intro h'' oT' F'' N'' hT'
  refine handleN (s := { s with heap := h'' }) (XB.keeps B'.stays) (TB.keeps B'.stays) F'' N'' hT' hne f2 ex hv hn' hexc hnt hsub ?_ hk hx' hd hE
  intro h₃ oT'' F₃ N₃ hT''
  exact k h₃ g' TT F₃ (fun q hq => N₃ q (.tail _ (.tail _ hq))) B' (XB.keeps B'.stays) (TB.keeps B'.stays) (D.turn TT)
theorem caughtH {c : Value} {Q : Flow → Shared → Prop} {oe oT : Obj} {T : Addr} {x : Str} {T' : String} {b₀ : Stmt} {suite : List Stmt} {pos np : Pos} {rest : List ExceptHandler} (X₀ : K.In g) (P : Top p loose mean mg mb g) (F : Fr g L s.heap m) (N : News g L s.heap ((e, oe) :: (T, oT) :: news)) (hT : TrC oe oT T X c (rawInt L)) (hne : @Ne Nat e T) (hf : ∀ q ∈ news, q.1 ≠ T)
    (ex : nsIn K mainGlobals x = some none) (hv : bootBuiltins x = some (.type T')) (hn' : x ≠ "__name__")
    (hexc : isSubtype (.type T') (.type "BaseException") = pure true) (hnt : isSubtype (.type ((Manifest.find? T').elim "type" fun y => y.metatype)) (.type "tuple") = pure false) (hsub : isSubtype (.type X) (.type T') = pure true)
    (k : ∀ h', Fr g L h' m → News g L h' news → wpAny (model prog w) (A.mark (some (.ref e))) (execs (b₀ :: suite) (envOf name scope L a cd)) Q E { s with heap := h' })
    (hk : scope.kind = .function := by rfl) (hx' : (envOf name scope L a cd).kindOf x = some .globalImplicit := by rfl) (hd : (x == ("__debug__" : Str)) = false := by decide)
    (hE : PassesOwnAt (model prog w) (A.mark (some (.ref e))) A (envOf name scope L a cd) E := by passes_own) :
    wpAny (model prog w) A (noteFrame (.ref e) (envOf name scope L a cd)) (fun _ s₂ => wpAny (model prog w) A (setFlight (.ref e) none) (fun _ s₃ =>
      wpAny (model prog w) A (handleBy (.ref e) (envOf name scope L a cd) (.ExceptHandler (some (.Name x np)) none (b₀ :: suite) pos :: rest)) Q E s₃) E s₂) E s := by
  refine noteAgain rfl N hT ?_
  refine flightN F N hT hne hf ?_
  intro h'' oT' F'' N'' hT'
  refine handleN (s := { s with heap := h'' }) X₀ P F'' N'' hT' hne hf ex hv hn' hexc hnt hsub ?_ hk hx' hd hE
  intro h₃ oT'' F₃ N₃ hT''
  exact k h₃ F₃ (fun q hq => N₃ q (.tail _ (.tail _ hq)))
/-- an exception out of the body of try .. finally, up to the final suite -/
theorem finRaised {c : Value} {Q : Flow → Shared → Prop} {f₀ : Stmt} {fs : List Stmt} (B : Below A₀ base outer g) (D : KtsDicts (outer.filterMap (·.frame)) g) (hx : NewX h s.heap e X c) (F : Fr g L h m) (N : News g L h news) (hAf : A.frames = some (envOf name scope L a cd :: outer))
    (k : ∀ h' g' oe T oT, KtsTurn (outer.filterMap (·.frame)) g g' → Fr g' L h' m → News g' L h' ((e, oe) :: (T, oT) :: news) → Below A₀ base outer g' → KtsDicts (outer.filterMap (·.frame)) g' → TrC oe oT T X c .none → @Ne Nat e T → (∀ q ∈ news, q.1 ≠ e) → (∀ q ∈ news, q.1 ≠ T) →
      wpAny (model prog w) (A.mark (some (.ref e))) (execs (f₀ :: fs) (envOf name scope L a cd))
        (fun g s₂ => match g with | .next => wpAny (model prog w) A (PySem.passOn "try.finally" (.ref e) (envOf name scope L a cd)) Q E s₂ | g => wpAny (model prog w) A (setFlight (.ref e) none) (fun _ s₃ => Q g s₃) E s₂) (notedBy (model prog w) (A.mark (some (.ref e))) (envOf name scope L a cd) (cameBackBy (model prog w) A (envOf name scope L a cd) E)) { s with heap := h' })
    (hk : scope.kind = .function := by rfl) :
    wpAny (model prog w) A (noteFrame (.ref e) (envOf name scope L a cd)) (fun _ s₂ => FinallyRaised prog w A E (envOf name scope L a cd) (f₀ :: fs) Q (.ref e) s₂) (FinallyRaised prog w A E (envOf name scope L a cd) (f₀ :: fs) Q) s := by
  refine noteN B D hx F N hAf ?_ hk
  intro h' g' oe T oT TT F' N' B' hT hne f1 f2
  refine ⟨ref_ne_byPass _, ?_⟩
  refine noteAgain (s := { s with heap := h' }) rfl N' hT ?_
  refine flightN (s := { s with heap := h' }) F' N' hT hne f2 ?_
  intro h'' oT' F'' N'' hT'
  exact k h'' g' oe T oT' TT F'' N'' B' (D.turn TT) hT' hne f1 f2
/-- an exception out of a frame's inner code, noted there and come back -/
theorem notedBack {c : Value} {A' : Around} (B : Below A₀ base outer g) (D : KtsDicts (outer.filterMap (·.frame)) g) (hx : NewX h s.heap e X c) (F : Fr g L h m) (N : News g L h news) (hAf : A.frames = some (envOf name scope L a cd :: outer))
    (k : ∀ h' g' oe T oT, KtsTurn (outer.filterMap (·.frame)) g g' → Fr g' L h' m → News g' L h' ((e, oe) :: (T, oT) :: news) → Below A₀ base outer g' → KtsDicts (outer.filterMap (·.frame)) g' → TrC oe oT T X c (rawInt L) → @Ne Nat e T → (∀ q ∈ news, q.1 ≠ e) → (∀ q ∈ news, q.1 ≠ T) → E (.ref e) { s with heap := h' })
    (hk : scope.kind = .function := by rfl) :
    notedBy (model prog w) A (envOf name scope L a cd) (cameBackBy (model prog w) A' (envOf name scope L a cd) E) (.ref e) s := by
  refine noteN B D hx F N hAf ?_ hk
  intro h' g' oe T oT TT F' N' B' hT hne f1 f2
  refine cameBackN (s := { s with heap := h' }) rfl F' N' hT hne f2 ?_
  intro h'' oT' F'' N'' hT'
  exact k h'' g' oe T oT' TT F'' N'' B' (D.turn TT) hT' hne f1 f2
theorem entry_unchain : entryFor table "proto.unchain" = some Builtin.«proto.unchain» := entryFor_of_tree (by kernel_rfl)
theorem plain_unchain : plainId "proto.unchain" = true := by decide +kernel
theorem outH {l e1 : Addr} {items : Array Value} {k : Int} {t : Tok} {Q : Value → Shared → Prop} {o1 : Obj} {vs1 : Array Value} (hA : A.handled = some (.ref e1)) (h1 : s.heap.get? e1 = some o1) (hd1 : o1.data = .fields vs1) (hv1 : vs1[2]? = some .none) (hl : s.heap.IsList l items)
    (hlo : 0 ≤ k) (hout : (items.size : Int) ≤ k) (hhi : k < 2 ^ 63)
    (hE : ∀ h' tk e, NewX s.heap h' e "IndexError" (.ref e1) → E (.ref e) { s with heap := h', toks := tk }) :
    wpAny (model prog w) A (getItem (.ref l) (.int k t)) Q E s := by
  obtain ⟨o, ho, hc, ne, hd⟩ := id hl
  have raise : ∀ (α : Type) (A' : Around) (Q' : α → Shared → Prop), A'.handled = some (.ref e1) → wpAny (model prog w) A' (raiseErrorWords (α := α) "IndexError" "list index out of range") Q' E s := by
    intro α A' Q' hA'
    unfold raiseErrorWords
    refine wpAny_bind (wpAny_mkText (wpAny_bind ?_))
    unfold newExc newTuple
    refine wpAny_bind (wpAny_newObj_type ?_)
    refine wpAny_bind (m := firstArgMember _ _) (wpAny_of_eq (a := Value.none) (by simp only [firstArgMember, plainExc_IndexError.first]; rfl) ?_)
    rw [plainExc_IndexError.own]
    refine wpAny_newObj_type ?_
    unfold raiseNew
    refine wpAny_bind (wpAny_handled ?_)
    rw [hA']
    have hlt : (e1 : Nat) < s.heap.objs.size := Heap.lt_size h1
    generalize htup : ({ cls := .type "tuple", data := .seq #[Value.str (Str.ofString "list index out of range") s.toks] } : Obj) = tup
    have hE1 : (s.heap.push tup).objs.size = s.heap.objs.size + 1 := Heap.size_push ..
    have hne : ((Value.ref e1 : Value) != Value.ref (s.heap.push tup).objs.size) = true := by
      have : ¬ e1 = s.heap.objs.size + 1 := Nat.ne_of_lt (Nat.lt_succ_of_lt hlt)
      simp [bne, this]
    show wpAny _ _ (if (Value.ref e1 != Value.ref (s.heap.push tup).objs.size) = true then _ else _) _ _ _
    rw [if_pos hne]
    refine wpAny_bind (wpAny_holding (wpAny_runValue (codeAny_builtin entry_unchain ?_)))
    rw [Around.under_plainId plain_unchain _]
    unfold Builtin.«proto.unchain»
    have h1' := Heap.get?_push_of_some (h := s.heap.push tup) { cls := .type "IndexError", data := .fields #[.ref s.heap.objs.size, .none, .none, .none, .bool false, .none] } (Heap.get?_push_of_some tup h1)
    refine wpAny_bind (wpAny_field h1' hd1 hv1 ?_)
    rw [if_pos (by decide)]
    refine wpAny_pure ?_
    show wpAny (model prog w) A' (setField (.ref (s.heap.push tup).objs.size) 2 (.ref e1) >>= fun _ => throw (.ref (s.heap.push tup).objs.size)) _ _ { heap := (s.heap.push tup).push { cls := .type "IndexError", data := .fields #[.ref s.heap.objs.size, .none, .none, .none, .bool false, .none] }, gens := s.gens, drawn := s.drawn, toks := s.toks + 1, os := s.os }
    generalize hex : ({ cls := .type "IndexError", data := .fields #[.ref s.heap.objs.size, .none, .none, .none, .bool false, .none] } : Obj) = ex
    have hexd : ex.data = .fields #[.ref s.heap.objs.size, .none, .none, .none, .bool false, .none] := by rw [← hex]
    have hexc : ex.cls = .type "IndexError" := by rw [← hex]
    have hg : ((s.heap.push tup).push ex).get? (s.heap.push tup).objs.size = some ex := Heap.get?_push_size _ (by rw [← hex]; rfl)
    refine wpAny_bind ?_
    refine wpAny_setField (s := { heap := (s.heap.push tup).push ex, gens := s.gens, drawn := s.drawn, toks := s.toks + 1, os := s.os }) hg hexd (i := 2) (x := .ref e1) (by show 2 < 6; decide) ?_
    refine wpAny_throw ?_
    have hd₃ := Obj.data_mapFields hexd (·.setIfInBounds 2 (Value.ref e1))
    have he₃ := Heap.get?_update_self (Obj.mapFields (·.setIfInBounds 2 (Value.ref e1))) hg (Obj.isFreed_of_fields hd₃)
    refine hE _ _ _ ⟨fun b o hb => ?_, ?_, _, _, he₃, (Obj.cls_mapFields _ _).trans hexc, hd₃, rfl, rfl⟩
    · have hb' : (b : Nat) < s.heap.objs.size := Heap.lt_size hb
      rw [Heap.get?_update_other _ _ (by rw [hE1]; exact Nat.ne_of_gt (Nat.lt_succ_of_lt hb'))]
      exact Heap.get?_push_of_some _ (Heap.get?_push_of_some _ hb)
    · exact Heap.get?_none_of_le (by rw [hE1]; exact Nat.le_succ _)
  unfold getItem
  try with_reducible refine wpAny_holding ?_
  first | refine wpAny_bind (wpAny_pure ?_) | skip
  refine wpAny_bind (wpAny_sequenceKey hl.typeIs (by decide) ?_)
  refine wpAny_bind (wpAny_callSpecial?_slot (name := Str.ofString "__getitem__") hl.typeIs slot_list_getitem
    (wpAny_call_entry slot_list_getitem hl.typeIs entry_list_getitem ?_ (args_list_getitem _ _)))
  show wpAny _ _ (Builtin.List.listSubscript? (.int k t) >>= _) _ _ s
  refine wpAny_bind (wpAny_listSubscript_int (fitsIndex_of hlo hhi) ?_)
  clear hhi
  obtain ⟨j, rfl⟩ := Int.eq_ofNat_of_zero_le hlo
  have hx : items[j]? = none := Array.getElem?_eq_none (by omega)
  show wpAny _ _ ((seqItemAt l j >>= fun r => pure (r.map (j, ·))) >>= _) _ _ s
  refine wpAny_bind (wpAny_bind (wpAny_seqItemAt ho hd (wpAny_pure ?_)))
  rw [hx]
  first
    | exact wpAny_bind (wpAny_rule (raise _ _ _ hA))
    | exact wpAny_bind (wpAny_rule (wpAny_bind (raise _ _ _ hA)))
    | exact wpAny_bind (wpAny_bind (wpAny_rule (raise _ _ _ hA)))
    | exact wpAny_rule (raise _ _ _ hA)
end

end
section -- SldA
theorem row97 : True := by (k_with_none; trivial)
noncomputable abbrev sdM (ev av : Option Value) (iv jv : Value) (E A M U : Addr) : Str → Option Value := fun y => if y = Str.ofString "e" then ev else if y = Str.ofString "a" then av else if y = Str.ofString "i" then some iv else if y = Str.ofString "j" then some jv else if y = Str.ofString "missing" then some (.ref M) else if y = Str.ofString "unexpected" then some (.ref U) else if y = Str.ofString "expected" then some (.ref E) else if y = Str.ofString "actual" then some (.ref A) else none
section
variable {ev av : Option Value} {iv jv v1 v2 v3 v4 : Value} {E A M U : Addr}
theorem dn_ea : ¬ (Str.ofString "a" = Str.ofString "e") := by decide +kernel
theorem dn_ei : ¬ (Str.ofString "i" = Str.ofString "e") := by decide +kernel
theorem dn_ai : ¬ (Str.ofString "i" = Str.ofString "a") := by decide +kernel
theorem dn_ej : ¬ (Str.ofString "j" = Str.ofString "e") := by decide +kernel
theorem dn_aj : ¬ (Str.ofString "j" = Str.ofString "a") := by decide +kernel
theorem dn_ij : ¬ (Str.ofString "j" = Str.ofString "i") := by decide +kernel
theorem sdM_e (y : Str) : (if y = Str.ofString "e" then some v1 else sdM ev av iv jv E A M U y) = sdM (some v1) av iv jv E A M U y := by
  by_cases h : y = Str.ofString "e" <;> simp [sdM, h]
theorem sdM_a (y : Str) : (if y = Str.ofString "a" then some v1 else sdM ev av iv jv E A M U y) = sdM ev (some v1) iv jv E A M U y := by
  by_cases h : y = Str.ofString "a"
  · subst h; simp [sdM, dn_ea]
  · simp [sdM, h]
theorem sdM_i (y : Str) : (if y = Str.ofString "i" then some v1 else sdM ev av iv jv E A M U y) = sdM ev av v1 jv E A M U y := by
  by_cases h : y = Str.ofString "i"
  · subst h; simp [sdM, dn_ei, dn_ai]
  · simp [sdM, h]
theorem sdM_j (y : Str) : (if y = Str.ofString "j" then some v1 else sdM ev av iv jv E A M U y) = sdM ev av iv v1 E A M U y := by
  by_cases h : y = Str.ofString "j"
  · subst h; simp [sdM, dn_ej, dn_aj, dn_ij]
  · simp [sdM, h]
theorem eq_e : (fun y => if y = Str.ofString "e" then some v1 else sdM ev av iv jv E A M U y) = sdM (some v1) av iv jv E A M U := funext sdM_e
theorem eq_eai : (fun y => if y = Str.ofString "i" then some v3 else if y = Str.ofString "a" then some v2 else if y = Str.ofString "e" then some v1 else sdM ev av iv jv E A M U y) = sdM (some v1) (some v2) v3 jv E A M U := funext fun y => by rw [sdM_e, sdM_a, sdM_i]
theorem eq_eaj : (fun y => if y = Str.ofString "j" then some v3 else if y = Str.ofString "a" then some v2 else if y = Str.ofString "e" then some v1 else sdM ev av iv jv E A M U y) = sdM (some v1) (some v2) iv v3 E A M U := funext fun y => by rw [sdM_e, sdM_a, sdM_j]
theorem eq_eaij : (fun y => if y = Str.ofString "j" then some v4 else if y = Str.ofString "i" then some v3 else if y = Str.ofString "a" then some v2 else if y = Str.ofString "e" then some v1 else sdM ev av iv jv E A M U y) = sdM (some v1) (some v2) v3 v4 E A M U := funext fun y => by rw [sdM_e, sdM_a, sdM_i, sdM_j]
end
theorem fill_sl : (PySem.Challenge.rw_of0118_01.name = PySem.Challenge.rw_of0118_01.name) → (∀ P, KF P = KF P) := by
  k_fill
  intro _ _; rfl
section
variable {w : World} {A : Around} {E : Value → Shared → Prop} {s : Shared} {h₀ : Heap} {L : Addr} {m : Str → Option Value} {news : List (Addr × Obj)} {Q : Value → Shared → Prop}
theorem itemS {value slice : PySem.Expr} {l : Addr} {its : Array Value} {n : Nat} {k : Int} {u : Tok} {v : Value} (N : News h₀ L s.heap news) (hl : (l, W.listOf its n) ∈ news) (h0 : 0 ≤ k) (hhi : k < 1000) (hx : its[k.toNat]? = some v) (h : Q v s)
    (hs : subscripted slice false (.ref l) (.int k u) = operate [.ref l, .int k u] (getItem (.ref l) (.int k u)) := by with_unfolding_all rfl) :
    wpAny (model P0 w) A (subscriptTail value slice (.ref l) (.int k u)) Q E s :=
  have IL : s.heap.IsList l its := PySem.IsL.isList (n := n) (N _ hl).1
  tail_any IL.typeIs slot_list_getitem.lookup (wpAny_getItem_list IL h0 (by omega) hx h) hs
theorem outS {value slice : PySem.Expr} {l : Addr} {its : Array Value} {n : Nat} {k : Int} {u : Tok} (hA : A.handled = none) (N : News h₀ L s.heap news) (hl : (l, W.listOf its n) ∈ news) (h0 : 0 ≤ k) (hhi : k < 1000) (hx : its[k.toNat]? = none)
    (hE : ∀ h' tk e, NewX s.heap h' e "IndexError" .none → E (.ref e) { s with heap := h', toks := tk })
    (hs : subscripted slice false (.ref l) (.int k u) = operate [.ref l, .int k u] (getItem (.ref l) (.int k u)) := by with_unfolding_all rfl) :
    wpAny (model P0 w) A (subscriptTail value slice (.ref l) (.int k u)) Q E s :=
  have IL : s.heap.IsList l its := PySem.IsL.isList (n := n) (N _ hl).1
  tail_any IL.typeIs slot_list_getitem.lookup (wpAny_getItem_list_out hA IL (.inr (by have := Array.getElem?_eq_none_iff.mp hx; omega)) (by omega) (by omega) fun h' tk e x => hE h' tk e (NewX.of x)) hs
theorem outSH {value slice : PySem.Expr} {l e1 T : Addr} {oe oT : Obj} {its : Array Value} {n : Nat} {k : Int} {u : Tok} {fl : Value} (hA : A.handled = some (.ref e1)) (N : News h₀ L s.heap news) (hl : (l, W.listOf its n) ∈ news) (he : (e1, oe) ∈ news) (hT : TrC oe oT T "IndexError" .none fl) (h0 : 0 ≤ k) (hhi : k < 1000) (hx : its[k.toNat]? = none)
    (hE : ∀ h' tk e, NewX s.heap h' e "IndexError" (.ref e1) → E (.ref e) { s with heap := h', toks := tk })
    (hs : subscripted slice false (.ref l) (.int k u) = operate [.ref l, .int k u] (getItem (.ref l) (.int k u)) := by with_unfolding_all rfl) :
    wpAny (model P0 w) A (subscriptTail value slice (.ref l) (.int k u)) Q E s :=
  have IL : s.heap.IsList l its := PySem.IsL.isList (n := n) (N _ hl).1
  tail_any IL.typeIs slot_list_getitem.lookup (by
    obtain ⟨_, ⟨vs, hd, _, h2⟩, _⟩ := hT
    exact outH hA (N _ he).1 hd h2 IL h0 (by have := Array.getElem?_eq_none_iff.mp hx; omega) (by omega) hE) hs
theorem extendK {D b : Addr} {its its2 : Array Value} {n n2 : Nat} {nf : Obj → List (Addr × Obj)} (F : Fr h₀ L s.heap m) (N : News h₀ L s.heap ((b, W.listOf its2 n2) :: news)) (U : UpdF D (W.listOf its n) news nf) (hz : its.size ≤ 1000) (hz2 : its2.size ≤ 1000)
    (h : ∀ h' n', Fr h₀ L h' m → News h₀ L h' (nf (W.listOf (its ++ its2) n')) → Q .none { s with heap := h' }) : wpAny (model P0 w) A (call (.builtin "list.extend") [.ref D, .ref b]) Q E s := by
  obtain ⟨pre, post, e0, e1, a, c⟩ := U.split
  have N1 : News h₀ L s.heap (pre ++ (D, W.listOf its n) :: post) := fun q hq => N q (.tail _ (e0 ▸ hq))
  have z := N1 (D, W.listOf its n) (List.mem_append.mpr (.inr (.head _)))
  have z1 : 2000 ≤ sizeLine := by decide
  refine call_meets PySem.F.slot_list_extend ⟨_, z.1, rfl⟩ PySem.F.entry_list_extend (PySem.F.args_list_extend_2 _ _) (PySem.AutoSeq1.list_extend_list_list_0 D its n b its2 n2 (by simp [Builtin.List.listTooLong]; omega) (by omega) (by omega)) ⟨z.1, (N _ (.head _)).1, h _ (if (its ++ its2).size == its.size then n else n + 1) (F.change (Heap.SameBut.update ..) z.2.1 z.2.2) ?_⟩
  rw [e1]
  exact ki_turn (fun x => x ++ its2) N1 a c rfl rfl
end
theorem row98 : True := by ((k_with "call builtin:list.extend" => ((k_here; (dsimp only [List.cons_append, List.nil_append]); k_dflt (refine' extendK ?F ?N ?U ?z ?z2 ?_; (case F => k_asm); (case N => assumption); (case U => k_updF); (case z => first | omega | (simp; omega)); (case z2 => exact Nat.le_trans (slicePick_size_le _ _ _ _) (by omega)); k_whole); intro zkh' zkn' zkF' zkN'; (try dsimp only at zkN'); (try k_sweep)))); trivial)
theorem row99 : True := by ((k_with "ite" => ((k_dflt (first | (refine W.ite_neg (nf_of (by with_reducible assumption)) ?_) | (refine W.ite_pos (by with_reducible assumption) ?_) | (refine W.ite_neg (by with_reducible assumption) ?_))))); trivial)
theorem row100 : True := by ((k_with "subscriptTail" => ((k_here; (with_reducible show wpAny _ _ (subscriptTail _ _ (Value.ref _) (Value.int _ _)) _ _ _); k_dflt (first | (refine' itemS ?N ?l ?h0 ?hi ?x ?_; (case N => k_asm); (case l => k_mem); (case h0 => omega); (case hi => omega); (case x => with_reducible assumption); k_whole) | (refine' outS ?A ?N ?l ?h0 ?hi ?x ?_; (case A => exact rfl); (case N => k_asm); (case l => k_mem); (case h0 => omega); (case hi => omega); (case x => with_reducible assumption); k_whole; intro zkh' zktk' zke' zkx'))))); trivial)
theorem row101 : True := by ((k_with "call builtin:list.append" => ((k_here; (try dsimp only [List.cons_append, List.nil_append]); k_dflt (refine' append_K ?k1 ?k2 ?k3 ?_ ?z; (case k1 => k_asm); (case k2 => k_asm); (case k3 => k_upd); (case z => size_fits); k_whole); intro zkh' zkF' zkN'; (try k_sweep)))); trivial)
theorem row102 : True := by ((k_with "exec While Compare cons nil" => ((k_here; k_dflt (refine whl_start 1 ?_)))); trivial)
theorem row103 : True := by ((k_with "WhlIf" => ((k_dflt (refine WhlIf.no (by with_reducible assumption) ?_)))); trivial)
noncomputable abbrev sdL (E A M U : Addr) (vE vA : Array Value) (nE nA : Nat) (mi un : Array Value) (nM nU : Nat) : List (Addr × Obj) := [(M, W.listOf mi nM), (U, W.listOf un nU), (E, W.listOf vE nE), (A, W.listOf vA nA)]
section
variable {w : World} {p : Program} {loose : List Str} {mean : ExcName → Option Value} {mg mb : Str → Option Value} {A₀ : Around} {dp un : Nat} {gd : Option (List Code)} {outer : List Env} {base h₀ : Heap} {L : Addr} {s : Shared}
theorem sd_handler {q1 q2 q3 : Stmt} {t : PySem.Expr} {tb rest suite : List Stmt} {b₀ : Stmt} {wp0 pp pt : Pos} {nm : Option PySem.Expr} {A : Around} {env : Env} {e : Addr}
    (hst : b199 = q1 :: q2 :: q3 :: Stmt.While t [Stmt.Try tb [ExceptHandler.ExceptHandler nm none (b₀ :: suite) pp] [] [] pt] [] wp0 :: rest)
    (henv : env = envOf (Str.ofString "sorted_list_difference") s199 L 199 (.ref 198))
    {EE AA M U : Addr} {vE vA mi une : Array Value} {nE nA nM nU : Nat} {ev av : Option Value} {i j : Int} {ti tj : Tok} {Q : Flow → Shared → Prop} {E : Value → Shared → Prop}
    (B : Below A₀ base outer h₀) (F : Fr h₀ L s.heap (sdM ev av (.int i ti) (.int j tj) EE AA M U)) (X : (KF w.params).In h₀) (T : Top p loose mean mg mb h₀)
    (N : News h₀ L s.heap (sdL EE AA M U vE vA nE nA mi une nM nU))
    (hA : A = ktrTop dp un gd (Str.ofString "sorted_list_difference") s199 L 199 (.ref 198) [] outer)
    (n1 : @Ne Nat M U) (n2 : @Ne Nat M EE) (n3 : @Ne Nat M AA) (n4 : @Ne Nat U EE) (n5 : @Ne Nat U AA)
    (hi0 : 0 ≤ i) (hi1 : i < 1000) (hj0 : 0 ≤ j) (hj1 : j < 1000) (hmz : mi.size ≤ 200) (huz : une.size ≤ 200) (hez : vE.size ≤ 100) (haz : vA.size ≤ 100)
    (h : ∀ h' tk' nM' nU', Fr h₀ L h' (sdM ev av (.int i ti) (.int j tj) EE AA M U) → News h₀ L h' (sdL EE AA M U vE vA nE nA (mi ++ slicePick vE (some i) none none) (une ++ slicePick vA (some j) none none) nM' nU') → Q .brk { s with heap := h', toks := tk' }) :
    wpAny (model P0 w) (A.mark (some (.ref e))) (execs (b₀ :: suite) env) Q E s := by
  w_on
  cases hst
  subst henv
  subst hA
  dsimp only [sdL] at N
  k_steps
  exact h _ _ _ _ (by assumption) (by assumption)
theorem sd_p1 {q1 q2 q3 : Stmt} {t : PySem.Expr} {tb bd rest suite : List Stmt} {b₀ : Stmt} {wp0 pp pt : Pos} {nm : Option PySem.Expr} {A : Around} {env : Env}
    (hst : b199 = q1 :: q2 :: q3 :: Stmt.While t [Stmt.Try tb [ExceptHandler.ExceptHandler nm none (b₀ :: suite) pp] [] [] pt] [] wp0 :: rest) (hbd : bd = [Stmt.Try tb [ExceptHandler.ExceptHandler nm none (b₀ :: suite) pp] [] [] pt])
    (henv : env = envOf (Str.ofString "sorted_list_difference") s199 L 199 (.ref 198))
    {EE AA M U : Addr} {vE vA mi une : Array Value} {nE nA nM nU : Nat} {ev av : Option Value} {i j : Int} {ti tj : Tok} {Q : Flow → Shared → Prop} {E : Value → Shared → Prop} {Nx : Shared → Prop} {xe xa xn xm : Str} {te ta tn tm : Tok}
    (XB : (KF w.params).In base) (TB : Top p loose mean mg mb base) (D : KtsDicts (outer.filterMap (·.frame)) h₀)
    (B : Below A₀ base outer h₀) (F : Fr h₀ L s.heap (sdM ev av (.int i ti) (.int j tj) EE AA M U)) (X : (KF w.params).In h₀) (T : Top p loose mean mg mb h₀)
    (N : News h₀ L s.heap (sdL EE AA M U vE vA nE nA mi une nM nU))
    (hA : A = ktrTop dp un gd (Str.ofString "sorted_list_difference") s199 L 199 (.ref 198) [] outer)
    (n1 : @Ne Nat M U) (n2 : @Ne Nat M EE) (n3 : @Ne Nat M AA) (n4 : @Ne Nat U EE) (n5 : @Ne Nat U AA)
    (hd : dp + 8 < recursionLimit) (hu : un + 60 < cLine) (hE : PassesOwn (model P0 w) A env E) (hEm : ∀ v, PassesOwnAt (model P0 w) (A.mark (some v)) A env E)
    (hi0 : 0 ≤ i) (hi1 : i < 100) (hj0 : 0 ≤ j) (hj1 : j < 100) (hmz : mi.size ≤ 100) (huz : une.size ≤ 100) (hez : vE.size ≤ 100) (haz : vA.size ≤ 100)
    (he : vE[i.toNat]? = none)
    (hN : ∀ s', Nx s' → WhlRest P0 w A E env t bd [] Q 0 s')
    (h : ∀ h' tk' g' ev' av' iv' jv' nM' nU', KtsTurn (outer.filterMap (·.frame)) h₀ g' → Fr g' L h' (sdM ev' av' iv' jv' EE AA M U) → News g' L h' (sdL EE AA M U vE vA nE nA (mi ++ slicePick vE (some i) none none) (une ++ slicePick vA (some j) none none) nM' nU') → Below A₀ base outer g' → (KF w.params).In g' → Top p loose mean mg mb g' → KtsDicts (outer.filterMap (·.frame)) g' → Q .next { s with heap := h', toks := tk' }) :
    WhlRest P0 w A E env t bd [] Q 1 s := by
  w_on
  subst hbd
  have hst0 := hst
  cases hst
  subst henv
  subst hA
  dsimp only [sdL] at N
  refine whl_turnN hE hN ?_
  k_steps
  refine' caughtX (T' := "IndexError") XB TB B D ?zx ?zF ?zN rfl ?ex PyProof.Rows.Boot.«IndexError» ?hn PySem.F.isExc_IndexError PySem.F.notTuple_IndexError ?hs ?_ rfl rfl (by decide) (hEm _)
  case zF => assumption
  case zx => assumption
  case zN => assumption
  case ex => k_is
  case hn => decide
  case hs => rw [isSubtype_type]; kernel_rfl
  intro h9 g9 TT9 F9 N9 B9 X9 T9 D9
  refine sd_handler (s := { s with heap := h9, toks := _ }) hst0 rfl B9 (F9) X9 T9 N9 rfl n1 n2 n3 n4 n5 (by omega) (by omega) (by omega) (by omega) (by first | omega | (simp; omega)) (by first | omega | (simp; omega)) hez haz ?_
  intro h10 tk10 nM10 nU10 F10 N10
  exact h h10 tk10 _ _ _ _ _ nM10 nU10 TT9 F10 N10 B9 X9 T9 D9
theorem sd_p2 {q1 q2 q3 : Stmt} {t : PySem.Expr} {tb bd rest suite : List Stmt} {b₀ : Stmt} {wp0 pp pt : Pos} {nm : Option PySem.Expr} {A : Around} {env : Env}
    (hst : b199 = q1 :: q2 :: q3 :: Stmt.While t [Stmt.Try tb [ExceptHandler.ExceptHandler nm none (b₀ :: suite) pp] [] [] pt] [] wp0 :: rest) (hbd : bd = [Stmt.Try tb [ExceptHandler.ExceptHandler nm none (b₀ :: suite) pp] [] [] pt])
    (henv : env = envOf (Str.ofString "sorted_list_difference") s199 L 199 (.ref 198))
    {EE AA M U : Addr} {vE vA mi une : Array Value} {nE nA nM nU : Nat} {ev av : Option Value} {i j : Int} {ti tj : Tok} {Q : Flow → Shared → Prop} {E : Value → Shared → Prop} {Nx : Shared → Prop} {xe xa xn xm : Str} {te ta tn tm : Tok}
    (XB : (KF w.params).In base) (TB : Top p loose mean mg mb base) (D : KtsDicts (outer.filterMap (·.frame)) h₀)
    (B : Below A₀ base outer h₀) (F : Fr h₀ L s.heap (sdM ev av (.int i ti) (.int j tj) EE AA M U)) (X : (KF w.params).In h₀) (T : Top p loose mean mg mb h₀)
    (N : News h₀ L s.heap (sdL EE AA M U vE vA nE nA mi une nM nU))
    (hA : A = ktrTop dp un gd (Str.ofString "sorted_list_difference") s199 L 199 (.ref 198) [] outer)
    (n1 : @Ne Nat M U) (n2 : @Ne Nat M EE) (n3 : @Ne Nat M AA) (n4 : @Ne Nat U EE) (n5 : @Ne Nat U AA)
    (hd : dp + 8 < recursionLimit) (hu : un + 60 < cLine) (hE : PassesOwn (model P0 w) A env E) (hEm : ∀ v, PassesOwnAt (model P0 w) (A.mark (some v)) A env E)
    (hi0 : 0 ≤ i) (hi1 : i < 100) (hj0 : 0 ≤ j) (hj1 : j < 100) (hmz : mi.size ≤ 100) (huz : une.size ≤ 100) (hez : vE.size ≤ 100) (haz : vA.size ≤ 100)
    (he : vE[i.toNat]? = some (.str xe te)) (ha : vA[j.toNat]? = none)
    (hN : ∀ s', Nx s' → WhlRest P0 w A E env t bd [] Q 0 s')
    (h : ∀ h' tk' g' ev' av' iv' jv' nM' nU', KtsTurn (outer.filterMap (·.frame)) h₀ g' → Fr g' L h' (sdM ev' av' iv' jv' EE AA M U) → News g' L h' (sdL EE AA M U vE vA nE nA (mi ++ slicePick vE (some i) none none) (une ++ slicePick vA (some j) none none) nM' nU') → Below A₀ base outer g' → (KF w.params).In g' → Top p loose mean mg mb g' → KtsDicts (outer.filterMap (·.frame)) g' → Q .next { s with heap := h', toks := tk' }) :
    WhlRest P0 w A E env t bd [] Q 1 s := by
  w_on
  subst hbd
  have hst0 := hst
  cases hst
  subst henv
  subst hA
  dsimp only [sdL] at N
  refine whl_turnN hE hN ?_
  k_steps
  refine' caughtX (T' := "IndexError") XB TB B D ?zx ?zF ?zN rfl ?ex PyProof.Rows.Boot.«IndexError» ?hn PySem.F.isExc_IndexError PySem.F.notTuple_IndexError ?hs ?_ rfl rfl (by decide) (hEm _)
  case zF => assumption
  case zx => assumption
  case zN => assumption
  case ex => k_is
  case hn => decide
  case hs => rw [isSubtype_type]; kernel_rfl
  intro h9 g9 TT9 F9 N9 B9 X9 T9 D9
  refine sd_handler (s := { s with heap := h9, toks := _ }) hst0 rfl B9 (Fr.cong eq_e F9) X9 T9 N9 rfl n1 n2 n3 n4 n5 (by omega) (by omega) (by omega) (by omega) (by first | omega | (simp; omega)) (by first | omega | (simp; omega)) hez haz ?_
  intro h10 tk10 nM10 nU10 F10 N10
  exact h h10 tk10 _ _ _ _ _ nM10 nU10 TT9 F10 N10 B9 X9 T9 D9
theorem sd_p3 {q1 q2 q3 : Stmt} {t : PySem.Expr} {tb bd rest suite : List Stmt} {b₀ : Stmt} {wp0 pp pt : Pos} {nm : Option PySem.Expr} {A : Around} {env : Env}
    (hst : b199 = q1 :: q2 :: q3 :: Stmt.While t [Stmt.Try tb [ExceptHandler.ExceptHandler nm none (b₀ :: suite) pp] [] [] pt] [] wp0 :: rest) (hbd : bd = [Stmt.Try tb [ExceptHandler.ExceptHandler nm none (b₀ :: suite) pp] [] [] pt])
    (henv : env = envOf (Str.ofString "sorted_list_difference") s199 L 199 (.ref 198))
    {EE AA M U : Addr} {vE vA mi une : Array Value} {nE nA nM nU : Nat} {ev av : Option Value} {i j : Int} {ti tj : Tok} {Q : Flow → Shared → Prop} {E : Value → Shared → Prop} {Nx : Shared → Prop} {xe xa xn xm : Str} {te ta tn tm : Tok}
    (XB : (KF w.params).In base) (TB : Top p loose mean mg mb base) (D : KtsDicts (outer.filterMap (·.frame)) h₀)
    (B : Below A₀ base outer h₀) (F : Fr h₀ L s.heap (sdM ev av (.int i ti) (.int j tj) EE AA M U)) (X : (KF w.params).In h₀) (T : Top p loose mean mg mb h₀)
    (N : News h₀ L s.heap (sdL EE AA M U vE vA nE nA mi une nM nU))
    (hA : A = ktrTop dp un gd (Str.ofString "sorted_list_difference") s199 L 199 (.ref 198) [] outer)
    (n1 : @Ne Nat M U) (n2 : @Ne Nat M EE) (n3 : @Ne Nat M AA) (n4 : @Ne Nat U EE) (n5 : @Ne Nat U AA)
    (hd : dp + 8 < recursionLimit) (hu : un + 60 < cLine) (hE : PassesOwn (model P0 w) A env E) (hEm : ∀ v, PassesOwnAt (model P0 w) (A.mark (some v)) A env E)
    (hi0 : 0 ≤ i) (hi1 : i < 100) (hj0 : 0 ≤ j) (hj1 : j < 100) (hmz : mi.size ≤ 100) (huz : une.size ≤ 100) (hez : vE.size ≤ 100) (haz : vA.size ≤ 100)
    (he : vE[i.toNat]? = some (.str xe te))(ha : vA[j.toNat]? = some (.str xa ta))(hlt : decide (xe.cps.toList < xa.cps.toList) = true)(hn : vE[(i + 1).toNat]? = some (.str xn tn)) (hne : (xn == xe) = false)
    (hN : ∀ s', Nx s' → WhlRest P0 w A E env t bd [] Q 0 s')
    (h : ∀ h' tk' (ti' tj' : Tok) nM' nU', Fr h₀ L h' (sdM (some (.str xe te)) (some (.str xa ta)) (.int (i + 1) ti') (.int j tj') EE AA M U) → News h₀ L h' (sdL EE AA M U vE vA nE nA (mi.push (.str xe te)) une nM' nU') → Nx { s with heap := h', toks := tk' }) :
    WhlRest P0 w A E env t bd [] Q 1 s := by
  w_on
  subst hbd
  have hst0 := hst
  cases hst
  subst henv
  subst hA
  dsimp only [sdL] at N
  refine whl_turnN hE hN ?_
  k_steps
  exact h _ _ _ _ _ _ (Fr.cong eq_eai (by assumption)) (by assumption)
theorem sd_p4 {q1 q2 q3 : Stmt} {t : PySem.Expr} {tb bd rest suite : List Stmt} {b₀ : Stmt} {wp0 pp pt : Pos} {nm : Option PySem.Expr} {A : Around} {env : Env}
    (hst : b199 = q1 :: q2 :: q3 :: Stmt.While t [Stmt.Try tb [ExceptHandler.ExceptHandler nm none (b₀ :: suite) pp] [] [] pt] [] wp0 :: rest) (hbd : bd = [Stmt.Try tb [ExceptHandler.ExceptHandler nm none (b₀ :: suite) pp] [] [] pt])
    (henv : env = envOf (Str.ofString "sorted_list_difference") s199 L 199 (.ref 198))
    {EE AA M U : Addr} {vE vA mi une : Array Value} {nE nA nM nU : Nat} {ev av : Option Value} {i j : Int} {ti tj : Tok} {Q : Flow → Shared → Prop} {E : Value → Shared → Prop} {Nx : Shared → Prop} {xe xa xn xm : Str} {te ta tn tm : Tok}
    (XB : (KF w.params).In base) (TB : Top p loose mean mg mb base) (D : KtsDicts (outer.filterMap (·.frame)) h₀)
    (B : Below A₀ base outer h₀) (F : Fr h₀ L s.heap (sdM ev av (.int i ti) (.int j tj) EE AA M U)) (X : (KF w.params).In h₀) (T : Top p loose mean mg mb h₀)
    (N : News h₀ L s.heap (sdL EE AA M U vE vA nE nA mi une nM nU))
    (hA : A = ktrTop dp un gd (Str.ofString "sorted_list_difference") s199 L 199 (.ref 198) [] outer)
    (n1 : @Ne Nat M U) (n2 : @Ne Nat M EE) (n3 : @Ne Nat M AA) (n4 : @Ne Nat U EE) (n5 : @Ne Nat U AA)
    (hd : dp + 8 < recursionLimit) (hu : un + 60 < cLine) (hE : PassesOwn (model P0 w) A env E) (hEm : ∀ v, PassesOwnAt (model P0 w) (A.mark (some v)) A env E)
    (hi0 : 0 ≤ i) (hi1 : i < 100) (hj0 : 0 ≤ j) (hj1 : j < 100) (hmz : mi.size ≤ 100) (huz : une.size ≤ 100) (hez : vE.size ≤ 100) (haz : vA.size ≤ 100)
    (he : vE[i.toNat]? = some (.str xe te))(ha : vA[j.toNat]? = some (.str xa ta))(hlt : decide (xe.cps.toList < xa.cps.toList) = true)(hn : vE[(i + 1).toNat]? = none)
    (hN : ∀ s', Nx s' → WhlRest P0 w A E env t bd [] Q 0 s')
    (h : ∀ h' tk' g' ev' av' iv' jv' nM' nU', KtsTurn (outer.filterMap (·.frame)) h₀ g' → Fr g' L h' (sdM ev' av' iv' jv' EE AA M U) → News g' L h' (sdL EE AA M U vE vA nE nA (mi.push (.str xe te) ++ slicePick vE (some (i + 1)) none none) (une ++ slicePick vA (some j) none none) nM' nU') → Below A₀ base outer g' → (KF w.params).In g' → Top p loose mean mg mb g' → KtsDicts (outer.filterMap (·.frame)) g' → Q .next { s with heap := h', toks := tk' }) :
    WhlRest P0 w A E env t bd [] Q 1 s := by
  w_on
  subst hbd
  have hst0 := hst
  cases hst
  subst henv
  subst hA
  dsimp only [sdL] at N
  refine whl_turnN hE hN ?_
  k_steps
  refine' caughtX (T' := "IndexError") XB TB B D ?zx ?zF ?zN rfl ?ex PyProof.Rows.Boot.«IndexError» ?hn PySem.F.isExc_IndexError PySem.F.notTuple_IndexError ?hs ?_ rfl rfl (by decide) (hEm _)
  case zF => assumption
  case zx => assumption
  case zN => assumption
  case ex => k_is
  case hn => decide
  case hs => rw [isSubtype_type]; kernel_rfl
  intro h9 g9 TT9 F9 N9 B9 X9 T9 D9
  refine sd_handler (s := { s with heap := h9, toks := _ }) hst0 rfl B9 (Fr.cong eq_eai F9) X9 T9 N9 rfl n1 n2 n3 n4 n5 (by omega) (by omega) (by omega) (by omega) (by first | omega | (simp; omega)) (by first | omega | (simp; omega)) hez haz ?_
  intro h10 tk10 nM10 nU10 F10 N10
  exact h h10 tk10 _ _ _ _ _ nM10 nU10 TT9 F10 N10 B9 X9 T9 D9
theorem sd_p5 {q1 q2 q3 : Stmt} {t : PySem.Expr} {tb bd rest suite : List Stmt} {b₀ : Stmt} {wp0 pp pt : Pos} {nm : Option PySem.Expr} {A : Around} {env : Env}
    (hst : b199 = q1 :: q2 :: q3 :: Stmt.While t [Stmt.Try tb [ExceptHandler.ExceptHandler nm none (b₀ :: suite) pp] [] [] pt] [] wp0 :: rest) (hbd : bd = [Stmt.Try tb [ExceptHandler.ExceptHandler nm none (b₀ :: suite) pp] [] [] pt])
    (henv : env = envOf (Str.ofString "sorted_list_difference") s199 L 199 (.ref 198))
    {EE AA M U : Addr} {vE vA mi une : Array Value} {nE nA nM nU : Nat} {ev av : Option Value} {i j : Int} {ti tj : Tok} {Q : Flow → Shared → Prop} {E : Value → Shared → Prop} {Nx : Shared → Prop} {xe xa xn xm : Str} {te ta tn tm : Tok}
    (XB : (KF w.params).In base) (TB : Top p loose mean mg mb base) (D : KtsDicts (outer.filterMap (·.frame)) h₀)
    (B : Below A₀ base outer h₀) (F : Fr h₀ L s.heap (sdM ev av (.int i ti) (.int j tj) EE AA M U)) (X : (KF w.params).In h₀) (T : Top p loose mean mg mb h₀)
    (N : News h₀ L s.heap (sdL EE AA M U vE vA nE nA mi une nM nU))
    (hA : A = ktrTop dp un gd (Str.ofString "sorted_list_difference") s199 L 199 (.ref 198) [] outer)
    (n1 : @Ne Nat M U) (n2 : @Ne Nat M EE) (n3 : @Ne Nat M AA) (n4 : @Ne Nat U EE) (n5 : @Ne Nat U AA)
    (hd : dp + 8 < recursionLimit) (hu : un + 60 < cLine) (hE : PassesOwn (model P0 w) A env E) (hEm : ∀ v, PassesOwnAt (model P0 w) (A.mark (some v)) A env E)
    (hi0 : 0 ≤ i) (hi1 : i < 100) (hj0 : 0 ≤ j) (hj1 : j < 100) (hmz : mi.size ≤ 100) (huz : une.size ≤ 100) (hez : vE.size ≤ 100) (haz : vA.size ≤ 100)
    (he : vE[i.toNat]? = some (.str xe te))(ha : vA[j.toNat]? = some (.str xa ta))(hlt : decide (xe.cps.toList < xa.cps.toList) = false) (hgt : decide (xa.cps.toList < xe.cps.toList) = true)(hm : vA[(j + 1).toNat]? = some (.str xm tm)) (hma : (xm == xa) = false)
    (hN : ∀ s', Nx s' → WhlRest P0 w A E env t bd [] Q 0 s')
    (h : ∀ h' tk' (ti' tj' : Tok) nM' nU', Fr h₀ L h' (sdM (some (.str xe te)) (some (.str xa ta)) (.int i ti') (.int (j + 1) tj') EE AA M U) → News h₀ L h' (sdL EE AA M U vE vA nE nA mi (une.push (.str xa ta)) nM' nU') → Nx { s with heap := h', toks := tk' }) :
    WhlRest P0 w A E env t bd [] Q 1 s := by
  w_on
  subst hbd
  have hst0 := hst
  cases hst
  subst henv
  subst hA
  dsimp only [sdL] at N
  refine whl_turnN hE hN ?_
  k_steps
  exact h _ _ _ _ _ _ (Fr.cong eq_eaj (by assumption)) (by assumption)
theorem sd_p6 {q1 q2 q3 : Stmt} {t : PySem.Expr} {tb bd rest suite : List Stmt} {b₀ : Stmt} {wp0 pp pt : Pos} {nm : Option PySem.Expr} {A : Around} {env : Env}
    (hst : b199 = q1 :: q2 :: q3 :: Stmt.While t [Stmt.Try tb [ExceptHandler.ExceptHandler nm none (b₀ :: suite) pp] [] [] pt] [] wp0 :: rest) (hbd : bd = [Stmt.Try tb [ExceptHandler.ExceptHandler nm none (b₀ :: suite) pp] [] [] pt])
    (henv : env = envOf (Str.ofString "sorted_list_difference") s199 L 199 (.ref 198))
    {EE AA M U : Addr} {vE vA mi une : Array Value} {nE nA nM nU : Nat} {ev av : Option Value} {i j : Int} {ti tj : Tok} {Q : Flow → Shared → Prop} {E : Value → Shared → Prop} {Nx : Shared → Prop} {xe xa xn xm : Str} {te ta tn tm : Tok}
    (XB : (KF w.params).In base) (TB : Top p loose mean mg mb base) (D : KtsDicts (outer.filterMap (·.frame)) h₀)
    (B : Below A₀ base outer h₀) (F : Fr h₀ L s.heap (sdM ev av (.int i ti) (.int j tj) EE AA M U)) (X : (KF w.params).In h₀) (T : Top p loose mean mg mb h₀)
    (N : News h₀ L s.heap (sdL EE AA M U vE vA nE nA mi une nM nU))
    (hA : A = ktrTop dp un gd (Str.ofString "sorted_list_difference") s199 L 199 (.ref 198) [] outer)
    (n1 : @Ne Nat M U) (n2 : @Ne Nat M EE) (n3 : @Ne Nat M AA) (n4 : @Ne Nat U EE) (n5 : @Ne Nat U AA)
    (hd : dp + 8 < recursionLimit) (hu : un + 60 < cLine) (hE : PassesOwn (model P0 w) A env E) (hEm : ∀ v, PassesOwnAt (model P0 w) (A.mark (some v)) A env E)
    (hi0 : 0 ≤ i) (hi1 : i < 100) (hj0 : 0 ≤ j) (hj1 : j < 100) (hmz : mi.size ≤ 100) (huz : une.size ≤ 100) (hez : vE.size ≤ 100) (haz : vA.size ≤ 100)
    (he : vE[i.toNat]? = some (.str xe te))(ha : vA[j.toNat]? = some (.str xa ta))(hlt : decide (xe.cps.toList < xa.cps.toList) = false) (hgt : decide (xa.cps.toList < xe.cps.toList) = true)(hm : vA[(j + 1).toNat]? = none)
    (hN : ∀ s', Nx s' → WhlRest P0 w A E env t bd [] Q 0 s')
    (h : ∀ h' tk' g' ev' av' iv' jv' nM' nU', KtsTurn (outer.filterMap (·.frame)) h₀ g' → Fr g' L h' (sdM ev' av' iv' jv' EE AA M U) → News g' L h' (sdL EE AA M U vE vA nE nA (mi ++ slicePick vE (some i) none none) (une.push (.str xa ta) ++ slicePick vA (some (j + 1)) none none) nM' nU') → Below A₀ base outer g' → (KF w.params).In g' → Top p loose mean mg mb g' → KtsDicts (outer.filterMap (·.frame)) g' → Q .next { s with heap := h', toks := tk' }) :
    WhlRest P0 w A E env t bd [] Q 1 s := by
  w_on
  subst hbd
  have hst0 := hst
  cases hst
  subst henv
  subst hA
  dsimp only [sdL] at N
  refine whl_turnN hE hN ?_
  k_steps
  refine' caughtX (T' := "IndexError") XB TB B D ?zx ?zF ?zN rfl ?ex PyProof.Rows.Boot.«IndexError» ?hn PySem.F.isExc_IndexError PySem.F.notTuple_IndexError ?hs ?_ rfl rfl (by decide) (hEm _)
  case zF => assumption
  case zx => assumption
  case zN => assumption
  case ex => k_is
  case hn => decide
  case hs => rw [isSubtype_type]; kernel_rfl
  intro h9 g9 TT9 F9 N9 B9 X9 T9 D9
  refine sd_handler (s := { s with heap := h9, toks := _ }) hst0 rfl B9 (Fr.cong eq_eaj F9) X9 T9 N9 rfl n1 n2 n3 n4 n5 (by omega) (by omega) (by omega) (by omega) (by first | omega | (simp; omega)) (by first | omega | (simp; omega)) hez haz ?_
  intro h10 tk10 nM10 nU10 F10 N10
  exact h h10 tk10 _ _ _ _ _ nM10 nU10 TT9 F10 N10 B9 X9 T9 D9
theorem sd_p7 {q1 q2 q3 : Stmt} {t : PySem.Expr} {tb bd rest suite : List Stmt} {b₀ : Stmt} {wp0 pp pt : Pos} {nm : Option PySem.Expr} {A : Around} {env : Env}
    (hst : b199 = q1 :: q2 :: q3 :: Stmt.While t [Stmt.Try tb [ExceptHandler.ExceptHandler nm none (b₀ :: suite) pp] [] [] pt] [] wp0 :: rest) (hbd : bd = [Stmt.Try tb [ExceptHandler.ExceptHandler nm none (b₀ :: suite) pp] [] [] pt])
    (henv : env = envOf (Str.ofString "sorted_list_difference") s199 L 199 (.ref 198))
    {EE AA M U : Addr} {vE vA mi une : Array Value} {nE nA nM nU : Nat} {ev av : Option Value} {i j : Int} {ti tj : Tok} {Q : Flow → Shared → Prop} {E : Value → Shared → Prop} {Nx : Shared → Prop} {xe xa xn xm : Str} {te ta tn tm : Tok}
    (XB : (KF w.params).In base) (TB : Top p loose mean mg mb base) (D : KtsDicts (outer.filterMap (·.frame)) h₀)
    (B : Below A₀ base outer h₀) (F : Fr h₀ L s.heap (sdM ev av (.int i ti) (.int j tj) EE AA M U)) (X : (KF w.params).In h₀) (T : Top p loose mean mg mb h₀)
    (N : News h₀ L s.heap (sdL EE AA M U vE vA nE nA mi une nM nU))
    (hA : A = ktrTop dp un gd (Str.ofString "sorted_list_difference") s199 L 199 (.ref 198) [] outer)
    (n1 : @Ne Nat M U) (n2 : @Ne Nat M EE) (n3 : @Ne Nat M AA) (n4 : @Ne Nat U EE) (n5 : @Ne Nat U AA)
    (hd : dp + 8 < recursionLimit) (hu : un + 60 < cLine) (hE : PassesOwn (model P0 w) A env E) (hEm : ∀ v, PassesOwnAt (model P0 w) (A.mark (some v)) A env E)
    (hi0 : 0 ≤ i) (hi1 : i < 100) (hj0 : 0 ≤ j) (hj1 : j < 100) (hmz : mi.size ≤ 100) (huz : une.size ≤ 100) (hez : vE.size ≤ 100) (haz : vA.size ≤ 100)
    (he : vE[i.toNat]? = some (.str xe te))(ha : vA[j.toNat]? = some (.str xa ta))(hlt : decide (xe.cps.toList < xa.cps.toList) = false) (hgt : decide (xa.cps.toList < xe.cps.toList) = false)(hn : vE[(i + 1).toNat]? = some (.str xn tn)) (hne : (xn == xe) = false)(hm : vA[(j + 1).toNat]? = some (.str xm tm)) (hma : (xm == xa) = false)
    (hN : ∀ s', Nx s' → WhlRest P0 w A E env t bd [] Q 0 s')
    (h : ∀ h' tk' (ti' tj' : Tok) nM' nU', Fr h₀ L h' (sdM (some (.str xe te)) (some (.str xa ta)) (.int (i + 1) ti') (.int (j + 1) tj') EE AA M U) → News h₀ L h' (sdL EE AA M U vE vA nE nA mi une nM' nU') → Nx { s with heap := h', toks := tk' }) :
    WhlRest P0 w A E env t bd [] Q 1 s := by
  w_on
  subst hbd
  have hst0 := hst
  cases hst
  subst henv
  subst hA
  dsimp only [sdL] at N
  refine whl_turnN hE hN ?_
  k_steps
  exact h _ _ _ _ _ _ (Fr.cong eq_eaij (by assumption)) (by assumption)
theorem sd_p8 {q1 q2 q3 : Stmt} {t : PySem.Expr} {tb bd rest suite : List Stmt} {b₀ : Stmt} {wp0 pp pt : Pos} {nm : Option PySem.Expr} {A : Around} {env : Env}
    (hst : b199 = q1 :: q2 :: q3 :: Stmt.While t [Stmt.Try tb [ExceptHandler.ExceptHandler nm none (b₀ :: suite) pp] [] [] pt] [] wp0 :: rest) (hbd : bd = [Stmt.Try tb [ExceptHandler.ExceptHandler nm none (b₀ :: suite) pp] [] [] pt])
    (henv : env = envOf (Str.ofString "sorted_list_difference") s199 L 199 (.ref 198))
    {EE AA M U : Addr} {vE vA mi une : Array Value} {nE nA nM nU : Nat} {ev av : Option Value} {i j : Int} {ti tj : Tok} {Q : Flow → Shared → Prop} {E : Value → Shared → Prop} {Nx : Shared → Prop} {xe xa xn xm : Str} {te ta tn tm : Tok}
    (XB : (KF w.params).In base) (TB : Top p loose mean mg mb base) (D : KtsDicts (outer.filterMap (·.frame)) h₀)
    (B : Below A₀ base outer h₀) (F : Fr h₀ L s.heap (sdM ev av (.int i ti) (.int j tj) EE AA M U)) (X : (KF w.params).In h₀) (T : Top p loose mean mg mb h₀)
    (N : News h₀ L s.heap (sdL EE AA M U vE vA nE nA mi une nM nU))
    (hA : A = ktrTop dp un gd (Str.ofString "sorted_list_difference") s199 L 199 (.ref 198) [] outer)
    (n1 : @Ne Nat M U) (n2 : @Ne Nat M EE) (n3 : @Ne Nat M AA) (n4 : @Ne Nat U EE) (n5 : @Ne Nat U AA)
    (hd : dp + 8 < recursionLimit) (hu : un + 60 < cLine) (hE : PassesOwn (model P0 w) A env E) (hEm : ∀ v, PassesOwnAt (model P0 w) (A.mark (some v)) A env E)
    (hi0 : 0 ≤ i) (hi1 : i < 100) (hj0 : 0 ≤ j) (hj1 : j < 100) (hmz : mi.size ≤ 100) (huz : une.size ≤ 100) (hez : vE.size ≤ 100) (haz : vA.size ≤ 100)
    (he : vE[i.toNat]? = some (.str xe te))(ha : vA[j.toNat]? = some (.str xa ta))(hlt : decide (xe.cps.toList < xa.cps.toList) = false) (hgt : decide (xa.cps.toList < xe.cps.toList) = false)(hn : vE[(i + 1).toNat]? = some (.str xn tn)) (hne : (xn == xe) = false)(hm : vA[(j + 1).toNat]? = none)
    (hN : ∀ s', Nx s' → WhlRest P0 w A E env t bd [] Q 0 s')
    (h : ∀ h' tk' g' ev' av' iv' jv' nM' nU', KtsTurn (outer.filterMap (·.frame)) h₀ g' → Fr g' L h' (sdM ev' av' iv' jv' EE AA M U) → News g' L h' (sdL EE AA M U vE vA nE nA (mi ++ slicePick vE (some (i + 1)) none none) (une ++ slicePick vA (some (j + 1)) none none) nM' nU') → Below A₀ base outer g' → (KF w.params).In g' → Top p loose mean mg mb g' → KtsDicts (outer.filterMap (·.frame)) g' → Q .next { s with heap := h', toks := tk' }) :
    WhlRest P0 w A E env t bd [] Q 1 s := by
  w_on
  subst hbd
  have hst0 := hst
  cases hst
  subst henv
  subst hA
  dsimp only [sdL] at N
  refine whl_turnN hE hN ?_
  k_steps
  refine' notedBack ?wB ?wD ?wx ?wF ?wN rfl ?_
  case wF => assumption
  case wB => assumption
  case wD => assumption
  case wx => assumption
  case wN => assumption
  intro h6 g6 oe6 T6 oT6 TT6 F6 N6 B6 D6 hT6 ne6 f16 f26
  have X6 := XB.keeps B6.stays
  have P6 := TB.keeps B6.stays
  dsimp only
  refine' caughtH (K := KF w.params) (T' := "IndexError") X6 P6 F6 N6 hT6 ne6 f26 ?ex PyProof.Rows.Boot.«IndexError» ?hn PySem.F.isExc_IndexError PySem.F.notTuple_IndexError ?hs ?_ rfl rfl (by decide) (hEm _)
  case ex => k_is
  case hn => decide
  case hs => rw [isSubtype_type]; kernel_rfl
  intro h9 F9 N9
  refine sd_handler (s := { s with heap := h9, toks := _ }) hst0 rfl B6 (Fr.cong eq_eaij F9) X6 P6 N9 rfl n1 n2 n3 n4 n5 (by omega) (by omega) (by omega) (by omega) (by first | omega | (simp; omega)) (by first | omega | (simp; omega)) hez haz ?_
  intro h10 tk10 nM10 nU10 F10 N10
  exact h h10 tk10 _ _ _ _ _ nM10 nU10 TT6 F10 N10 B6 X6 P6 D6
theorem sd_p9 {q1 q2 q3 : Stmt} {t : PySem.Expr} {tb bd rest suite : List Stmt} {b₀ : Stmt} {wp0 pp pt : Pos} {nm : Option PySem.Expr} {A : Around} {env : Env}
    (hst : b199 = q1 :: q2 :: q3 :: Stmt.While t [Stmt.Try tb [ExceptHandler.ExceptHandler nm none (b₀ :: suite) pp] [] [] pt] [] wp0 :: rest) (hbd : bd = [Stmt.Try tb [ExceptHandler.ExceptHandler nm none (b₀ :: suite) pp] [] [] pt])
    (henv : env = envOf (Str.ofString "sorted_list_difference") s199 L 199 (.ref 198))
    {EE AA M U : Addr} {vE vA mi une : Array Value} {nE nA nM nU : Nat} {ev av : Option Value} {i j : Int} {ti tj : Tok} {Q : Flow → Shared → Prop} {E : Value → Shared → Prop} {Nx : Shared → Prop} {xe xa xn xm : Str} {te ta tn tm : Tok}
    (XB : (KF w.params).In base) (TB : Top p loose mean mg mb base) (D : KtsDicts (outer.filterMap (·.frame)) h₀)
    (B : Below A₀ base outer h₀) (F : Fr h₀ L s.heap (sdM ev av (.int i ti) (.int j tj) EE AA M U)) (X : (KF w.params).In h₀) (T : Top p loose mean mg mb h₀)
    (N : News h₀ L s.heap (sdL EE AA M U vE vA nE nA mi une nM nU))
    (hA : A = ktrTop dp un gd (Str.ofString "sorted_list_difference") s199 L 199 (.ref 198) [] outer)
    (n1 : @Ne Nat M U) (n2 : @Ne Nat M EE) (n3 : @Ne Nat M AA) (n4 : @Ne Nat U EE) (n5 : @Ne Nat U AA)
    (hd : dp + 8 < recursionLimit) (hu : un + 60 < cLine) (hE : PassesOwn (model P0 w) A env E) (hEm : ∀ v, PassesOwnAt (model P0 w) (A.mark (some v)) A env E)
    (hi0 : 0 ≤ i) (hi1 : i < 100) (hj0 : 0 ≤ j) (hj1 : j < 100) (hmz : mi.size ≤ 100) (huz : une.size ≤ 100) (hez : vE.size ≤ 100) (haz : vA.size ≤ 100)
    (he : vE[i.toNat]? = some (.str xe te))(ha : vA[j.toNat]? = some (.str xa ta))(hlt : decide (xe.cps.toList < xa.cps.toList) = false) (hgt : decide (xa.cps.toList < xe.cps.toList) = false)(hn : vE[(i + 1).toNat]? = none)(hm : vA[(j + 1).toNat]? = some (.str xm tm)) (hma : (xm == xa) = false)
    (hN : ∀ s', Nx s' → WhlRest P0 w A E env t bd [] Q 0 s')
    (h : ∀ h' tk' g' ev' av' iv' jv' nM' nU', KtsTurn (outer.filterMap (·.frame)) h₀ g' → Fr g' L h' (sdM ev' av' iv' jv' EE AA M U) → News g' L h' (sdL EE AA M U vE vA nE nA (mi ++ slicePick vE (some (i + 1)) none none) (une ++ slicePick vA (some (j + 1)) none none) nM' nU') → Below A₀ base outer g' → (KF w.params).In g' → Top p loose mean mg mb g' → KtsDicts (outer.filterMap (·.frame)) g' → Q .next { s with heap := h', toks := tk' }) :
    WhlRest P0 w A E env t bd [] Q 1 s := by
  w_on
  subst hbd
  have hst0 := hst
  cases hst
  subst henv
  subst hA
  dsimp only [sdL] at N
  refine whl_turnN hE hN ?_
  k_steps
  refine' finRaised ?wB ?wD ?wx ?wF ?wN rfl ?_
  case wF => assumption
  case wB => assumption
  case wD => assumption
  case wx => assumption
  case wN => assumption
  intro h5 g5 oe5 T5 oT5 TT5 F5 N5 B5 D5 hT5 ne5 f15 f25
  have X5 := XB.keeps B5.stays
  have P5 := TB.keeps B5.stays
  have f25o := f25
  replace f15 := allNe_of f15
  replace f25 := allNe_of f25
  simp only [AllNe, and_true] at f15 f25
  (try dsimp only)
  k_steps
  dsimp only
  refine' passOnN rfl ?wF ?wN hT5 ne5 f25o ?_
  case wF => assumption
  case wN => assumption
  intro h7 oT7 F7 N7 hT7
  dsimp only
  refine' caughtH (K := KF w.params) (T' := "IndexError") X5 P5 F7 N7 hT7 ne5 f25o ?ex PyProof.Rows.Boot.«IndexError» ?hn PySem.F.isExc_IndexError PySem.F.notTuple_IndexError ?hs ?_ rfl rfl (by decide) (hEm _)
  case ex => k_is
  case hn => decide
  case hs => rw [isSubtype_type]; kernel_rfl
  intro h9 F9 N9
  refine sd_handler (s := { s with heap := h9, toks := _ }) hst0 rfl B5 (Fr.cong eq_eaij F9) X5 P5 N9 rfl n1 n2 n3 n4 n5 (by omega) (by omega) (by omega) (by omega) (by first | omega | (simp; omega)) (by first | omega | (simp; omega)) hez haz ?_
  intro h10 tk10 nM10 nU10 F10 N10
  exact h h10 tk10 _ _ _ _ _ nM10 nU10 TT5 F10 N10 B5 X5 P5 D5
theorem sd_p10 {q1 q2 q3 : Stmt} {t : PySem.Expr} {tb bd rest suite : List Stmt} {b₀ : Stmt} {wp0 pp pt : Pos} {nm : Option PySem.Expr} {A : Around} {env : Env}
    (hst : b199 = q1 :: q2 :: q3 :: Stmt.While t [Stmt.Try tb [ExceptHandler.ExceptHandler nm none (b₀ :: suite) pp] [] [] pt] [] wp0 :: rest) (hbd : bd = [Stmt.Try tb [ExceptHandler.ExceptHandler nm none (b₀ :: suite) pp] [] [] pt])
    (henv : env = envOf (Str.ofString "sorted_list_difference") s199 L 199 (.ref 198))
    {EE AA M U : Addr} {vE vA mi une : Array Value} {nE nA nM nU : Nat} {ev av : Option Value} {i j : Int} {ti tj : Tok} {Q : Flow → Shared → Prop} {E : Value → Shared → Prop} {Nx : Shared → Prop} {xe xa xn xm : Str} {te ta tn tm : Tok}
    (XB : (KF w.params).In base) (TB : Top p loose mean mg mb base) (D : KtsDicts (outer.filterMap (·.frame)) h₀)
    (B : Below A₀ base outer h₀) (F : Fr h₀ L s.heap (sdM ev av (.int i ti) (.int j tj) EE AA M U)) (X : (KF w.params).In h₀) (T : Top p loose mean mg mb h₀)
    (N : News h₀ L s.heap (sdL EE AA M U vE vA nE nA mi une nM nU))
    (hA : A = ktrTop dp un gd (Str.ofString "sorted_list_difference") s199 L 199 (.ref 198) [] outer)
    (n1 : @Ne Nat M U) (n2 : @Ne Nat M EE) (n3 : @Ne Nat M AA) (n4 : @Ne Nat U EE) (n5 : @Ne Nat U AA)
    (hd : dp + 8 < recursionLimit) (hu : un + 60 < cLine) (hE : PassesOwn (model P0 w) A env E) (hEm : ∀ v, PassesOwnAt (model P0 w) (A.mark (some v)) A env E)
    (hi0 : 0 ≤ i) (hi1 : i < 100) (hj0 : 0 ≤ j) (hj1 : j < 100) (hmz : mi.size ≤ 100) (huz : une.size ≤ 100) (hez : vE.size ≤ 100) (haz : vA.size ≤ 100)
    (he : vE[i.toNat]? = some (.str xe te))(ha : vA[j.toNat]? = some (.str xa ta))(hlt : decide (xe.cps.toList < xa.cps.toList) = false) (hgt : decide (xa.cps.toList < xe.cps.toList) = false)(hn : vE[(i + 1).toNat]? = none)(hm : vA[(j + 1).toNat]? = none)
    (hN : ∀ s', Nx s' → WhlRest P0 w A E env t bd [] Q 0 s')
    (h : ∀ h' tk' g' ev' av' iv' jv' nM' nU', KtsTurn (outer.filterMap (·.frame)) h₀ g' → Fr g' L h' (sdM ev' av' iv' jv' EE AA M U) → News g' L h' (sdL EE AA M U vE vA nE nA (mi ++ slicePick vE (some (i + 1)) none none) (une ++ slicePick vA (some (j + 1)) none none) nM' nU') → Below A₀ base outer g' → (KF w.params).In g' → Top p loose mean mg mb g' → KtsDicts (outer.filterMap (·.frame)) g' → Q .next { s with heap := h', toks := tk' }) :
    WhlRest P0 w A E env t bd [] Q 1 s := by
  w_on
  subst hbd
  have hst0 := hst
  cases hst
  subst henv
  subst hA
  dsimp only [sdL] at N
  refine whl_turnN hE hN ?_
  k_steps
  refine' finRaised ?wB ?wD ?wx ?wF ?wN rfl ?_
  case wF => assumption
  case wB => assumption
  case wD => assumption
  case wx => assumption
  case wN => assumption
  intro h5 g5 oe5 T5 oT5 TT5 F5 N5 B5 D5 hT5 ne5 f15 f25
  have X5 := XB.keeps B5.stays
  have P5 := TB.keeps B5.stays
  have f25o := f25
  replace f15 := allNe_of f15
  replace f25 := allNe_of f25
  simp only [AllNe, and_true] at f15 f25
  (try dsimp only)
  k_steps
  refine' outSH rfl ?wN ?wl ?we hT5 ?w0 ?w1 hm ?_
  case wN => assumption
  case wl => k_mem
  case we => k_mem
  case w0 => omega
  case w1 => omega
  intro h8 tk8 e8 x8
  refine' notedBack ?wB ?wD ?wx ?wF ?wN rfl ?_
  case wF => assumption
  case wB => assumption
  case wD => assumption
  case wx => assumption
  case wN => assumption
  intro h6 g6 oe6 T6 oT6 TT6 F6 N6 B6 D6 hT6 ne6 f16 f26
  have X6 := XB.keeps B6.stays
  have P6 := TB.keeps B6.stays
  dsimp only
  refine' caughtH (K := KF w.params) (T' := "IndexError") X6 P6 F6 N6 hT6 ne6 f26 ?ex PyProof.Rows.Boot.«IndexError» ?hn PySem.F.isExc_IndexError PySem.F.notTuple_IndexError ?hs ?_ rfl rfl (by decide) (hEm _)
  case ex => k_is
  case hn => decide
  case hs => rw [isSubtype_type]; kernel_rfl
  intro h9 F9 N9
  refine sd_handler (s := { s with heap := h9, toks := _ }) hst0 rfl B6 (Fr.cong eq_eaij F9) X6 P6 (fun q hq => N9 q (.tail _ (.tail _ hq))) rfl n1 n2 n3 n4 n5 (by omega) (by omega) (by omega) (by omega) (by first | omega | (simp; omega)) (by first | omega | (simp; omega)) hez haz ?_
  intro h10 tk10 nM10 nU10 F10 N10
  exact h h10 tk10 _ _ _ _ _ nM10 nU10 (KtsTurn.trans TT5 TT6) F10 N10 B6 X6 P6 D6
end

end
section -- SldB
/-- what sorted_list_difference tells of two lists -/
inductive SD : List Str → List Str → List Str → List Str → Prop
  | nilE {as} : SD [] as [] as
  | nilA {e es} : SD (e :: es) [] (e :: es) []
  | lt {e es a as m u} : e.cps.toList < a.cps.toList → SD es (a :: as) m u → SD (e :: es) (a :: as) (e :: m) u
  | gt {e es a as m u} : ¬ e.cps.toList < a.cps.toList → a.cps.toList < e.cps.toList → SD (e :: es) as m u → SD (e :: es) (a :: as) m (a :: u)
  | eq {e es a as m u} : ¬ e.cps.toList < a.cps.toList → ¬ a.cps.toList < e.cps.toList → SD es as m u → SD (e :: es) (a :: as) m u
theorem StrsOf.at {x : Str} {xs : List Str} {v : Array Value} {i : Nat} (h : StrsOf (x :: xs) (v.toList.drop i)) : ∃ t, v[i]? = some (.str x t) ∧ StrsOf xs (v.toList.drop (i + 1)) := by
  cases hd : v.toList.drop i with
  | nil => rw [hd] at h; cases h
  | cons y ys =>
    rw [hd] at h
    cases h with
    | cons h1 h2 =>
      obtain ⟨t, rfl⟩ := h1
      refine ⟨t, ?_, ?_⟩
      · have : (v.toList.drop i)[0]? = some (.str x t) := by rw [hd]; rfl
        simpa using this
      · rw [show v.toList.drop (i + 1) = (v.toList.drop i).drop 1 by rw [List.drop_drop], hd]
        exact h2
theorem StrsOf.end {v : Array Value} {i : Nat} (h : StrsOf [] (v.toList.drop i)) : v[i]? = none := by
  cases hd : v.toList.drop i with
  | nil =>
    have := List.drop_eq_nil_iff.mp hd
    exact Array.getElem?_eq_none (by simpa using this)
  | cons y ys => rw [hd] at h; cases h
theorem sp_drop {v : Array Value} {i : Int} (h0 : 0 ≤ i) : (slicePick v (some i) none none).toList = v.toList.drop i.toNat := by
  obtain ⟨k, rfl⟩ := Int.eq_ofNat_of_zero_le h0
  unfold slicePick
  have e : sliceBounds (some (k : Int)) none none v.size = (((min k v.size : Nat) : Int), ((v.size : Nat) : Int), 1) := by
    simp only [sliceBounds, Option.getD_none]
    have h1 : ¬ ((k : Int) < 0) := by omega
    simp only [h1, if_false, show (1 : Int) > 0 by decide, if_true]
    congr 1
    omega
  rw [e]
  dsimp only
  rw [sliceRange_one, List.toList_toArray, pick_run, List.take_of_length_le (by simp)]
  rcases Nat.le_total k v.size with h | h
  · rw [Nat.min_eq_left h]; rfl
  · rw [Nat.min_eq_right h, List.drop_eq_nil_of_le (by simp), List.drop_eq_nil_of_le (by simpa using h)]
theorem StrsOf.app : ∀ {a b : List Str} {x y : List Value}, StrsOf a x → StrsOf b y → StrsOf (a ++ b) (x ++ y) := fun h k => by
  induction h with
  | nil => exact k
  | cons h1 _ ih => exact .cons h1 ih
section
variable {w : World} {p : Program} {loose : List Str} {mean : ExcName → Option Value} {mg mb : Str → Option Value} {A₀ : Around} {dp un : Nat} {gd : Option (List Code)} {outer : List Env} {base h₀ : Heap} {L : Addr}
theorem sd_loop {q1 q2 q3 : Stmt} {t : PySem.Expr} {tb bd rest suite : List Stmt} {b₀ : Stmt} {wp0 pp pt : Pos} {nm : Option PySem.Expr} {A : Around} {env : Env}
    (hst : b199 = q1 :: q2 :: q3 :: Stmt.While t [Stmt.Try tb [ExceptHandler.ExceptHandler nm none (b₀ :: suite) pp] [] [] pt] [] wp0 :: rest) (hbd : bd = [Stmt.Try tb [ExceptHandler.ExceptHandler nm none (b₀ :: suite) pp] [] [] pt])
    (henv : env = envOf (Str.ofString "sorted_list_difference") s199 L 199 (.ref 198))
    {EE AA M U : Addr} {vE vA : Array Value} {nE nA : Nat} {Q : Flow → Shared → Prop} {E : Value → Shared → Prop}
    (XB : (KF w.params).In base) (TB : Top p loose mean mg mb base) (D : KtsDicts (outer.filterMap (·.frame)) h₀)
    (B : Below A₀ base outer h₀) (X : (KF w.params).In h₀) (T : Top p loose mean mg mb h₀)
    (hA : A = ktrTop dp un gd (Str.ofString "sorted_list_difference") s199 L 199 (.ref 198) [] outer)
    (n1 : @Ne Nat M U) (n2 : @Ne Nat M EE) (n3 : @Ne Nat M AA) (n4 : @Ne Nat U EE) (n5 : @Ne Nat U AA)
    (hd : dp + 8 < recursionLimit) (hu : un + 60 < cLine) (hE : PassesOwn (model P0 w) A env E) (hEm : ∀ v, PassesOwnAt (model P0 w) (A.mark (some v)) A env E) (hez : vE.size ≤ 40) (haz : vA.size ≤ 40) {s₀ : Shared} :
    ∀ {es as ms us : List Str}, SD es as ms us → es.Nodup → as.Nodup → ∀ (h : Heap) (k : Nat) {ev av : Option Value} {ti tj : Tok} {i j : Int} {mi une : Array Value} {nM nU : Nat},
      Fr h₀ L h (sdM ev av (.int i ti) (.int j tj) EE AA M U) → News h₀ L h (sdL EE AA M U vE vA nE nA mi une nM nU) → 0 ≤ i → 0 ≤ j → i + es.length ≤ 40 → j + as.length ≤ 40 → mi.size + es.length ≤ 40 → une.size + as.length ≤ 40 →
      StrsOf es (vE.toList.drop i.toNat) → StrsOf as (vA.toList.drop j.toNat) →
      (∀ h' tk' g' ev' av' iv' jv' nM' nU' xs ys, KtsTurn (outer.filterMap (·.frame)) h₀ g' → Fr g' L h' (sdM ev' av' iv' jv' EE AA M U) → News g' L h' (sdL EE AA M U vE vA nE nA (mi ++ xs) (une ++ ys) nM' nU') → Below A₀ base outer g' → (KF w.params).In g' → Top p loose mean mg mb g' → KtsDicts (outer.filterMap (·.frame)) g' → StrsOf ms xs.toList → StrsOf us ys.toList → Q .next { s₀ with heap := h', toks := tk' }) →
      WhlRest P0 w A E env t bd [] Q 1 { s₀ with heap := h, toks := k } := by
  intro es as ms us hs
  have nb : ∀ {x y : Str} {l : List Str}, (x :: y :: l).Nodup → (y == x) = false := fun h => by
    rw [beq_eq_false_iff_ne]
    intro e
    exact (List.nodup_cons.mp h).1 (by rw [e]; exact .head _)
  have nt : ∀ {x : Str} {l : List Str}, (x :: l).Nodup → l.Nodup := fun h => (List.nodup_cons.mp h).2
  have hez9 : vE.size ≤ 100 := Nat.le_trans hez (by decide)
  have haz9 : vA.size ≤ 100 := Nat.le_trans haz (by decide)
  induction hs with
  | @nilE as =>
    intro nE' nA' h k ev av ti tj i j mi une nM nU F N hi hj li lj lm lu sE sA hQ
    simp only [List.length_nil, List.length_cons] at li lj lm lu
    have hi9 : i < 100 := by omega
    have hj9 : j < 100 := by omega
    have hm9 : mi.size ≤ 100 := by omega
    have hu9 : une.size ≤ 100 := by omega
    exact sd_p1 (s := { s₀ with heap := h, toks := k }) (Nx := fun s' => WhlRest P0 w A E env t bd [] Q 1 s') (xe := ⟨#[]⟩) (xa := ⟨#[]⟩) (xn := ⟨#[]⟩) (xm := ⟨#[]⟩) (te := 0) (ta := 0) (tn := 0) (tm := 0) hst hbd henv XB TB D B F X T N hA n1 n2 n3 n4 n5 hd hu hE hEm hi hi9 hj hj9 hm9 hu9 hez9 haz9 sE.end (fun _ q => q) fun h' tk' g' ev' av' iv' jv' nM' nU' TT F' N' B' X' T' D' =>
      hQ h' tk' g' ev' av' iv' jv' nM' nU' _ _ TT F' N' B' X' T' D' (by rw [sp_drop hi]; exact sE) (by rw [sp_drop hj]; exact sA)
  | @nilA e es =>
    intro nE' nA' h k ev av ti tj i j mi une nM nU F N hi hj li lj lm lu sE sA hQ
    simp only [List.length_nil, List.length_cons] at li lj lm lu
    have hi9 : i < 100 := by omega
    have hj9 : j < 100 := by omega
    have hm9 : mi.size ≤ 100 := by omega
    have hu9 : une.size ≤ 100 := by omega
    obtain ⟨te, he, sE'⟩ := sE.at
    exact sd_p2 (s := { s₀ with heap := h, toks := k }) (Nx := fun s' => WhlRest P0 w A E env t bd [] Q 1 s') (xa := ⟨#[]⟩) (xn := ⟨#[]⟩) (xm := ⟨#[]⟩) (ta := 0) (tn := 0) (tm := 0) hst hbd henv XB TB D B F X T N hA n1 n2 n3 n4 n5 hd hu hE hEm hi hi9 hj hj9 hm9 hu9 hez9 haz9 he sA.end (fun _ q => q) fun h' tk' g' ev' av' iv' jv' nM' nU' TT F' N' B' X' T' D' =>
      hQ h' tk' g' ev' av' iv' jv' nM' nU' _ _ TT F' N' B' X' T' D' (by rw [sp_drop hi]; exact sE) (by rw [sp_drop hj]; exact sA)
  | @lt e es a as m u hlt hs ih =>
    intro nE' nA' h k ev av ti tj i j mi une nM nU F N hi hj li lj lm lu sE sA hQ
    simp only [List.length_nil, List.length_cons] at li lj lm lu
    have hi9 : i < 100 := by omega
    have hj9 : j < 100 := by omega
    have hm9 : mi.size ≤ 100 := by omega
    have hu9 : une.size ≤ 100 := by omega
    have ei : (i + 1).toNat = i.toNat + 1 := by omega
    have ej : (j + 1).toNat = j.toNat + 1 := by omega
    obtain ⟨te, he, sE'⟩ := sE.at
    obtain ⟨ta, ha, sA'⟩ := sA.at
    cases es with
    | nil =>
      cases hs
      exact sd_p4 (s := { s₀ with heap := h, toks := k }) (Nx := fun s' => WhlRest P0 w A E env t bd [] Q 1 s') (xn := ⟨#[]⟩) (xm := ⟨#[]⟩) (tn := 0) (tm := 0) hst hbd henv XB TB D B F X T N hA n1 n2 n3 n4 n5 hd hu hE hEm hi hi9 hj hj9 hm9 hu9 hez9 haz9 he ha (decide_eq_true hlt) (by rw [ei]; exact sE'.end) (fun _ q => q) fun h' tk' g' ev' av' iv' jv' nM' nU' TT F' N' B' X' T' D' =>
      hQ h' tk' g' ev' av' iv' jv' nM' nU' (#[.str e te] ++ slicePick vE (some (i + 1)) none none) _ TT F' (by rw [← Array.append_assoc, ← Array.push_eq_append]; exact N') B' X' T' D' (by rw [Array.toList_append, sp_drop (by omega), ei]; exact .cons ⟨_, rfl⟩ sE') (by rw [sp_drop hj]; exact sA)
    | cons e2 es2 =>
      obtain ⟨tn, hn, _⟩ := (ei ▸ sE' : StrsOf (e2 :: es2) (vE.toList.drop (i + 1).toNat)).at
      exact sd_p3 (s := { s₀ with heap := h, toks := k }) (Nx := fun s' => WhlRest P0 w A E env t bd [] Q 1 s') (xm := ⟨#[]⟩) (tm := 0) hst hbd henv XB TB D B F X T N hA n1 n2 n3 n4 n5 hd hu hE hEm hi hi9 hj hj9 hm9 hu9 hez9 haz9 he ha (decide_eq_true hlt) hn (nb nE') (fun _ q => q) fun h' tk' ti' tj' nM' nU' F' N' =>
        ih (nt nE') nA' h' tk' F' N' (by omega) hj (by omega) (by omega) (by rw [Array.size_push]; omega) (by omega) (by rw [ei]; exact sE') sA
          fun h2 tk2 g2 ev2 av2 iv2 jv2 nM2 nU2 xs ys TT F2 N2 B2 X2 T2 D2 s1 s2 => hQ h2 tk2 g2 ev2 av2 iv2 jv2 nM2 nU2 (#[.str e te] ++ xs) ys TT F2 (by rw [← Array.append_assoc, ← Array.push_eq_append]; exact N2) B2 X2 T2 D2 (by rw [Array.toList_append]; exact .cons ⟨_, rfl⟩ s1) s2
  | @gt e es a as m u hlt hgt hs ih =>
    intro nE' nA' h k ev av ti tj i j mi une nM nU F N hi hj li lj lm lu sE sA hQ
    simp only [List.length_nil, List.length_cons] at li lj lm lu
    have hi9 : i < 100 := by omega
    have hj9 : j < 100 := by omega
    have hm9 : mi.size ≤ 100 := by omega
    have hu9 : une.size ≤ 100 := by omega
    have ei : (i + 1).toNat = i.toNat + 1 := by omega
    have ej : (j + 1).toNat = j.toNat + 1 := by omega
    obtain ⟨te, he, sE'⟩ := sE.at
    obtain ⟨ta, ha, sA'⟩ := sA.at
    cases as with
    | nil =>
      cases hs
      exact sd_p6 (s := { s₀ with heap := h, toks := k }) (Nx := fun s' => WhlRest P0 w A E env t bd [] Q 1 s') (xn := ⟨#[]⟩) (xm := ⟨#[]⟩) (tn := 0) (tm := 0) hst hbd henv XB TB D B F X T N hA n1 n2 n3 n4 n5 hd hu hE hEm hi hi9 hj hj9 hm9 hu9 hez9 haz9 he ha (decide_eq_false hlt) (decide_eq_true hgt) (by rw [ej]; exact sA'.end) (fun _ q => q) fun h' tk' g' ev' av' iv' jv' nM' nU' TT F' N' B' X' T' D' =>
      hQ h' tk' g' ev' av' iv' jv' nM' nU' (slicePick vE (some i) none none) (#[.str a ta] ++ slicePick vA (some (j + 1)) none none) TT F' (by rw [← Array.append_assoc, ← Array.push_eq_append]; exact N') B' X' T' D' (by rw [sp_drop hi]; exact sE) (by rw [Array.toList_append, sp_drop (by omega), ej]; exact .cons ⟨_, rfl⟩ sA')
    | cons a2 as2 =>
      obtain ⟨tm, hm, _⟩ := (ej ▸ sA' : StrsOf (a2 :: as2) (vA.toList.drop (j + 1).toNat)).at
      exact sd_p5 (s := { s₀ with heap := h, toks := k }) (Nx := fun s' => WhlRest P0 w A E env t bd [] Q 1 s') (xn := ⟨#[]⟩) (tn := 0) hst hbd henv XB TB D B F X T N hA n1 n2 n3 n4 n5 hd hu hE hEm hi hi9 hj hj9 hm9 hu9 hez9 haz9 he ha (decide_eq_false hlt) (decide_eq_true hgt) hm (nb nA') (fun _ q => q) fun h' tk' ti' tj' nM' nU' F' N' =>
        ih nE' (nt nA') h' tk' F' N' hi (by omega) (by omega) (by omega) (by omega) (by rw [Array.size_push]; omega) sE (by rw [ej]; exact sA')
          fun h2 tk2 g2 ev2 av2 iv2 jv2 nM2 nU2 xs ys TT F2 N2 B2 X2 T2 D2 s1 s2 => hQ h2 tk2 g2 ev2 av2 iv2 jv2 nM2 nU2 xs (#[.str a ta] ++ ys) TT F2 (by rw [← Array.append_assoc, ← Array.push_eq_append]; exact N2) B2 X2 T2 D2 s1 (by rw [Array.toList_append]; exact .cons ⟨_, rfl⟩ s2)
  | @eq e es a as m u hlt hgt hs ih =>
    intro nE' nA' h k ev av ti tj i j mi une nM nU F N hi hj li lj lm lu sE sA hQ
    simp only [List.length_nil, List.length_cons] at li lj lm lu
    have hi9 : i < 100 := by omega
    have hj9 : j < 100 := by omega
    have hm9 : mi.size ≤ 100 := by omega
    have hu9 : une.size ≤ 100 := by omega
    have ei : (i + 1).toNat = i.toNat + 1 := by omega
    have ej : (j + 1).toNat = j.toNat + 1 := by omega
    obtain ⟨te, he, sE'⟩ := sE.at
    obtain ⟨ta, ha, sA'⟩ := sA.at
    have sE1 : StrsOf es (vE.toList.drop (i + 1).toNat) := by rw [ei]; exact sE'
    have sA1 : StrsOf as (vA.toList.drop (j + 1).toNat) := by rw [ej]; exact sA'
    cases es with
    | nil =>
      cases hs
      cases as with
      | nil =>
        exact sd_p10 (s := { s₀ with heap := h, toks := k }) (Nx := fun s' => WhlRest P0 w A E env t bd [] Q 1 s') (xn := ⟨#[]⟩) (xm := ⟨#[]⟩) (tn := 0) (tm := 0) hst hbd henv XB TB D B F X T N hA n1 n2 n3 n4 n5 hd hu hE hEm hi hi9 hj hj9 hm9 hu9 hez9 haz9 he ha (decide_eq_false hlt) (decide_eq_false hgt) sE1.end sA1.end (fun _ q => q) fun h' tk' g' ev' av' iv' jv' nM' nU' TT F' N' B' X' T' D' =>
      hQ h' tk' g' ev' av' iv' jv' nM' nU' _ _ TT F' N' B' X' T' D' (by rw [sp_drop (by omega)]; exact sE1) (by rw [sp_drop (by omega)]; exact sA1)
      | cons a2 as2 =>
        obtain ⟨tm, hm, _⟩ := sA1.at
        exact sd_p9 (s := { s₀ with heap := h, toks := k }) (Nx := fun s' => WhlRest P0 w A E env t bd [] Q 1 s') (xn := ⟨#[]⟩) (tn := 0) hst hbd henv XB TB D B F X T N hA n1 n2 n3 n4 n5 hd hu hE hEm hi hi9 hj hj9 hm9 hu9 hez9 haz9 he ha (decide_eq_false hlt) (decide_eq_false hgt) sE1.end hm (nb nA') (fun _ q => q) fun h' tk' g' ev' av' iv' jv' nM' nU' TT F' N' B' X' T' D' =>
      hQ h' tk' g' ev' av' iv' jv' nM' nU' _ _ TT F' N' B' X' T' D' (by rw [sp_drop (by omega)]; exact sE1) (by rw [sp_drop (by omega)]; exact sA1)
    | cons e2 es2 =>
      obtain ⟨tn, hn, _⟩ := sE1.at
      cases as with
      | nil =>
        cases hs
        exact sd_p8 (s := { s₀ with heap := h, toks := k }) (Nx := fun s' => WhlRest P0 w A E env t bd [] Q 1 s') (xm := ⟨#[]⟩) (tm := 0) hst hbd henv XB TB D B F X T N hA n1 n2 n3 n4 n5 hd hu hE hEm hi hi9 hj hj9 hm9 hu9 hez9 haz9 he ha (decide_eq_false hlt) (decide_eq_false hgt) hn (nb nE') sA1.end (fun _ q => q) fun h' tk' g' ev' av' iv' jv' nM' nU' TT F' N' B' X' T' D' =>
      hQ h' tk' g' ev' av' iv' jv' nM' nU' _ _ TT F' N' B' X' T' D' (by rw [sp_drop (by omega)]; exact sE1) (by rw [sp_drop (by omega)]; exact sA1)
      | cons a2 as2 =>
        obtain ⟨tm, hm, _⟩ := sA1.at
        exact sd_p7 (s := { s₀ with heap := h, toks := k }) (Nx := fun s' => WhlRest P0 w A E env t bd [] Q 1 s')  hst hbd henv XB TB D B F X T N hA n1 n2 n3 n4 n5 hd hu hE hEm hi hi9 hj hj9 hm9 hu9 hez9 haz9 he ha (decide_eq_false hlt) (decide_eq_false hgt) hn (nb nE') hm (nb nA') (fun _ q => q) fun h' tk' ti' tj' nM' nU' F' N' =>
          ih (nt nE') (nt nA') h' tk' F' N' (by omega) (by omega) (by omega) (by omega) (by omega) (by omega) sE1 sA1 hQ
end

end
section -- SldC
theorem row104 : True := by (k_with_none; trivial)
theorem row105 : True := by ((k_with "MINE enterS" => ((k_dflt (refine' enterS ?k1 ?k2 ?k3 ?k4 ?k5 ?XB ?TB ?kD ?kA ?kF ?kK ?k6 ?k7 ?k8 ?k9 ?kB ?_ ?c2 ?c3 ?c4 ?c5; (case kA => first | assumption | exact rfl); (case kF => first | assumption | exact rfl); (case kK => first | assumption | exact rfl); (case k1 => k_asm); (case k2 => k_asm); (case k3 => assumption); (case k4 => k_asm); (case k5 => assumption); (case XB => assumption); (case TB => assumption); (case kD => assumption); (case k6 => k_is); (case k7 => k_is); (case k8 => ktr_room); (case k9 => first | exact BindsTo.of_eq rfl | exact binds_K (by k_in) rfl (by k_is) rfl rfl rfl | exact kp_binds (by k_in) (fun _ => rfl) | fail "k_enter: no rule for these arguments"); (case c5 => decide); (case kB => exact locs rfl); (case c2 => exact rfl); (case c3 => exact rfl); (case c4 => exact rfl); k_whole; intro zkg' zkL' zkh' zkgk' zkFG' zkF' zkN' zkB' zkX' zkT' zkD' zkl1; (try k_lt zkl1); (try dsimp only); (try k_lift zkB'); (try k_fold))))); trivial)
theorem fill_sc : (PySem.Challenge.rw_of0118_01.name = PySem.Challenge.rw_of0118_01.name) → (∀ P, KF P = KF P) := by
  k_fill
  intro _ _; rfl
theorem sdM_init {iv jv : Value} {E A M U : Addr} : (fun y => if y = Str.ofString "unexpected" then some (Value.ref U) else if y = Str.ofString "missing" then some (Value.ref M) else if y = Str.ofString "j" then some jv else if y = Str.ofString "i" then some iv else List.lookup y [(Str.ofString "actual", Value.ref A), (Str.ofString "expected", Value.ref E)]) = sdM none none iv jv E A M U := by
  funext y
  have a1 : ¬ (Str.ofString "unexpected" = Str.ofString "e") := by decide +kernel
  have a2 : ¬ (Str.ofString "unexpected" = Str.ofString "a") := by decide +kernel
  have a3 : ¬ (Str.ofString "unexpected" = Str.ofString "i") := by decide +kernel
  have a4 : ¬ (Str.ofString "unexpected" = Str.ofString "j") := by decide +kernel
  have a5 : ¬ (Str.ofString "unexpected" = Str.ofString "missing") := by decide +kernel
  have b1 : ¬ (Str.ofString "missing" = Str.ofString "e") := by decide +kernel
  have b2 : ¬ (Str.ofString "missing" = Str.ofString "a") := by decide +kernel
  have b3 : ¬ (Str.ofString "missing" = Str.ofString "i") := by decide +kernel
  have b4 : ¬ (Str.ofString "missing" = Str.ofString "j") := by decide +kernel
  have c1 : ¬ (Str.ofString "actual" = Str.ofString "e") := by decide +kernel
  have c2 : ¬ (Str.ofString "actual" = Str.ofString "a") := by decide +kernel
  have c3 : ¬ (Str.ofString "actual" = Str.ofString "i") := by decide +kernel
  have c4 : ¬ (Str.ofString "actual" = Str.ofString "j") := by decide +kernel
  have c5 : ¬ (Str.ofString "actual" = Str.ofString "missing") := by decide +kernel
  have c6 : ¬ (Str.ofString "actual" = Str.ofString "unexpected") := by decide +kernel
  have c7 : ¬ (Str.ofString "actual" = Str.ofString "expected") := by decide +kernel
  have d1 : ¬ (Str.ofString "expected" = Str.ofString "e") := by decide +kernel
  have d2 : ¬ (Str.ofString "expected" = Str.ofString "a") := by decide +kernel
  have d3 : ¬ (Str.ofString "expected" = Str.ofString "i") := by decide +kernel
  have d4 : ¬ (Str.ofString "expected" = Str.ofString "j") := by decide +kernel
  have d5 : ¬ (Str.ofString "expected" = Str.ofString "missing") := by decide +kernel
  have d6 : ¬ (Str.ofString "expected" = Str.ofString "unexpected") := by decide +kernel
  have d7 : (Str.ofString "expected" == Str.ofString "actual") = false := by decide +kernel
  by_cases h1 : y = Str.ofString "unexpected"
  · subst h1; simp [sdM, a1, a2, a3, a4, a5]
  · by_cases h2 : y = Str.ofString "missing"
    · subst h2; simp [sdM, h1, b1, b2, b3, b4]
    · by_cases h3 : y = Str.ofString "j"
      · subst h3; simp [sdM, h1, h2, dn_ej, dn_aj, dn_ij]
      · by_cases h4 : y = Str.ofString "i"
        · subst h4; simp [sdM, h1, h2, h3, dn_ei, dn_ai]
        · by_cases h5 : y = Str.ofString "actual"
          · subst h5; simp [sdM, c1, c2, c3, c4, c5, c6, c7]
          · have e5 : (y == Str.ofString "actual") = false := by rw [beq_eq_false_iff_ne]; exact h5
            by_cases h6 : y = Str.ofString "expected"
            · subst h6; simp [sdM, d1, d2, d3, d4, d5, d6, List.lookup_cons, d7]
            · have e6 : (y == Str.ofString "expected") = false := by rw [beq_eq_false_iff_ne]; exact h6
              simp [sdM, h1, h2, h3, h4, h5, h6, List.lookup_cons, e5, e6]
theorem News.swapS {h₀ h : Heap} {L : Addr} {a b : Addr × Obj} {l : List (Addr × Obj)} (N : News h₀ L h (a :: b :: l)) : News h₀ L h (b :: a :: l) := fun q hq => N q (by
  rcases List.mem_cons.mp hq with rfl | hq
  · exact .tail _ (.head _)
  · rcases List.mem_cons.mp hq with rfl | hq
    · exact .head _
    · exact .tail _ (.tail _ hq))
section
variable {w : World} {p : Program} {loose : List Str} {mean : ExcName → Option Value} {mg mb : Str → Option Value} {A₀ : Around} {dp un : Nat} {gd : Option (List Code)} {cn : Str} {cs : Scope} {ca : Addr} {ccd : Value} {cl : List (Str × Addr)} {outer : List Env} {base h₀ : Heap} {L : Addr} {m : Str → Option Value} {s : Shared} {news : List (Addr × Obj)} {R : Result → Shared → Prop}
theorem row106 : True := by ((k_with "exec While" => ((k_here; k_dflt (refine whl_start 1 ?_; refine' sd_loop rfl rfl rfl ?XB ?TB ?wD ?wB ?wX ?wT rfl ?n1 ?n2 ?n3 ?n4 ?n5 ?w4 ?w5 ?w6 ?w7 ?ze ?za ?hs ?ne ?na _ _ ?wF ?wN ?i0 ?j0 ?l1 ?l2 ?l3 ?l4 ?sE ?sA ?_; (case wF => exact Fr.cong sdM_init (by assumption)); (case wB => assumption); (case XB => assumption); (case TB => assumption); (case wD => assumption); (case wX => assumption); (case wT => assumption); (case wN => exact News.swapS (by assumption)); (case n1 => k_ne); (case n2 => k_ne); (case n3 => k_ne); (case n4 => k_ne); (case n5 => k_ne); (case w4 => ktr_room); (case w5 => ktr_units); (case w6 => first | passes_own | with_unfolding_all passes_own); (case w7 => intro _; first | passes_own | with_unfolding_all passes_own); (case ze => assumption); (case za => assumption); (case hs => assumption); (case ne => assumption); (case na => assumption); (case i0 => decide); (case j0 => decide); (case sE => assumption); (case sA => assumption); (case l1 => first | omega | (simp; omega)); (case l2 => first | omega | (simp; omega)); (case l3 => first | omega | (simp; omega)); (case l4 => first | omega | (simp; omega)))))); trivial)
theorem sld_c {EE AA : Addr} {vE vA : Array Value} {nE nA : Nat} {es as ms us : List Str}
    (XB : (KF w.params).In base) (TB : Top p loose mean mg mb base) (D : KtsDicts (outer.filterMap (·.frame)) h₀) (B : Below A₀ base outer h₀) (F : Fr h₀ L s.heap m) (X : (KF w.params).In h₀) (N : News h₀ L s.heap news) (T : Top p loose mean mg mb h₀) (hke : cs.kind = .function)
    (hE : (EE, W.listOf vE nE) ∈ news) (hA : (AA, W.listOf vA nA) ∈ news) (hs : SD es as ms us) (nE' : es.Nodup) (nA' : as.Nodup) (sE : StrsOf es vE.toList) (sA : StrsOf as vA.toList) (hez : vE.size ≤ 40) (haz : vA.size ≤ 40)
    (le : es.length ≤ 40) (la : as.length ≤ 40)
    (hd : dp + 20 < recursionLimit) (hu : un + 120 < cLine)
    (hret : ∀ h₀' h' tk' TT M U nM nU xs ys, KtsTurn (outer.filterMap (·.frame)) h₀ h₀' → Fr h₀' L h' m → News h₀' L h' ((TT, ({ cls := .type "tuple", data := .seq #[.ref M, .ref U] } : Obj)) :: (M, W.listOf xs nM) :: (U, W.listOf ys nU) :: news) → Below A₀ base outer h₀' → (KF w.params).In h₀' → Top p loose mean mg mb h₀' → KtsDicts (outer.filterMap (·.frame)) h₀' →
      @Ne Nat TT M → @Ne Nat TT U → @Ne Nat M U → (∀ q ∈ news, q.1 ≠ TT) → (∀ q ∈ news, q.1 ≠ M) → (∀ q ∈ news, q.1 ≠ U) → StrsOf ms xs.toList → StrsOf us ys.toList → R (.ok (.ret (.ref TT))) { s with heap := h', toks := tk' }) :
    codeAny (model P0 w) (ktrTop dp un gd cn cs L ca ccd cl outer) (.call (.ref 199) ⟨[.ref EE, .ref AA], []⟩) R s := by
  w_on
  have Nm : News h₀ L s.heap [(EE, W.listOf vE nE), (AA, W.listOf vA nA)] := fun q hq => by
    simp only [List.mem_cons, List.not_mem_nil, or_false] at hq
    rcases hq with rfl | rfl
    · exact N _ hE
    · exact N _ hA
  have sub : ∀ r ∈ [(EE, W.listOf vE nE), (AA, W.listOf vA nA)], r ∈ news := fun q hq => by
    simp only [List.mem_cons, List.not_mem_nil, or_false] at hq
    rcases hq with rfl | rfl
    · exact hE
    · exact hA
  have fin : ∀ h₀' h' tk' TT M U nM nU xs ys g L' g' L2 m2, KtsTurn (outer.filterMap (·.frame)) h₀ h₀' → Fr h₀' L h' m → News h₀' L h' ((TT, ({ cls := .type "tuple", data := .seq #[.ref M, .ref U] } : Obj)) :: sdL EE AA M U vE vA nE nA (#[] ++ xs) (#[] ++ ys) nM nU) → Below A₀ base outer h₀' → (KF w.params).In h₀' → Top p loose mean mg mb h₀' → KtsDicts (outer.filterMap (·.frame)) h₀' →
      (∀ b o, s.heap.get? b = some o → (∀ p ∈ [(EE, W.listOf vE nE), (AA, W.listOf vA nA)], p.1 ≠ b) → g.get? b = some o) → KtsTurn ((envX cn cs L ca ccd cl :: outer).filterMap (·.frame)) g g' → Fr g' L2 h' m2 → News g' L' h' ((TT, ({ cls := .type "tuple", data := .seq #[.ref M, .ref U] } : Obj)) :: sdL EE AA M U vE vA nE nA (#[] ++ xs) (#[] ++ ys) nM nU) →
      (@LT.lt Nat _ EE M ∧ @LT.lt Nat _ AA M ∧ @LT.lt Nat _ M U ∧ @LT.lt Nat _ U TT ∧ @LT.lt Nat _ EE U ∧ @LT.lt Nat _ AA U ∧ @LT.lt Nat _ EE TT ∧ @LT.lt Nat _ AA TT ∧ @LT.lt Nat _ M TT) → StrsOf ms xs.toList → StrsOf us ys.toList → R (.ok (.ret (.ref TT))) { s with heap := h', toks := tk' } := by
    intro h₀' h' tk' TT M U nM nU xs ys g L' g' L2 m2 hT kF kN kB kX kP kD gk TTg F2 N2 ⟨l1, l2, l3, l4, l5, l6, l7, l8, l9⟩ s1 s2
    simp only [Array.empty_append] at kN N2
    have fr : ∀ S o, (S, o) ∈ ((TT, ({ cls := .type "tuple", data := .seq #[.ref M, .ref U] } : Obj)) :: sdL EE AA M U vE vA nE nA xs ys nM nU) → EE < S → AA < S → ∀ q ∈ news, q.1 ≠ S := fun S o hS h1 h2 =>
      freshT2 (env := envX cn cs L ca ccd cl) B rfl N gk TTg N2 hS (fun r hr => by
        simp only [List.mem_cons, List.not_mem_nil, or_false] at hr
        rcases hr with rfl | rfl
        · exact Nat.ne_of_lt h1
        · exact Nat.ne_of_lt h2)
    refine hret h₀' h' tk' TT M U nM nU xs ys hT kF ?_ kB kX kP kD (Nat.ne_of_gt l9) (Nat.ne_of_gt l4) (Nat.ne_of_lt l3) (fr TT _ (.head _) l7 l8) (fr M _ (.tail _ (.head _)) l1 l2) (fr U _ (.tail _ (.tail _ (.head _))) l5 l6) s1 s2
    refine keptT (env := envX cn cs L ca ccd cl) (pre' := [(TT, _), (M, _), (U, _)]) B rfl hT N sub (fun r hr => ?_) (fun r hr => ?_) gk TTg F2
    · simp only [List.mem_cons, List.not_mem_nil, or_false] at hr
      rcases hr with rfl | rfl
      · exact (kN _ (.tail _ (.tail _ (.tail _ (.head _))))).1
      · exact (kN _ (.tail _ (.tail _ (.tail _ (.tail _ (.head _)))))).1
    · simp only [List.mem_cons, List.not_mem_nil, or_false] at hr
      rcases hr with rfl | rfl | rfl
      · exact kN _ (.head _)
      · exact kN _ (.tail _ (.head _))
      · exact kN _ (.tail _ (.tail _ (.head _)))
  walk_at "MINE enterS"
  k_steps
  refine' fin _ _ _ _ _ _ _ _ _ _ _ _ _ _ _ ?zT ?zF ?zN ?zB ?zX ?zP ?zD ?zg ?zt ?zF2 ?zN2 ?zl ?zs1 ?zs2
  case zF => assumption
  case zN => assumption
  case zT => assumption
  case zB => assumption
  case zX => assumption
  case zP => assumption
  case zD => assumption
  case zg => assumption
  case zt => assumption
  case zF2 => assumption
  case zN2 => assumption
  case zl => omega
  case zs1 => assumption
  case zs2 => assumption
end

end
section -- ForL
section
variable {prog : Program} {w : World} {A : Around} {E : Value → Shared → Prop} {s : Shared} {env : Env} {target : Expr} {body : List Stmt} {Q : Flow → Shared → Prop} {h₀ : Heap} {L : Addr} {m : Str → Option Value} {news : List (Addr × Obj)}
noncomputable def ForV (prog : Program) (w : World) (A : Around) (E : Value → Shared → Prop) (env : Env) (target : Expr) (body : List Stmt) (Q : Flow → Shared → Prop) (it : Value) (s : Shared) : Prop :=
  codeAny (model prog w) A (.forLoop target it body [] env) (fun r s' => match r with | .ok f => Q f s' | .error e => cameBackBy (model prog w) A env E e s') s
theorem for_begin {iter : Expr} {pos : Pos} (h : wpAny (model prog w) A (eval iter env) (fun xv s₁ => wpAny (model prog w) A (pyIter xv) (fun it s₂ => ForV prog w A E env target body Q it s₂) E s₁) E s)
    (hs : ∀ x, foldedSetIterable iter env x = pure x := by intro _; rfl) : wpAny (model prog w) A (exec (.For target iter body [] pos) env) Q E s := wpAny_For h hs
/-- one turn, whatever the iterator -/
theorem for_step {it : Value} {Nx : Shared → Prop} (hE : PassesOwn (model prog w) A env E) (hN : ∀ s', Nx s' → ForV prog w A E env target body Q it s')
    (h : wpAny (model prog w) A (pyNext it) (fun r s₁ => match r with
      | none => Q .next s₁
      | some v => wpAny (model prog w) A (letOwnedTupleGo target it v) (fun _ s₁' => wpAny (model prog w) A (assign target env v) (fun _ s₂ => wpAny (model prog w) A (execs body env) (NPost Nx Q) E s₂) E s₁') E s₁) E s) :
    ForV prog w A E env target body Q it s := by
  refine codeAny_of_tree ?_
  show wpAny _ A ((forTurn target it body [] env).onRaise (fun x => do noteFrame x env; theTreesLotGoes x)) _ _ s
  refine wpAny_noted ?_
  simp only [forTurn]
  refine wpAny_bind (wpAny_standAt (wpAny_bind (wpAny_onRaise (wpAny_mono h (fun r s₁ h₁ => ?_) fun e s' h' => wpAny_standAt (hE e s' h')))))
  cases r with
  | none => exact wpAny_pure ⟨rfl, codeAny_block (wpAny_execs_nil h₁)⟩
  | some v =>
    refine wpAny_bind (wpAny_mono h₁ (fun _ s₁' h₁' => ?_) hE)
    refine wpAny_bind (wpAny_mono h₁' (fun _ s₂ h₂ => wpAny_bind (wpAny_mono h₂ (fun f s₃ h₃ => ?_) hE)) hE)
    cases f with
    | next => exact wpAny_pure ⟨rfl, hN _ h₃⟩
    | cont => exact wpAny_pure ⟨rfl, hN _ h₃⟩
    | brk => exact wpAny_pure h₃
    | ret v => exact wpAny_pure h₃
noncomputable def IterAt (o : Obj) (ax : Addr) (i : Nat) : Prop := o.cls = .type "list_iterator" ∧ o.data = .fields #[.ref ax, .int i 0]
theorem for_iter {ax : Addr} {its : Array Value} {n : Nat} {Q' : Value → Shared → Prop} (F : Fr h₀ L s.heap m) (N : News h₀ L s.heap news) (hax : (ax, W.listOf its n) ∈ news)
    (h : ∀ I oI h', Fr h₀ L h' m → News h₀ L h' ((I, oI) :: news) → IterAt oI ax 0 → (∀ p ∈ news, p.1 < I) → Q' (.ref I) { s with heap := h' }) : wpAny (model prog w) A (pyIter (.ref ax)) Q' E s := by
  have IL : s.heap.IsList ax its := PySem.IsL.isList (n := n) (N _ hax).1
  exact wpAny_pyIter_list IL (h _ _ _ (F.push _) (N.push F _) ⟨rfl, rfl⟩ fun p hp => Heap.lt_size (N p hp).1)
theorem News.one {h h' : Heap} {I : Addr} {o o' : Obj} (N : News h₀ L h ((I, o) :: news)) (sb : Heap.SameBut I h h') (ho : h'.get? I = some o') (hne : ∀ q ∈ news, q.1 ≠ I) : News h₀ L h' ((I, o') :: news) := news_set (pre := []) N (fun _ hq => nomatch hq) hne sb ho
theorem for_turn {I ax : Addr} {oI : Obj} {i : Nat} {its : Array Value} {n : Nat} {v : Value} {Nx : Shared → Prop} (hE : PassesOwn (model prog w) A env E) (hN : ∀ s', Nx s' → ForV prog w A E env target body Q (.ref I) s')
    (F : Fr h₀ L s.heap m) (N : News h₀ L s.heap ((I, oI) :: news)) (hI : IterAt oI ax i) (hax : (ax, W.listOf its n) ∈ news) (hne : ∀ q ∈ news, q.1 ≠ I) (hx : its[i]? = some v)
    (h : ∀ h' oI', Fr h₀ L h' m → News h₀ L h' ((I, oI') :: news) → IterAt oI' ax (i + 1) → wpAny (model prog w) A (assign target env v) (fun _ s₂ => wpAny (model prog w) A (execs body env) (NPost Nx Q) E s₂) E { s with heap := h' }) :
    ForV prog w A E env target body Q (.ref I) s := by
  have IL : s.heap.IsList ax its := PySem.IsL.isList (n := n) (N _ (.tail _ hax)).1
  have HI := N _ (.head _)
  refine for_step hE hN (wpAny_pyNext_list_item ⟨oI, HI.1, hI.1, hI.2⟩ IL hx fun h' hit sb => ?_)
  refine letGo_listiter (s' := { s with heap := h' }) hit ?_
  obtain ⟨o', ho', hc', hd'⟩ := hit
  exact h h' o' (F.change sb HI.2.1 HI.2.2) (News.one N sb ho' hne) ⟨hc', hd'⟩
theorem for_end {I ax : Addr} {oI : Obj} {i : Nat} {its : Array Value} {n : Nat} (hE : PassesOwn (model prog w) A env E) (hh : A.handled = none)
    (F : Fr h₀ L s.heap m) (N : News h₀ L s.heap ((I, oI) :: news)) (hI : IterAt oI ax i) (hax : (ax, W.listOf its n) ∈ news) (hne : ∀ q ∈ news, q.1 ≠ I) (hx : its[i]? = none)
    (h : ∀ h', Fr h₀ L h' m → News h₀ L h' news → Q .next { s with heap := h' }) :
    ForV prog w A E env target body Q (.ref I) s := by
  have IL : s.heap.IsList ax its := PySem.IsL.isList (n := n) (N _ (.tail _ hax)).1
  have HI := N _ (.head _)
  refine for_step (Nx := fun _ => False) hE (fun _ q => q.elim) (wpAny_pyNext_list_end hh ⟨oI, HI.1, hI.1, hI.2⟩ IL hx fun h' hk => ?_)
  refine h h' ⟨F.ns.at' fun o e => hk _ o (Ne.symm HI.2.1) e, fun b o e => hk b o (fun z => by rw [z, HI.2.2] at e; cases e) (F.keep b o e), F.above⟩ fun q hq => ⟨hk _ _ (hne q hq) (N q (.tail _ hq)).1, (N q (.tail _ hq)).2⟩
noncomputable abbrev rgO (x left step : Int) : Obj := { cls := .type "range_iterator", data := .fields #[rawInt x, rawInt left, rawInt step] }
noncomputable abbrev rangeO (a b c : Int) (t u v : Tok) : Obj := { cls := .type "range", data := .fields #[.int a t, .int b u, .int c v] }
theorem for_iterQ {r : Addr} {a b : Int} {t u v : Tok} {Q' : Value → Shared → Prop} (F : Fr h₀ L s.heap m) (N : News h₀ L s.heap news) (hr : IsRange s.heap r a b 1 t u v) (ha : 0 ≤ a) (hab : a ≤ b) (hb : b < 1000)
    (h : ∀ I h', Fr h₀ L h' m → News h₀ L h' ((I, rgO a (b - a) 1) :: news) → (∀ p ∈ news, p.1 < I) → Q' (.ref I) { s with heap := h' }) : wpAny (model prog w) A (pyIter (.ref r)) Q' E s := by
  have e : Builtin.Range.rangeSize a b 1 = b - a := by
    unfold Builtin.Range.rangeSize
    simp only [show (1 : Int) > 0 by decide, if_true]
    split <;> omega
  refine wpAny_pyIter_range hr ?_ ?_
  · unfold Builtin.Range.small Builtin.Range.rangeFitsLong
    rw [e]
    simp
    omega
  · rw [e]
    exact h _ _ (F.push _) (N.push F _) fun p hp => Heap.lt_size (N p hp).1
theorem for_turnR {I : Addr} {x left : Int} {nm : Str} {np : Pos} {Nx : Shared → Prop} (hE : PassesOwn (model prog w) A env E) (hN : ∀ s', Nx s' → ForV prog w A E env (.Name nm np) body Q (.ref I) s')
    (F : Fr h₀ L s.heap m) (N : News h₀ L s.heap ((I, rgO x left 1) :: news)) (hne : ∀ q ∈ news, q.1 ≠ I) (hl : 0 < left)
    (h : ∀ h', Fr h₀ L h' m → News h₀ L h' ((I, rgO (x + 1) (left - 1) 1) :: news) → wpAny (model prog w) A (assign (.Name nm np) env (.int x s.toks)) (fun _ s₂ => wpAny (model prog w) A (execs body env) (NPost Nx Q) E s₂) E { s with heap := h', toks := s.toks + 1 }) :
    ForV prog w A E env (.Name nm np) body Q (.ref I) s := by
  have HI := N _ (.head _)
  refine for_step hE hN (wpAny_pyNext_range_item HI.1 hl fun h' hit sb => ?_)
  unfold letOwnedTupleGo
  exact wpAny_pure (h h' (F.change sb HI.2.1 HI.2.2) (News.one N sb hit hne))
theorem for_endR {I : Addr} {x left : Int} (hE : PassesOwn (model prog w) A env E) (hh : A.handled = none)
    (F : Fr h₀ L s.heap m) (N : News h₀ L s.heap ((I, rgO x left 1) :: news)) (hne : ∀ q ∈ news, q.1 ≠ I) (hl : left ≤ 0)
    (h : ∀ h', Fr h₀ L h' m → News h₀ L h' news → Q .next { s with heap := h' }) :
    ForV prog w A E env target body Q (.ref I) s := by
  have HI := N _ (.head _)
  refine for_step (Nx := fun _ => False) hE (fun _ q => q.elim) (wpAny_pyNext_range_end hh HI.1 hl fun h' hk => ?_)
  refine h h' ⟨F.ns.at' fun o e => hk _ o (Ne.symm HI.2.1) e, fun b o e => hk b o (fun z => by rw [z, HI.2.2] at e; cases e) (F.keep b o e), F.above⟩ fun q hq => ⟨hk _ _ (hne q hq) (N q (.tail _ hq)).1, (N q (.tail _ hq)).2⟩
end

end
section -- LawA
theorem row107 : True := by (k_with_none; trivial)
local macro_rules | `(tactic| k_all) => `(tactic| with_reducible assumption)
theorem row108 : True := by ((k_with "MINE enter" => ((k_dflt (refine' enterM ?k1 ?k2 ?k3 ?k4 ?k5 ?kA ?kF ?kK ?k6 ?k7 ?k8 ?k9 ?kB ?_ ?c2 ?c3 ?c4 ?c5; (case kA => first | assumption | exact rfl); (case kF => first | assumption | exact rfl); (case kK => first | assumption | exact rfl); (case k1 => k_asm); (case k2 => k_asm); (case k3 => k_asm); (case k4 => k_asm); (case k5 => k_asm); (case k6 => k_is); (case k7 => k_is); (case k8 => ktr_room); (case k9 => first | exact BindsTo.of_eq rfl | exact binds_K (by k_in) rfl (by k_is) rfl rfl rfl | exact kp_binds (by k_in) (fun _ => rfl) | fail "k_enter: no rule for these arguments"); (case c5 => decide); (case kB => exact locs rfl); (case c2 => exact rfl); (case c3 => exact rfl); (case c4 => exact rfl); k_whole; intro zkg' zkL' zkh' zkgk' zkFG' zkF' zkN' zkB' zkX' zkT' zkl1; (try k_lt zkl1); (try dsimp only); (try k_lift zkB'); (try k_fold))))); trivial)
theorem row109 : True := by ((k_with "call builtin:list.append" => ((k_here; (try dsimp only [List.cons_append, List.nil_append]); k_dflt (refine' append_K ?k1 ?k2 ?k3 ?_ ?z; (case k1 => k_asm); (case k2 => k_asm); (case k3 => k_upd); (case z => size_fits); k_whole); intro zkh' zkF' zkN'; (try k_sweep)))); trivial)
theorem fill_lw : (PySem.Challenge.rw_of0118_01.name = PySem.Challenge.rw_of0118_01.name) → (∀ P, KF P = KF P) := by
  k_fill
  intro _ _; rfl
noncomputable abbrev arM (v0 v1 : Option Value) (c0 c1 : Value) : Str → Option Value := fun y => if y = Str.ofString "r" then v0 else if y = Str.ofString "x" then v1 else if y = Str.ofString "arrows" then some c0 else if y = Str.ofString "draws" then some c1 else none
theorem arM_r {v0 v1 : Option Value} {u c0 c1 : Value} (y : Str) : (if y = Str.ofString "r" then some u else arM v0 v1 c0 c1 y) = arM (some u) v1 c0 c1 y := by
  by_cases h : y = Str.ofString "r"
  · subst h; simp [arM]
  · simp [arM, h]
theorem arn_1_0 : ¬ (Str.ofString "x" = Str.ofString "r") := by decide +kernel
theorem arM_x {v0 v1 : Option Value} {u c0 c1 : Value} (y : Str) : (if y = Str.ofString "x" then some u else arM v0 v1 c0 c1 y) = arM v0 (some u) c0 c1 y := by
  by_cases h : y = Str.ofString "x"
  · subst h; simp [arM, arn_1_0]
  · simp [arM, h]

noncomputable abbrev tup3 (a b c : Value) : Obj := { cls := .type "tuple", data := .seq #[a, b, c] }
theorem arM_init {c0 c1 : Value} : (fun y => if y = Str.ofString "arrows" then some c0 else List.lookup y [(Str.ofString "draws", c1)]) = arM none none c0 c1 := by
  funext y
  have z0 : ¬ (Str.ofString "arrows" = Str.ofString "r") := by decide +kernel
  have z1 : ¬ (Str.ofString "arrows" = Str.ofString "x") := by decide +kernel
  have z2 : ¬ (Str.ofString "draws" = Str.ofString "r") := by decide +kernel
  have z3 : ¬ (Str.ofString "draws" = Str.ofString "x") := by decide +kernel
  have z4 : ¬ (Str.ofString "draws" = Str.ofString "arrows") := by decide +kernel
  by_cases h0 : y = Str.ofString "arrows"
  · subst h0; simp [arM, List.lookup_cons, z0, z1, z2, z3, z4]
  · skip
    by_cases h1 : y = Str.ofString "draws"
    · subst h1; simp [arM, List.lookup_cons, z0, z1, z2, z3, z4, h0]
    · have e1 : (y == Str.ofString "draws") = false := by rw [beq_eq_false_iff_ne]; exact h1
      simp [arM, List.lookup_cons, h0, h1, e1]
theorem News.re6 {h₀ h : Heap} {L : Addr} {a b c d e f : Addr × Obj} (N : News h₀ L h [a, b, c, d, e, f]) : News h₀ L h (a :: b :: f :: [c, d, e]) := fun q hq => N q (by
  simp only [List.mem_cons, List.not_mem_nil, or_false] at hq ⊢
  rcases hq with h | h | h | h | h | h
  · exact .inl h
  · exact .inr (.inl h)
  · exact .inr (.inr (.inr (.inr (.inr h))))
  · exact .inr (.inr (.inl h))
  · exact .inr (.inr (.inr (.inl h)))
  · exact .inr (.inr (.inr (.inr (.inl h)))))
theorem eq_ar {v0 v1 : Option Value} {u1 u2 c0 c1 : Value} : (fun y => if y = Str.ofString "r" then some u2 else if y = Str.ofString "x" then some u1 else arM v0 v1 c0 c1 y) = arM (some u2) (some u1) c0 c1 := funext fun y => by rw [arM_x, arM_r]
noncomputable def arrowOf (x : Int) : Int × Int × Int := ((x.fmod 50).fmod 5, ((x.fmod 50).fdiv 5).fmod 5, (x.fmod 50).fdiv 25)
theorem News.to2 {h₀ h : Heap} {L : Addr} {a b c d : Addr × Obj} {l : List (Addr × Obj)} (N : News h₀ L h (a :: b :: c :: d :: l)) : News h₀ L h (b :: c :: d :: a :: l) := fun q hq => N q (by
  simp only [List.mem_cons] at hq ⊢
  rcases hq with h | h | h | h | h
  · exact .inr (.inl h)
  · exact .inr (.inr (.inl h))
  · exact .inr (.inr (.inr (.inl h)))
  · exact .inl h
  · exact .inr (.inr (.inr (.inr h))))
inductive IntsOf : List Int → List Value → Prop
  | nil : IntsOf [] []
  | cons {i t is vs} : IntsOf is vs → IntsOf (i :: is) (.int i t :: vs)
/-- the arrows, as the ledger bears them -/
inductive ArrAt (led : List (Addr × Obj)) : List Value → List (Int × Int × Int) → Prop
  | nil : ArrAt led [] []
  | cons {a t1 t2 t3 x y z vs as} : (a, tup3 (.int x t1) (.int y t2) (.int z t3)) ∈ led → ArrAt led vs as → ArrAt led (.ref a :: vs) ((x, y, z) :: as)
theorem ArrAt.mono {l l' : List (Addr × Obj)} (hs : ∀ q ∈ l, q ∈ l') : ∀ {vs as}, ArrAt l vs as → ArrAt l' vs as := fun h => by
  induction h with
  | nil => exact .nil
  | cons h1 _ ih => exact .cons (hs _ h1) ih
theorem ArrAt.snoc {led : List (Addr × Obj)} {a : Addr} {t1 t2 t3 : Tok} {x y z : Int} (hm : (a, tup3 (.int x t1) (.int y t2) (.int z t3)) ∈ led) : ∀ {vs as}, ArrAt led vs as → ArrAt led (vs ++ [.ref a]) (as ++ [(x, y, z)]) := fun h => by
  induction h with
  | nil => exact .cons hm .nil
  | cons h1 _ ih => exact .cons h1 ih
section
variable {w : World} {p : Program} {loose : List Str} {mean : ExcName → Option Value} {mg mb : Str → Option Value} {A₀ : Around} {dp un : Nat} {gd : Option (List Code)} {outer : List Env} {base h₀ : Heap} {L : Addr} {s : Shared}
theorem ar_turn {q1 : Stmt} {it tg : PySem.Expr} {bd rest : List Stmt} {wp0 : Pos} {A : Around} {env : Env}
    (hst : b914 = q1 :: Stmt.For tg it bd [] wp0 :: rest)
    (henv : env = envOf (Str.ofString "_law_arrows") s914 L 914 (.ref 913))
    {I ar d : Addr} {oI : Obj} {i : Nat} {its acc : Array Value} {nd nA : Nat} {tl : List (Addr × Obj)} {rv xv : Option Value} {x : Int} {tx : Tok} {Q : Flow → Shared → Prop} {E : Value → Shared → Prop} {Nx : Shared → Prop}
    (B : Below A₀ base outer h₀) (F : Fr h₀ L s.heap (arM rv xv (.ref ar) (.ref d))) (X : (KF w.params).In h₀) (T : Top p loose mean mg mb h₀)
    (N : News h₀ L s.heap ((I, oI) :: (ar, W.listOf acc nA) :: (d, W.listOf its nd) :: tl))
    (hA : A = ktrTop dp un gd (Str.ofString "_law_arrows") s914 L 914 (.ref 913) [] outer)
    (hI : IterAt oI d i) (n1 : @Ne Nat I ar) (n2 : @Ne Nat I d) (n3 : @Ne Nat d ar) (n4 : ∀ q ∈ tl, q.1 ≠ I) (n5 : ∀ q ∈ tl, q.1 ≠ ar)
    (hd : dp + 8 < recursionLimit) (hu : un + 60 < cLine) (hE : PassesOwn (model P0 w) A env E) (hac : acc.size ≤ 100)
    (hx : its[i]? = some (.int x tx))
    (hN : ∀ s', Nx s' → ForV P0 w A E env tg bd Q (.ref I) s')
    (h : ∀ h' tk' oI' D t1 t2 t3 rv' xv', Fr h₀ L h' (arM rv' xv' (.ref ar) (.ref d)) → News h₀ L h' ((I, oI') :: (ar, W.listOf (acc.push (.ref D)) (nA + 1)) :: (d, W.listOf its nd) :: (D, tup3 (.int (arrowOf x).1 t1) (.int (arrowOf x).2.1 t2) (.int (arrowOf x).2.2 t3)) :: tl) → IterAt oI' d (i + 1) → @Ne Nat D I → @Ne Nat D ar → Nx { s with heap := h', toks := tk' }) :
    ForV P0 w A E env tg bd Q (.ref I) s := by
  w_on
  cases hst
  subst henv
  subst hA
  refine for_turn hE hN F N hI (.tail _ (.head _)) ?_ hx ?_
  · intro q hq
    rcases List.mem_cons.mp hq with rfl | hq
    · exact Ne.symm n1
    · rcases List.mem_cons.mp hq with rfl | hq
      · exact Ne.symm n2
      · exact n4 q hq
  clear F N
  intro h' oI' F N hI'
  k_steps
  refine' h _ _ oI' _ _ _ _ _ _ (Fr.cong eq_ar (by assumption)) (News.to2 (by assumption)) hI' ?_ ?_
  · omega
  · omega
theorem IntsOf.at {x : Int} {xs : List Int} {v : Array Value} {i : Nat} (h : IntsOf (x :: xs) (v.toList.drop i)) : ∃ t, v[i]? = some (.int x t) ∧ IntsOf xs (v.toList.drop (i + 1)) := by
  cases hd : v.toList.drop i with
  | nil => rw [hd] at h; cases h
  | cons y ys =>
    rw [hd] at h
    cases h with
    | @cons _ t _ _ h2 =>
      refine ⟨t, ?_, ?_⟩
      · have : (v.toList.drop i)[0]? = some (.int x t) := by rw [hd]; rfl
        simpa using this
      · rw [show v.toList.drop (i + 1) = (v.toList.drop i).drop 1 by rw [List.drop_drop], hd]
        exact h2
theorem IntsOf.end {v : Array Value} {i : Nat} (h : IntsOf [] (v.toList.drop i)) : v[i]? = none := by
  cases hd : v.toList.drop i with
  | nil =>
    have := List.drop_eq_nil_iff.mp hd
    exact Array.getElem?_eq_none (by simpa using this)
  | cons y ys => rw [hd] at h; cases h
theorem ar_loop {q1 : Stmt} {it tg : PySem.Expr} {bd rest : List Stmt} {wp0 : Pos} {A : Around} {env : Env}
    (hst : b914 = q1 :: Stmt.For tg it bd [] wp0 :: rest)
    (henv : env = envOf (Str.ofString "_law_arrows") s914 L 914 (.ref 913))
    {I ar d : Addr} {its : Array Value} {nd : Nat} {Q : Flow → Shared → Prop} {E : Value → Shared → Prop}
    (B : Below A₀ base outer h₀) (X : (KF w.params).In h₀) (T : Top p loose mean mg mb h₀)
    (hA : A = ktrTop dp un gd (Str.ofString "_law_arrows") s914 L 914 (.ref 913) [] outer)
    (n1 : @Ne Nat I ar) (n2 : @Ne Nat I d) (n3 : @Ne Nat d ar)
    (hd : dp + 8 < recursionLimit) (hu : un + 60 < cLine) (hE : PassesOwn (model P0 w) A env E) {s₀ : Shared} {done : List (Int × Int × Int)} {xs : List Int} :
    ∀ (h : Heap) (k : Nat) {oI : Obj} {i : Nat} {acc : Array Value} {nA : Nat} {tl : List (Addr × Obj)} {rv xv : Option Value} {done : List (Int × Int × Int)},
    Fr h₀ L h (arM rv xv (.ref ar) (.ref d)) → News h₀ L h ((I, oI) :: (ar, W.listOf acc nA) :: (d, W.listOf its nd) :: tl) → IterAt oI d i → (∀ q ∈ tl, q.1 ≠ I) → (∀ q ∈ tl, q.1 ≠ ar) → acc.size + xs.length ≤ 100 → IntsOf xs (its.toList.drop i) → ArrAt tl acc.toList done →
    (∀ h' tk' nA' acc' tl' rv' xv', Fr h₀ L h' (arM rv' xv' (.ref ar) (.ref d)) → News h₀ L h' ((ar, W.listOf acc' nA') :: (d, W.listOf its nd) :: tl') → (∀ q ∈ tl', q.1 ≠ ar) → ArrAt tl' acc'.toList (done ++ xs.map arrowOf) → acc'.size = acc.size + xs.length → Q .next { s₀ with heap := h', toks := tk' }) →
    ForV P0 w A E env tg bd Q (.ref I) { s₀ with heap := h, toks := k } := by
  induction xs with
  | nil =>
    intro h k oI i acc nA tl rv xv done F N hI f1 f2 hz hi ha hQ
    refine for_end (s := { s₀ with heap := h, toks := k }) hE (by subst hA; rfl) F N hI (.tail _ (.head _)) ?_ hi.end fun h' F' N' => hQ h' k nA acc tl rv xv F' N' f2 (by simpa using ha) (by simp)
    intro q hq
    rcases List.mem_cons.mp hq with rfl | hq
    · exact Ne.symm n1
    · rcases List.mem_cons.mp hq with rfl | hq
      · exact Ne.symm n2
      · exact f1 q hq
  | cons x xs ih =>
    intro h k oI i acc nA tl rv xv done F N hI f1 f2 hz hi ha hQ
    obtain ⟨tx, hx, hi'⟩ := hi.at
    simp only [List.length_cons] at hz
    refine ar_turn (s := { s₀ with heap := h, toks := k }) (Nx := fun s' => ForV P0 w A E env tg bd Q (.ref I) s') hst henv B F X T N hA hI n1 n2 n3 f1 f2 hd hu hE (by omega) hx (fun _ q => q) ?_
    intro h' tk' oI' D t1 t2 t3 rv' xv' F' N' hI' n6 n7
    refine ih h' tk' F' N' hI' ?_ ?_ (by rw [Array.size_push]; omega) hi' (done := done ++ [arrowOf x]) ?_ ?_
    · intro q hq
      rcases List.mem_cons.mp hq with rfl | hq
      · exact n6
      · exact f1 q hq
    · intro q hq
      rcases List.mem_cons.mp hq with rfl | hq
      · exact n7
      · exact f2 q hq
    · rw [Array.toList_push]
      exact ArrAt.snoc (.head _) (ha.mono fun q hq => .tail _ hq)
    · intro h2 tk2 nA2 acc2 tl2 rv2 xv2 F2 N2 g1 g2 g3
      exact hQ h2 tk2 nA2 acc2 tl2 rv2 xv2 F2 N2 g1 (by simpa using g2) (by rw [g3, Array.size_push, List.length_cons]; omega)
end
section
variable {w : World} {p : Program} {loose : List Str} {mean : ExcName → Option Value} {mg mb : Str → Option Value} {A₀ : Around} {dp un : Nat} {gd : Option (List Code)} {cn : Str} {cs : Scope} {ca : Addr} {ccd : Value} {cl : List (Str × Addr)} {outer : List Env} {base h₀ : Heap} {L : Addr} {m : Str → Option Value} {s : Shared} {news : List (Addr × Obj)} {R : Result → Shared → Prop}
theorem row110 : True := by ((k_with "exec For Name Name cons nil" => ((k_here; k_dflt (refine for_begin ?_)))); trivial)
theorem row111 : True := by ((k_with "exec For" => ((k_here; k_dflt (refine for_begin ?_)))); trivial)
theorem row112 : True := by ((k_with "pyIter ref" => ((k_here; (with_reducible show wpAny _ _ (pyIter (Value.ref _)) (fun it s₂ => ForV _ _ _ _ _ _ _ _ it s₂) _ _); k_dflt (refine' for_iter ?F ?N ?l ?_; (case F => k_asm); (case N => k_asm); (case l => k_mem)); intro zkI' zkoI' zkh' zkF' zkN' zkhI' zkl1; k_lt zkl1; (try k_sweep)))); trivial)
theorem arrows_c {d : Addr} {its : Array Value} {nd : Nat} {xs : List Int}
    (B : Below A₀ base outer h₀) (F : Fr h₀ L s.heap m) (X : (KF w.params).In h₀) (N : News h₀ L s.heap news) (T : Top p loose mean mg mb h₀) (hke : cs.kind = .function)
    (hd' : (d, W.listOf its nd) ∈ news) (hi : IntsOf xs its.toList) (hl : xs.length ≤ 50)
    (hd : dp + 12 < recursionLimit) (hu : un + 80 < cLine)
    (hret : ∀ h' tk' ar acc nA tl, Fr h₀ L h' m → News h₀ L h' ((ar, W.listOf acc nA) :: (tl ++ news)) → ArrAt tl acc.toList ([(0, 2, 0), (1, 0, 1), (2, 3, 0)] ++ xs.map arrowOf) → acc.size = 3 + xs.length → R (.ok (.ret (.ref ar))) { s with heap := h', toks := tk' }) :
    codeAny (model P0 w) (ktrTop dp un gd cn cs L ca ccd cl outer) (.call (.ref 914) ⟨[.ref d], []⟩) R s := by
  w_on
  have Nm : News h₀ L s.heap [(d, W.listOf its nd)] := fun q hq => by
    rw [List.mem_singleton] at hq
    subst hq
    exact N _ hd'
  have fin : ∀ h' tk' ar acc nA tl, Fr h₀ L h' m → News h₀ L h' ((ar, W.listOf acc nA) :: (d, W.listOf its nd) :: tl) → ArrAt tl acc.toList ([(0, 2, 0), (1, 0, 1), (2, 3, 0)] ++ xs.map arrowOf) → acc.size = 3 + xs.length →
      (∀ b o, s.heap.get? b = some o → (∀ q ∈ [(d, W.listOf its nd)], q.1 ≠ b) → h'.get? b = some o) → R (.ok (.ret (.ref ar))) { s with heap := h', toks := tk' } := by
    intro h' tk' ar acc nA tl kF kN ha hz kk
    refine hret h' tk' ar acc nA tl kF (fun q hq => ?_) ha hz
    rcases List.mem_cons.mp hq with rfl | hq
    · exact kN _ (.head _)
    · rcases List.mem_append.mp hq with hq | hq
      · exact kN _ (.tail _ (.tail _ hq))
      · refine ⟨?_, (N q hq).2⟩
        by_cases e : q.1 = d
        · have z := (N _ hd').1
          rw [← e, (N q hq).1] at z
          rw [Option.some.inj z, e]
          exact (kN _ (.tail _ (.head _))).1
        · exact kk _ _ (N q hq).1 fun r hr => by rw [List.mem_singleton] at hr; subst hr; exact Ne.symm e
  walk_at "MINE enter"
  k_steps
  refine' ar_loop (tl := [_, _, _]) (done := [(0, 2, 0), (1, 0, 1), (2, 3, 0)]) rfl rfl ?wB ?wX ?wT rfl ?n1 ?n2 ?n3 ?hd ?hu ?hE _ _ (Fr.cong arM_init ?wF) (News.re6 ?wN) ?wI ?f1 ?f2 ?z ?i (.cons (.tail _ (.tail _ (.head _))) (.cons (.tail _ (.head _)) (.cons (.head _) .nil))) ?_
  case wF => assumption
  case wN => assumption
  case wB => assumption
  case wX => assumption
  case wT => assumption
  case wI => assumption
  case n1 => k_ne
  case n2 => k_ne
  case n3 => k_ne
  case hd => ktr_room
  case hu => ktr_units
  case hE => first | passes_own | with_unfolding_all passes_own
  case f1 =>
    intro q hq
    simp only [List.mem_cons, List.not_mem_nil, or_false] at hq
    rcases hq with rfl | rfl | rfl <;> k_ne
  case f2 =>
    intro q hq
    simp only [List.mem_cons, List.not_mem_nil, or_false] at hq
    rcases hq with rfl | rfl | rfl <;> k_ne
  case z => show 3 + xs.length ≤ 100; omega
  case i => exact hi
  intro h9 tk9 nA9 acc9 tl9 rv9 xv9 F9 N9 g1 g2 g3
  k_steps
  exact fin _ _ _ _ _ _ (by assumption) (by assumption) g2 g3 (keep_thru (by assumption) (by assumption))
end

end
section -- LawTa
theorem row113 : True := by (k_with_none; trivial)
theorem fill_lt : (PySem.Challenge.rw_of0118_01.name = PySem.Challenge.rw_of0118_01.name) → (∀ P, KF P = KF P) := by
  k_fill
  intro _ _; rfl
noncomputable abbrev tbM (v0 v1 v2 v3 v4 v5 : Option Value) (c0 c1 c2 : Value) : Str → Option Value := fun y => if y = Str.ofString "k" then v0 else if y = Str.ofString "tail" then v1 else if y = Str.ofString "head" then v2 else if y = Str.ofString "loud" then v3 else if y = Str.ofString "name" then v4 else if y = Str.ofString "word" then v5 else if y = Str.ofString "table" then some c0 else if y = Str.ofString "places" then some c1 else if y = Str.ofString "arrows" then some c2 else none
theorem tbM_k {v0 v1 v2 v3 v4 v5 : Option Value} {u c0 c1 c2 : Value} (y : Str) : (if y = Str.ofString "k" then some u else tbM v0 v1 v2 v3 v4 v5 c0 c1 c2 y) = tbM (some u) v1 v2 v3 v4 v5 c0 c1 c2 y := by
  by_cases h : y = Str.ofString "k"
  · subst h; simp [tbM]
  · simp [tbM, h]
theorem tbn_1_0 : ¬ (Str.ofString "tail" = Str.ofString "k") := by decide +kernel
theorem tbM_tail {v0 v1 v2 v3 v4 v5 : Option Value} {u c0 c1 c2 : Value} (y : Str) : (if y = Str.ofString "tail" then some u else tbM v0 v1 v2 v3 v4 v5 c0 c1 c2 y) = tbM v0 (some u) v2 v3 v4 v5 c0 c1 c2 y := by
  by_cases h : y = Str.ofString "tail"
  · subst h; simp [tbM, tbn_1_0]
  · simp [tbM, h]
theorem tbn_2_0 : ¬ (Str.ofString "head" = Str.ofString "k") := by decide +kernel
theorem tbn_2_1 : ¬ (Str.ofString "head" = Str.ofString "tail") := by decide +kernel
theorem tbM_head {v0 v1 v2 v3 v4 v5 : Option Value} {u c0 c1 c2 : Value} (y : Str) : (if y = Str.ofString "head" then some u else tbM v0 v1 v2 v3 v4 v5 c0 c1 c2 y) = tbM v0 v1 (some u) v3 v4 v5 c0 c1 c2 y := by
  by_cases h : y = Str.ofString "head"
  · subst h; simp [tbM, tbn_2_0, tbn_2_1]
  · simp [tbM, h]
theorem tbn_3_0 : ¬ (Str.ofString "loud" = Str.ofString "k") := by decide +kernel
theorem tbn_3_1 : ¬ (Str.ofString "loud" = Str.ofString "tail") := by decide +kernel
theorem tbn_3_2 : ¬ (Str.ofString "loud" = Str.ofString "head") := by decide +kernel
theorem tbM_loud {v0 v1 v2 v3 v4 v5 : Option Value} {u c0 c1 c2 : Value} (y : Str) : (if y = Str.ofString "loud" then some u else tbM v0 v1 v2 v3 v4 v5 c0 c1 c2 y) = tbM v0 v1 v2 (some u) v4 v5 c0 c1 c2 y := by
  by_cases h : y = Str.ofString "loud"
  · subst h; simp [tbM, tbn_3_0, tbn_3_1, tbn_3_2]
  · simp [tbM, h]
theorem tbn_4_0 : ¬ (Str.ofString "name" = Str.ofString "k") := by decide +kernel
theorem tbn_4_1 : ¬ (Str.ofString "name" = Str.ofString "tail") := by decide +kernel
theorem tbn_4_2 : ¬ (Str.ofString "name" = Str.ofString "head") := by decide +kernel
theorem tbn_4_3 : ¬ (Str.ofString "name" = Str.ofString "loud") := by decide +kernel
theorem tbM_name {v0 v1 v2 v3 v4 v5 : Option Value} {u c0 c1 c2 : Value} (y : Str) : (if y = Str.ofString "name" then some u else tbM v0 v1 v2 v3 v4 v5 c0 c1 c2 y) = tbM v0 v1 v2 v3 (some u) v5 c0 c1 c2 y := by
  by_cases h : y = Str.ofString "name"
  · subst h; simp [tbM, tbn_4_0, tbn_4_1, tbn_4_2, tbn_4_3]
  · simp [tbM, h]
theorem tbn_5_0 : ¬ (Str.ofString "word" = Str.ofString "k") := by decide +kernel
theorem tbn_5_1 : ¬ (Str.ofString "word" = Str.ofString "tail") := by decide +kernel
theorem tbn_5_2 : ¬ (Str.ofString "word" = Str.ofString "head") := by decide +kernel
theorem tbn_5_3 : ¬ (Str.ofString "word" = Str.ofString "loud") := by decide +kernel
theorem tbn_5_4 : ¬ (Str.ofString "word" = Str.ofString "name") := by decide +kernel
theorem tbM_word {v0 v1 v2 v3 v4 v5 : Option Value} {u c0 c1 c2 : Value} (y : Str) : (if y = Str.ofString "word" then some u else tbM v0 v1 v2 v3 v4 v5 c0 c1 c2 y) = tbM v0 v1 v2 v3 v4 (some u) c0 c1 c2 y := by
  by_cases h : y = Str.ofString "word"
  · subst h; simp [tbM, tbn_5_0, tbn_5_1, tbn_5_2, tbn_5_3, tbn_5_4]
  · simp [tbM, h]

theorem News.swap12 {h₀ h : Heap} {L : Addr} {a b : Addr × Obj} {l : List (Addr × Obj)} (N : News h₀ L h (a :: b :: l)) : News h₀ L h (b :: a :: l) := fun q hq => N q (by
  rcases List.mem_cons.mp hq with rfl | hq
  · exact .tail _ (.head _)
  · rcases List.mem_cons.mp hq with rfl | hq
    · exact .head _
    · exact .tail _ (.tail _ hq))
theorem row114 : True := by ((k_with "ite" => ((k_dflt (first | (refine W.ite_pos (by with_reducible assumption) ?_) | (refine W.ite_neg (by with_reducible assumption) ?_) | (refine W.ite_neg (nf_of (by with_reducible assumption)) ?_))))); trivial)
theorem row115 : True := by ((k_with "ite" => ((k_closed; k_dflt (first | refine W.ite_pos (by decide +kernel) ?_ | refine W.ite_neg (by decide +kernel) ?_)))); trivial)
theorem row116 : True := by ((k_with "subscriptTail" => ((k_here; (with_reducible show wpAny _ _ (subscriptTail _ _ (Value.ref _) (Value.int _ _)) _ _ _); k_dflt (refine' itemS ?N ?l ?h0 ?hi ?x ?_; (case N => k_asm); (case l => k_mem); (case h0 => omega); (case hi => omega); (case x => with_reducible assumption); k_whole)))); trivial)
theorem row117 : True := by ((k_with "call ref" => ((k_here; (k_dflt show wpAny _ _ (call (Value.ref 907) [Value.str _ _]) _ _ _); k_dflt (refine wpAny_call ?_; refine' quote_c ?q ?r1 ?r2 ?r3 ?r4 ?r5 ?r6 ?r7 ?_; (case q => assumption); (case r1 => k_asm); (case r2 => k_asm); (case r3 => k_asm); (case r4 => k_asm); (case r5 => exact rfl); (case r6 => ktr_room); (case r7 => ktr_units); k_whole); intro zkh' zktk' zkt' zkF' zkhk'; (have zkN' := News.stay (by assumption) zkhk'); (try dsimp only); (try k_sweep)))); trivial)
theorem row118 : True := by ((k_with "call ref" => ((k_here; (k_dflt show wpAny _ _ (call (Value.ref 185) [Value.ref _, Value.str _ _, Value.str _ _]) _ _ _); k_dflt (refine wpAny_call ?_; refine' add_header_h ?r1 ?r2 ?r3 ?r4 ?r5 ?r6 ?r7 ?r8 ?r9 ?r10 ?r11 ?r12 ?r13 ?r14 ?r15 ?r16 ?r17 ?_; (case r1 => k_asm); (case r2 => k_asm); (case r3 => k_asm); (case r4 => assumption); (case r5 => k_asm); (case r6 => exact rfl); (case r7 => k_mem); (case r8 => k_mem); (case r9 => assumption); (case r10 => assumption); (case r11 => ktr_room); (case r12 => ktr_units); (case r13 => assumption); (case r14 => assumption); (case r15 => assumption); (case r16 => assumption); (case r17 => assumption); k_whole); intro zkh' zktk' zkits' zkn' zkD' zkt1' zkt2' zkF' zkN' zkhz' zkhr' zkne1' zkne2'; (try dsimp only at zkN'); (try k_sweep)))); trivial)
theorem RowsAt.drop {led : List (Addr × Obj)} {q : Addr × Obj} (hq : (q.2.cls == Value.type "tuple") = false) : ∀ {vs rows}, RowsAt (q :: led) vs rows → RowsAt led vs rows := fun h => by
  induction h with
  | nil => exact .nil
  | cons h1 h2 _ ih =>
    rcases List.mem_cons.mp h1 with e | h1
    · rw [← e] at hq; exact absurd (show (Value.type "tuple" == Value.type "tuple") = false from hq) (by decide)
    · exact .cons h1 h2 ih
theorem sub_cons {α : Type} {a : α} {l m : List α} (ha : a ∈ m) (h : ∀ q ∈ l, q ∈ m) : ∀ q ∈ a :: l, q ∈ m := fun q hq => (List.mem_cons.mp hq).elim (fun e => e ▸ ha) (h q)
-- StrsOf.app: SldB
theorem StrsOf.vals : ∀ {ws : List Str} {vs : List Value}, StrsOf ws vs → ∃ l : List (Str × Tok), vs = strValues l ∧ l.map (·.1) = ws
  | _, _, .nil => ⟨[], rfl, rfl⟩
  | _, _, .cons ⟨t, e⟩ h => by
    obtain ⟨l, e1, e2⟩ := StrsOf.vals h
    subst e e1 e2
    exact ⟨(_, t) :: l, rfl, rfl⟩
section
variable {w : World} {A : Around} {E : Value → Shared → Prop} {s : Shared} {h₀ : Heap} {L : Addr} {m : Str → Option Value} {news : List (Addr × Obj)} {Q : Value → Shared → Prop}
theorem addLL {a b : Addr} {x y : Array Value} {n1 n2 : Nat} (F : Fr h₀ L s.heap m) (N : News h₀ L s.heap news) (ha : (a, W.listOf x n1) ∈ news) (hb : (b, W.listOf y n2) ∈ news) (hz : x.size + y.size ≤ 2000)
    (h : ∀ D h', Fr h₀ L h' m → News h₀ L h' ((D, W.listOf (x ++ y) 0) :: news) → (∀ p ∈ news, p.1 < D) → Q (.ref D) { s with heap := h' }) : wpAny (model P0 w) A (binaryOp .Add (.ref a) (.ref b)) Q E s := by
  have e : (x.toList ++ y.toList).toArray = x ++ y := by apply Array.toList_inj.mp; simp
  have z : 2000 ≤ sizeLine := by decide
  exact add_arrays F N (PySem.IsL.isList (n := n1) (N _ ha).1) (PySem.IsL.isList (n := n2) (N _ hb).1) (fun h' F' N' => h _ h' F' (e ▸ N') fun p hp => Heap.lt_size (N p hp).1) (by omega)
end
theorem News.lt11 {h₀ h : Heap} {L : Addr} {a b s1 s2 s3 c d e f g i : Addr × Obj} {l : List (Addr × Obj)} (N : News h₀ L h (a :: b :: s1 :: s2 :: s3 :: c :: d :: e :: f :: g :: i :: l)) : News h₀ L h (c :: a :: d :: e :: f :: g :: b :: l) := News.consN (N _ (.tail _ (.tail _ (.tail _ (.tail _ (.tail _ (.head _))))))) (News.consN (N _ (.head _)) (News.consN (N _ (.tail _ (.tail _ (.tail _ (.tail _ (.tail _ (.tail _ (.head _)))))))) (News.consN (N _ (.tail _ (.tail _ (.tail _ (.tail _ (.tail _ (.tail _ (.tail _ (.head _))))))))) (News.consN (N _ (.tail _ (.tail _ (.tail _ (.tail _ (.tail _ (.tail _ (.tail _ (.tail _ (.head _)))))))))) (News.consN (N _ (.tail _ (.tail _ (.tail _ (.tail _ (.tail _ (.tail _ (.tail _ (.tail _ (.tail _ (.head _))))))))))) (News.consN (N _ (.tail _ (.head _))) (fun q hq => N q (.tail _ (.tail _ (.tail _ (.tail _ (.tail _ (.tail _ (.tail _ (.tail _ (.tail _ (.tail _ (.tail _ hq))))))))))))))))))
theorem RowsAt.drop4 {led : List (Addr × Obj)} {a s1 s2 s3 b c d e f g : Addr × Obj} {vs : List Value} {rows : List (Str × Str)} (h : RowsAt (a :: s1 :: s2 :: s3 :: b :: c :: d :: e :: f :: g :: led) vs rows) (h1 : (s1.2.cls == Value.type "tuple") = false) (h2 : (s2.2.cls == Value.type "tuple") = false) (h3 : (s3.2.cls == Value.type "tuple") = false) (hb : (b.2.cls == Value.type "tuple") = false) (hc : (c.2.cls == Value.type "tuple") = false) (hd : (d.2.cls == Value.type "tuple") = false) (he : (e.2.cls == Value.type "tuple") = false) (hf : (f.2.cls == Value.type "tuple") = false) (hg : g ∈ led) : RowsAt (a :: led) vs rows := by
  have z : RowsAt (s1 :: s2 :: s3 :: b :: c :: d :: e :: f :: a :: led) vs rows := h.mono (sub_cons (.tail _ (.tail _ (.tail _ (.tail _ (.tail _ (.tail _ (.tail _ (.tail _ (.head _))))))))) (sub_cons (.head _) (sub_cons (.tail _ (.head _)) (sub_cons (.tail _ (.tail _ (.head _))) (sub_cons (.tail _ (.tail _ (.tail _ (.head _)))) (sub_cons (.tail _ (.tail _ (.tail _ (.tail _ (.head _))))) (sub_cons (.tail _ (.tail _ (.tail _ (.tail _ (.tail _ (.head _)))))) (sub_cons (.tail _ (.tail _ (.tail _ (.tail _ (.tail _ (.tail _ (.head _))))))) (sub_cons (.tail _ (.tail _ (.tail _ (.tail _ (.tail _ (.tail _ (.tail _ (.head _)))))))) (sub_cons (.tail _ (.tail _ (.tail _ (.tail _ (.tail _ (.tail _ (.tail _ (.tail _ (.tail _ hg))))))))) (fun q hq => .tail _ (.tail _ (.tail _ (.tail _ (.tail _ (.tail _ (.tail _ (.tail _ (.tail _ hq)))))))))))))))))))
  exact (((((((z.drop h1).drop h2).drop h3).drop hb).drop hc).drop hd).drop he).drop hf
theorem StrsOf.len : ∀ {ws : List Str} {vs : List Value}, StrsOf ws vs → vs.length = ws.length := fun h => by
  induction h with
  | nil => rfl
  | cons _ _ ih => exact congrArg (· + 1) ih
theorem szLL {ws : List Str} {ys : List Value} {v : Value} (h : StrsOf ws ys) (hl : ws.length ≤ 900) : ys.toArray.size + (#[v] : Array Value).size ≤ 2000 := by
  have := h.len
  simp
  omega
theorem joinK {w : World} {A : Around} {E : Value → Shared → Prop} {s : Shared} {h₀ : Heap} {L : Addr} {news : List (Addr × Obj)} {Q : Value → Shared → Prop} {D : Addr} {its : Array Value} {n : Nat} {sep : Str} {t : Tok} {ws : List Str} (N : News h₀ L s.heap news) (hD : (D, W.listOf its n) ∈ news) (hs : StrsOf ws its.toList) (hok : JoinOk sep ws = true)
    (h : ∀ t' k, Q (.str (Txt.join sep ws) t') { s with toks := k }) : wpAny (model P0 w) A (call (.builtin "str.join") [.str sep t, .ref D]) Q E s := by
  obtain ⟨l, e1, e2⟩ := hs.vals
  have IL : s.heap.IsList D its := PySem.IsL.isList (n := n) (N _ hD).1
  have e : its = (strValues l).toArray := Array.toList_inj.mp (by rw [e1])
  exact SC.join (e ▸ IL) e2 hok h
theorem News.fr3 {h₀ h : Heap} {L : Addr} {a b c d : Addr × Obj} {l : List (Addr × Obj)} (N : News h₀ L h (a :: b :: c :: d :: l)) : News h₀ L h (d :: a :: b :: c :: l) := fun q hq => N q (by
  simp only [List.mem_cons] at hq ⊢
  rcases hq with h | h | h | h | h <;> simp [h])
theorem ne3 {d : Addr} {a b c : Addr × Obj} {l : List (Addr × Obj)} (h1 : a.1 ≠ d) (h2 : b.1 ≠ d) (h3 : c.1 ≠ d) (h : ∀ q ∈ l, q.1 ≠ d) : ∀ q ∈ (a :: b :: c :: l), q.1 ≠ d := fun q hq => by
  simp only [List.mem_cons] at hq
  rcases hq with e | e | e | e
  · rw [e]; exact h1
  · rw [e]; exact h2
  · rw [e]; exact h3
  · exact h q e
theorem eq_tb {v0 v1 v2 v3 v4 v5 : Option Value} {u0 u1 u2 u3 u4 u5 c0 c1 c2 : Value} : (fun y => if y = Str.ofString "word" then some u5 else if y = Str.ofString "name" then some u4 else if y = Str.ofString "loud" then some u3 else if y = Str.ofString "head" then some u2 else if y = Str.ofString "tail" then some u1 else if y = Str.ofString "k" then some u0 else tbM v0 v1 v2 v3 v4 v5 c0 c1 c2 y) = tbM (some u0) (some u1) (some u2) (some u3) (some u4) (some u5) c0 c1 c2 := funext fun y => by rw [tbM_k, tbM_tail, tbM_head, tbM_loud, tbM_name, tbM_word]
theorem News.lt8 {h₀ h : Heap} {L : Addr} {a b c d e f g i : Addr × Obj} {l : List (Addr × Obj)} (N : News h₀ L h (a :: b :: c :: d :: e :: f :: g :: i :: l)) : News h₀ L h (c :: a :: d :: e :: f :: g :: b :: l) := fun q hq => N q (by
  simp only [List.mem_cons] at hq ⊢
  rcases hq with h | h | h | h | h | h | h | h <;> simp [h])
theorem RowsAt.drop1 {led : List (Addr × Obj)} {a b c d e f g : Addr × Obj} {vs : List Value} {rows : List (Str × Str)} (h : RowsAt (a :: b :: c :: d :: e :: f :: g :: led) vs rows) (hb : (b.2.cls == Value.type "tuple") = false) (hc : (c.2.cls == Value.type "tuple") = false) (hd : (d.2.cls == Value.type "tuple") = false) (he : (e.2.cls == Value.type "tuple") = false) (hf : (f.2.cls == Value.type "tuple") = false) (hg : g ∈ led) : RowsAt (a :: led) vs rows := by
  have h1 : RowsAt (b :: c :: d :: e :: f :: a :: led) vs rows := h.mono (sub_cons (.tail _ (.tail _ (.tail _ (.tail _ (.tail _ (.head _)))))) (sub_cons (.head _) (sub_cons (.tail _ (.head _)) (sub_cons (.tail _ (.tail _ (.head _))) (sub_cons (.tail _ (.tail _ (.tail _ (.head _)))) (sub_cons (.tail _ (.tail _ (.tail _ (.tail _ (.head _))))) (sub_cons (.tail _ (.tail _ (.tail _ (.tail _ (.tail _ (.tail _ hg)))))) (fun q hq => .tail _ (.tail _ (.tail _ (.tail _ (.tail _ (.tail _ hq)))))))))))))
  exact ((((h1.drop hb).drop hc).drop hd).drop he).drop hf
theorem row119 : True := by ((k_with "call ref" => ((k_here; (k_dflt show wpAny _ _ (call (Value.ref 127) [Value.ref _, Value.str _ _]) _ _ _); k_dflt (refine wpAny_call ?_; refine' get_all_c ?r1 ?r2 ?r3 ?r4 ?r5 ?r6 ?r7 ?r8 ?r9 ?r10 ?r11 ?r12 ?r13 ?r14 ?r15 ?r16 ?_; (case r1 => k_asm); (case r2 => k_asm); (case r3 => k_asm); (case r4 => assumption); (case r5 => k_asm); (case r6 => exact rfl); (case r7 => k_mem); (case r8 => k_mem); (case r9 => k_mem); (case r10 => assumption); (case r11 => ktr_room); (case r12 => ktr_units); (case r13 => assumption); (case r14 => assumption); (case r15 => assumption); (case r16 => assumption); k_whole); intro zkh' zktk' zkD' zkys' zkF' zkN' zkhs' zkne'; (have zkne1' := neN (Ne.symm (zkne' _ (List.Mem.head _)))); (try dsimp only at zkN'); (try k_sweep)))); trivial)
theorem row120 : True := by ((k_with "binaryOp Add ref ref" => ((k_here; k_dflt (refine' addLL ?F ?N ?a ?b ?z ?_; (case F => k_asm); (case N => assumption); (case a => k_mem); (case b => k_mem); (case z => exact szLL (by assumption) (by assumption)); k_whole); intro zkD' zkh' zkF' zkN' zkl1; (try k_lt zkl1); (try k_sweep)))); trivial)
theorem row121 : True := by ((k_with "call builtin:str.join" => ((k_here; (try dsimp only [List.cons_append, List.nil_append]); k_dflt (refine' joinK ?N ?d ?s ?o ?_; (case N => assumption); (case d => k_mem); (case s => (rw [Array.toList_append]; exact StrsOf.app (by assumption) (StrsOf.cons ⟨_, rfl⟩ StrsOf.nil))); (case o => assumption); k_whole); intro zkt' zkk'))); trivial)
theorem row122 : True := by ((k_with "call ref" => ((k_here; (k_dflt show wpAny _ _ (call (Value.ref 103) [Value.ref _, Value.str _ _, Value.str _ _]) _ _ _); k_dflt (refine wpAny_call ?_; refine' setitem_c ?r1 ?r2 ?r3 ?r4 ?r5 ?r6 ?r7 ?r8 ?r9 ?r10 ?r11 ?r12 ?r13 ?r14 ?r15 ?r16 ?r17 ?r18 ?r19 ?r20 ?_; (case r1 => k_asm); (case r2 => k_asm); (case r3 => k_asm); (case r4 => exact News.fr3 (by assumption)); (case r5 => k_asm); (case r6 => exact rfl); (case r7 => k_mem); (case r8 => k_mem); (case r9 => exact RowsAt.mono (fun q hq => .tail _ (.tail _ (.tail _ hq))) (by assumption)); (case r10 => exact ne3 (by k_ne) (by k_ne) (by k_ne) (by assumption)); (case r11 => ktr_room); (case r12 => ktr_units); (case r13 => assumption); (case r14 => assumption); (case r15 => assumption); (case r16 => assumption); (case r17 => assumption); (case r18 => assumption); (case r19 => assumption); (case r20 => assumption); k_whole); intro zkh' zktk' zkits' zkn' zkD' zkt1' zkt2' zkF' zkN' zkhz' zkhr' zkne1' zkne2'; (try dsimp only at zkN'); (try k_sweep)))); trivial)
section
variable {w : World} {p : Program} {loose : List Str} {mean : ExcName → Option Value} {mg mb : Str → Option Value} {A₀ : Around} {dp un : Nat} {gd : Option (List Code)} {outer : List Env} {base h₀ : Heap} {L : Addr} {s : Shared}
theorem tb_e0 {q1 : Stmt} {it : PySem.Expr} {nm0 : Str} {np0 : Pos} {bd rest : List Stmt} {wp0 : Pos} {A : Around} {env : Env}
    (hst : b921 = q1 :: Stmt.For (.Name nm0 np0) it bd [] wp0 :: rest)
    (henv : env = envOf (Str.ofString "_law_table") s921 L 921 (.ref 920))
    {I x dx l pl ar a : Addr} {k left t h : Int} {its acc plv : Array Value} {n nA np : Nat} {th t1 t2 t3 tt tw : Tok} {tl : List (Addr × Obj)} {v0 v1 v2 v3 v4 v5 : Option Value} {Q : Flow → Shared → Prop} {E : Value → Shared → Prop} {Nx : Shared → Prop} {pt ph qw : Str} {rows : List (Str × Str)}
    (B : Below A₀ base outer h₀) (F : Fr h₀ L s.heap (tbM v0 v1 v2 v3 v4 v5 (.ref x) (.ref pl) (.ref ar))) (X : (KF w.params).In h₀) (T : Top p loose mean mg mb h₀)
    (N : News h₀ L s.heap ((I, rgO k left 1) :: (l, W.listOf its n) :: (x, instObj 188 dx) :: (dx, hdD w.params th l) :: (pl, W.listOf plv np) :: (ar, W.listOf acc nA) :: tl))
    (hA : A = ktrTop dp un gd (Str.ofString "_law_table") s921 L 921 (.ref 920) [] outer)
    (hne : ∀ q ∈ ((x, instObj 188 dx) :: (dx, hdD w.params th l) :: (pl, W.listOf plv np) :: (ar, W.listOf acc nA) :: tl), q.1 ≠ l) (hnI : ∀ q ∈ ((l, W.listOf its n) :: (x, instObj 188 dx) :: (dx, hdD w.params th l) :: (pl, W.listOf plv np) :: (ar, W.listOf acc nA) :: tl), q.1 ≠ I)
    (ham : (a, tup3 (.int t t1) (.int h t2) (.int 0 t3)) ∈ tl) (hr : RowsAt tl its.toList rows)
    (hd : dp + 20 < recursionLimit) (hu : un + 120 < cLine) (hE : PassesOwn (model P0 w) A env E) (hsz : its.size ≤ 900)
    (hk0 : 0 ≤ k) (hk1 : k < 100) (hl : 0 < left) (ht0 : 0 ≤ t) (ht1 : t < 5) (hh0 : 0 ≤ h) (hh1 : h < 5)
    (ha : acc[k.toNat]? = some (.ref a)) (hpt : plv[t.toNat]? = some (.str pt tt)) (hph : plv[h.toNat]? = some (.str ph tw))
    (hpar : k.fmod 2 = 0) (hptl : pt.length < 30) (hptl2 : pt.length < 100) (hptl3 : pt.length < 1000) (hphl : ph.length < 30) (hpto : okT pt) (hq : QuoteIs (Txt.upper ph) qw) (hqo : okT qw) (hql : qw.length < 1000)
    (hN : ∀ s', Nx s' → ForV P0 w A E env (.Name nm0 np0) bd Q (.ref I) s')
    (hz : ∀ h' tk' its' n' D t1' t2' u0 u1 u2 u3 u4 u5, Fr h₀ L h' (tbM u0 u1 u2 u3 u4 u5 (.ref x) (.ref pl) (.ref ar)) → News h₀ L h' ((I, rgO (k + 1) (left - 1) 1) :: (l, W.listOf its' n') :: (x, instObj 188 dx) :: (dx, hdD w.params th l) :: (pl, W.listOf plv np) :: (ar, W.listOf acc nA) :: (D, tupO (.str pt t1') (.str qw t2') 0) :: tl) → its'.size ≤ its.size + 1 →
      RowsAt ((D, tupO (.str pt t1') (.str qw t2') 0) :: tl) its'.toList (rows ++ [(pt, qw)]) → @Ne Nat D l → @Ne Nat D I → Nx { s with heap := h', toks := tk' }) :
    ForV P0 w A E env (.Name nm0 np0) bd Q (.ref I) s := by
  w_on
  cases hst
  subst henv
  subst hA
  refine for_turnR hE hN F N hnI hl ?_
  clear F N
  intro h' F N
  replace N : News h₀ L h' ((l, W.listOf its n) :: (I, rgO (k + 1) (left - 1) 1) :: (x, instObj 188 dx) :: (dx, hdD w.params th l) :: (pl, W.listOf plv np) :: (ar, W.listOf acc nA) :: (a, tup3 (.int t t1) (.int h t2) (.int 0 t3)) :: tl) := fun q hq => by
    simp only [List.mem_cons] at hq
    rcases hq with h | h | h | h | h | h | h | h
    · exact N q (by simp [h])
    · exact N q (by simp [h])
    · exact N q (by simp [h])
    · exact N q (by simp [h])
    · exact N q (by simp [h])
    · exact N q (by simp [h])
    · exact N q (by rw [h]; simp [ham])
    · exact N q (by simp [h])
  have hne2 : ∀ q ∈ ((I, rgO (k + 1) (left - 1) 1) :: (x, instObj 188 dx) :: (dx, hdD w.params th l) :: (pl, W.listOf plv np) :: (ar, W.listOf acc nA) :: (a, tup3 (.int t t1) (.int h t2) (.int 0 t3)) :: tl), q.1 ≠ l := by
    intro q hq
    simp only [List.mem_cons] at hq
    rcases hq with h | h | h | h | h | h | h
    · rw [h]; exact Ne.symm (hnI _ (.head _))
    · exact hne q (by simp [h])
    · exact hne q (by simp [h])
    · exact hne q (by simp [h])
    · exact hne q (by simp [h])
    · exact hne q (by rw [h]; simp [ham])
    · exact hne q (by simp [h])
  have hr2 : RowsAt ((I, rgO (k + 1) (left - 1) 1) :: (x, instObj 188 dx) :: (dx, hdD w.params th l) :: (pl, W.listOf plv np) :: (ar, W.listOf acc nA) :: (a, tup3 (.int t t1) (.int h t2) (.int 0 t3)) :: tl) its.toList rows := hr.mono fun q hq => .tail _ (.tail _ (.tail _ (.tail _ (.tail _ (.tail _ hq)))))
  have hr3 : RowsAt ((l, W.listOf its n) :: (I, rgO (k + 1) (left - 1) 1) :: (x, instObj 188 dx) :: (dx, hdD w.params th l) :: (pl, W.listOf plv np) :: (ar, W.listOf acc nA) :: (a, tup3 (.int t t1) (.int h t2) (.int 0 t3)) :: tl) its.toList rows := hr2.mono fun q hq => .tail _ hq
  have hDI : ∀ D, (∀ q ∈ ((I, rgO (k + 1) (left - 1) 1) :: (x, instObj 188 dx) :: (dx, hdD w.params th l) :: (pl, W.listOf plv np) :: (ar, W.listOf acc nA) :: (a, tup3 (.int t t1) (.int h t2) (.int 0 t3)) :: tl), q.1 ≠ D) → @Ne Nat D I := fun D hD => Ne.symm (hD _ (.head _))
  have hszL : its.size ≤ sizeLine := Nat.le_trans hsz (by decide)
  have hpar2 : decide (k.fmod 2 = 0) = true := decide_eq_true hpar
  have hpar3 : (k.fmod 2 == 0) = true := by rw [hpar]; rfl
  clear hr hne
  k_steps
  refine' hz _ _ _ _ _ _ _ _ _ _ _ _ _ (Fr.cong eq_tb (by assumption)) (News.lt8 (by assumption)) (by assumption) ?zr ?zl (hDI _ (by assumption))
  case zr =>
    have zz := RowsAt.drop1 (b := (I, rgO (k + 1) (left - 1) 1)) (c := (x, instObj 188 dx)) (d := (dx, hdD w.params th l)) (e := (pl, W.listOf plv np)) (f := (ar, W.listOf acc nA)) (by assumption) rfl rfl rfl rfl rfl ham
    exact zz
  case zl => assumption
theorem tb_e1 {q1 : Stmt} {it : PySem.Expr} {nm0 : Str} {np0 : Pos} {bd rest : List Stmt} {wp0 : Pos} {A : Around} {env : Env}
    (hst : b921 = q1 :: Stmt.For (.Name nm0 np0) it bd [] wp0 :: rest)
    (henv : env = envOf (Str.ofString "_law_table") s921 L 921 (.ref 920))
    {I x dx l pl ar a : Addr} {k left t h : Int} {its acc plv : Array Value} {n nA np : Nat} {th t1 t2 t3 tt tw : Tok} {tl : List (Addr × Obj)} {v0 v1 v2 v3 v4 v5 : Option Value} {Q : Flow → Shared → Prop} {E : Value → Shared → Prop} {Nx : Shared → Prop} {pt ph qw : Str} {rows : List (Str × Str)}
    (B : Below A₀ base outer h₀) (F : Fr h₀ L s.heap (tbM v0 v1 v2 v3 v4 v5 (.ref x) (.ref pl) (.ref ar))) (X : (KF w.params).In h₀) (T : Top p loose mean mg mb h₀)
    (N : News h₀ L s.heap ((I, rgO k left 1) :: (l, W.listOf its n) :: (x, instObj 188 dx) :: (dx, hdD w.params th l) :: (pl, W.listOf plv np) :: (ar, W.listOf acc nA) :: tl))
    (hA : A = ktrTop dp un gd (Str.ofString "_law_table") s921 L 921 (.ref 920) [] outer)
    (hne : ∀ q ∈ ((x, instObj 188 dx) :: (dx, hdD w.params th l) :: (pl, W.listOf plv np) :: (ar, W.listOf acc nA) :: tl), q.1 ≠ l) (hnI : ∀ q ∈ ((l, W.listOf its n) :: (x, instObj 188 dx) :: (dx, hdD w.params th l) :: (pl, W.listOf plv np) :: (ar, W.listOf acc nA) :: tl), q.1 ≠ I)
    (ham : (a, tup3 (.int t t1) (.int h t2) (.int 1 t3)) ∈ tl) (hr : RowsAt tl its.toList rows)
    (hd : dp + 20 < recursionLimit) (hu : un + 120 < cLine) (hE : PassesOwn (model P0 w) A env E) (hsz : its.size ≤ 900)
    (hk0 : 0 ≤ k) (hk1 : k < 100) (hl : 0 < left) (ht0 : 0 ≤ t) (ht1 : t < 5) (hh0 : 0 ≤ h) (hh1 : h < 5)
    (ha : acc[k.toNat]? = some (.ref a)) (hpt : plv[t.toNat]? = some (.str pt tt)) (hph : plv[h.toNat]? = some (.str ph tw))
    (hpar : k.fmod 2 = 0) (hptl : pt.length < 30) (hptl2 : (Txt.upper pt).length < 100) (hptl3 : (Txt.upper pt).length < 1000) (hphl : ph.length < 30) (hpto : okT (Txt.upper pt)) (hq : QuoteIs ph qw) (hqo : okT qw) (hql : qw.length < 1000)
    (hN : ∀ s', Nx s' → ForV P0 w A E env (.Name nm0 np0) bd Q (.ref I) s')
    (hz : ∀ h' tk' its' n' D t1' t2' u0 u1 u2 u3 u4 u5, Fr h₀ L h' (tbM u0 u1 u2 u3 u4 u5 (.ref x) (.ref pl) (.ref ar)) → News h₀ L h' ((I, rgO (k + 1) (left - 1) 1) :: (l, W.listOf its' n') :: (x, instObj 188 dx) :: (dx, hdD w.params th l) :: (pl, W.listOf plv np) :: (ar, W.listOf acc nA) :: (D, tupO (.str (Txt.upper pt) t1') (.str qw t2') 0) :: tl) → its'.size ≤ its.size + 1 →
      RowsAt ((D, tupO (.str (Txt.upper pt) t1') (.str qw t2') 0) :: tl) its'.toList (rows ++ [((Txt.upper pt), qw)]) → @Ne Nat D l → @Ne Nat D I → Nx { s with heap := h', toks := tk' }) :
    ForV P0 w A E env (.Name nm0 np0) bd Q (.ref I) s := by
  w_on
  cases hst
  subst henv
  subst hA
  refine for_turnR hE hN F N hnI hl ?_
  clear F N
  intro h' F N
  replace N : News h₀ L h' ((l, W.listOf its n) :: (I, rgO (k + 1) (left - 1) 1) :: (x, instObj 188 dx) :: (dx, hdD w.params th l) :: (pl, W.listOf plv np) :: (ar, W.listOf acc nA) :: (a, tup3 (.int t t1) (.int h t2) (.int 1 t3)) :: tl) := fun q hq => by
    simp only [List.mem_cons] at hq
    rcases hq with h | h | h | h | h | h | h | h
    · exact N q (by simp [h])
    · exact N q (by simp [h])
    · exact N q (by simp [h])
    · exact N q (by simp [h])
    · exact N q (by simp [h])
    · exact N q (by simp [h])
    · exact N q (by rw [h]; simp [ham])
    · exact N q (by simp [h])
  have hne2 : ∀ q ∈ ((I, rgO (k + 1) (left - 1) 1) :: (x, instObj 188 dx) :: (dx, hdD w.params th l) :: (pl, W.listOf plv np) :: (ar, W.listOf acc nA) :: (a, tup3 (.int t t1) (.int h t2) (.int 1 t3)) :: tl), q.1 ≠ l := by
    intro q hq
    simp only [List.mem_cons] at hq
    rcases hq with h | h | h | h | h | h | h
    · rw [h]; exact Ne.symm (hnI _ (.head _))
    · exact hne q (by simp [h])
    · exact hne q (by simp [h])
    · exact hne q (by simp [h])
    · exact hne q (by simp [h])
    · exact hne q (by rw [h]; simp [ham])
    · exact hne q (by simp [h])
  have hr2 : RowsAt ((I, rgO (k + 1) (left - 1) 1) :: (x, instObj 188 dx) :: (dx, hdD w.params th l) :: (pl, W.listOf plv np) :: (ar, W.listOf acc nA) :: (a, tup3 (.int t t1) (.int h t2) (.int 1 t3)) :: tl) its.toList rows := hr.mono fun q hq => .tail _ (.tail _ (.tail _ (.tail _ (.tail _ (.tail _ hq)))))
  have hr3 : RowsAt ((l, W.listOf its n) :: (I, rgO (k + 1) (left - 1) 1) :: (x, instObj 188 dx) :: (dx, hdD w.params th l) :: (pl, W.listOf plv np) :: (ar, W.listOf acc nA) :: (a, tup3 (.int t t1) (.int h t2) (.int 1 t3)) :: tl) its.toList rows := hr2.mono fun q hq => .tail _ hq
  have hDI : ∀ D, (∀ q ∈ ((I, rgO (k + 1) (left - 1) 1) :: (x, instObj 188 dx) :: (dx, hdD w.params th l) :: (pl, W.listOf plv np) :: (ar, W.listOf acc nA) :: (a, tup3 (.int t t1) (.int h t2) (.int 1 t3)) :: tl), q.1 ≠ D) → @Ne Nat D I := fun D hD => Ne.symm (hD _ (.head _))
  have hszL : its.size ≤ sizeLine := Nat.le_trans hsz (by decide)
  have hpar2 : decide (k.fmod 2 = 0) = true := decide_eq_true hpar
  have hpar3 : (k.fmod 2 == 0) = true := by rw [hpar]; rfl
  clear hr hne
  k_steps
  refine' hz _ _ _ _ _ _ _ _ _ _ _ _ _ (Fr.cong eq_tb (by assumption)) (News.lt8 (by assumption)) (by assumption) ?zr ?zl (hDI _ (by assumption))
  case zr =>
    have zz := RowsAt.drop1 (b := (I, rgO (k + 1) (left - 1) 1)) (c := (x, instObj 188 dx)) (d := (dx, hdD w.params th l)) (e := (pl, W.listOf plv np)) (f := (ar, W.listOf acc nA)) (by assumption) rfl rfl rfl rfl rfl ham
    exact zz
  case zl => assumption
theorem tb_o0 {q1 : Stmt} {it : PySem.Expr} {nm0 : Str} {np0 : Pos} {bd rest : List Stmt} {wp0 : Pos} {A : Around} {env : Env}
    (hst : b921 = q1 :: Stmt.For (.Name nm0 np0) it bd [] wp0 :: rest)
    (henv : env = envOf (Str.ofString "_law_table") s921 L 921 (.ref 920))
    {I x dx l pl ar a : Addr} {k left t h : Int} {its acc plv : Array Value} {n nA np : Nat} {th t1 t2 t3 tt tw : Tok} {tl : List (Addr × Obj)} {v0 v1 v2 v3 v4 v5 : Option Value} {Q : Flow → Shared → Prop} {E : Value → Shared → Prop} {Nx : Shared → Prop} {pt ph qw : Str} {rows : List (Str × Str)}
    (B : Below A₀ base outer h₀) (F : Fr h₀ L s.heap (tbM v0 v1 v2 v3 v4 v5 (.ref x) (.ref pl) (.ref ar))) (X : (KF w.params).In h₀) (T : Top p loose mean mg mb h₀)
    (N : News h₀ L s.heap ((I, rgO k left 1) :: (l, W.listOf its n) :: (x, instObj 188 dx) :: (dx, hdD w.params th l) :: (pl, W.listOf plv np) :: (ar, W.listOf acc nA) :: tl))
    (hA : A = ktrTop dp un gd (Str.ofString "_law_table") s921 L 921 (.ref 920) [] outer)
    (hne : ∀ q ∈ ((x, instObj 188 dx) :: (dx, hdD w.params th l) :: (pl, W.listOf plv np) :: (ar, W.listOf acc nA) :: tl), q.1 ≠ l) (hnI : ∀ q ∈ ((l, W.listOf its n) :: (x, instObj 188 dx) :: (dx, hdD w.params th l) :: (pl, W.listOf plv np) :: (ar, W.listOf acc nA) :: tl), q.1 ≠ I)
    (ham : (a, tup3 (.int t t1) (.int h t2) (.int 0 t3)) ∈ tl) (hr : RowsAt tl its.toList rows)
    (hd : dp + 20 < recursionLimit) (hu : un + 120 < cLine) (hE : PassesOwn (model P0 w) A env E) (hsz : its.size ≤ 900)
    (hk0 : 0 ≤ k) (hk1 : k < 100) (hl : 0 < left) (ht0 : 0 ≤ t) (ht1 : t < 5) (hh0 : 0 ≤ h) (hh1 : h < 5)
    (ha : acc[k.toNat]? = some (.ref a)) (hpt : plv[t.toNat]? = some (.str pt tt)) (hph : plv[h.toNat]? = some (.str ph tw))
    (hpar : ¬ k.fmod 2 = 0) (hptl : pt.length < 30) (hptl2 : pt.length < 100) (hptl3 : pt.length < 1000) (hphl : ph.length < 30) (hpto : okT pt) (hq : QuoteIs (Txt.upper ph) qw) (hqo : okT qw) (hql : qw.length < 1000)
    (hlo1 : okT (Txt.lower pt)) (hlo2 : (Txt.lower pt).length < 1000) (hvo : okT (Txt.join (Str.ofString " ") ((rows.filter fun r => Txt.lower r.1 == Txt.lower pt).map (·.2) ++ [qw]))) (hvl : (Txt.join (Str.ofString " ") ((rows.filter fun r => Txt.lower r.1 == Txt.lower pt).map (·.2) ++ [qw])).length < 1000) (hjo : JoinOk (Str.ofString " ") ((rows.filter fun r => Txt.lower r.1 == Txt.lower pt).map (·.2) ++ [qw]) = true) (hfl : ((rows.filter fun r => Txt.lower r.1 == Txt.lower pt).map (·.2)).length ≤ 900)
    (hN : ∀ s', Nx s' → ForV P0 w A E env (.Name nm0 np0) bd Q (.ref I) s')
    (hz : ∀ h' tk' its' n' D t1' t2' u0 u1 u2 u3 u4 u5, Fr h₀ L h' (tbM u0 u1 u2 u3 u4 u5 (.ref x) (.ref pl) (.ref ar)) → News h₀ L h' ((I, rgO (k + 1) (left - 1) 1) :: (l, W.listOf its' n') :: (x, instObj 188 dx) :: (dx, hdD w.params th l) :: (pl, W.listOf plv np) :: (ar, W.listOf acc nA) :: (D, tupO (.str pt t1') (.str (Txt.join (Str.ofString " ") ((rows.filter fun r => Txt.lower r.1 == Txt.lower pt).map (·.2) ++ [qw])) t2') 0) :: tl) → its'.size ≤ its.size + 1 →
      RowsAt ((D, tupO (.str pt t1') (.str (Txt.join (Str.ofString " ") ((rows.filter fun r => Txt.lower r.1 == Txt.lower pt).map (·.2) ++ [qw])) t2') 0) :: tl) its'.toList ((rows.filter fun r => !(Txt.lower r.1 == Txt.lower pt)) ++ [(pt, (Txt.join (Str.ofString " ") ((rows.filter fun r => Txt.lower r.1 == Txt.lower pt).map (·.2) ++ [qw])))]) → @Ne Nat D l → @Ne Nat D I → Nx { s with heap := h', toks := tk' }) :
    ForV P0 w A E env (.Name nm0 np0) bd Q (.ref I) s := by
  w_on
  cases hst
  subst henv
  subst hA
  refine for_turnR hE hN F N hnI hl ?_
  clear F N
  intro h' F N
  replace N : News h₀ L h' ((l, W.listOf its n) :: (I, rgO (k + 1) (left - 1) 1) :: (x, instObj 188 dx) :: (dx, hdD w.params th l) :: (pl, W.listOf plv np) :: (ar, W.listOf acc nA) :: (a, tup3 (.int t t1) (.int h t2) (.int 0 t3)) :: tl) := fun q hq => by
    simp only [List.mem_cons] at hq
    rcases hq with h | h | h | h | h | h | h | h
    · exact N q (by simp [h])
    · exact N q (by simp [h])
    · exact N q (by simp [h])
    · exact N q (by simp [h])
    · exact N q (by simp [h])
    · exact N q (by simp [h])
    · exact N q (by rw [h]; simp [ham])
    · exact N q (by simp [h])
  have hne2 : ∀ q ∈ ((I, rgO (k + 1) (left - 1) 1) :: (x, instObj 188 dx) :: (dx, hdD w.params th l) :: (pl, W.listOf plv np) :: (ar, W.listOf acc nA) :: (a, tup3 (.int t t1) (.int h t2) (.int 0 t3)) :: tl), q.1 ≠ l := by
    intro q hq
    simp only [List.mem_cons] at hq
    rcases hq with h | h | h | h | h | h | h
    · rw [h]; exact Ne.symm (hnI _ (.head _))
    · exact hne q (by simp [h])
    · exact hne q (by simp [h])
    · exact hne q (by simp [h])
    · exact hne q (by simp [h])
    · exact hne q (by rw [h]; simp [ham])
    · exact hne q (by simp [h])
  have hr2 : RowsAt ((I, rgO (k + 1) (left - 1) 1) :: (x, instObj 188 dx) :: (dx, hdD w.params th l) :: (pl, W.listOf plv np) :: (ar, W.listOf acc nA) :: (a, tup3 (.int t t1) (.int h t2) (.int 0 t3)) :: tl) its.toList rows := hr.mono fun q hq => .tail _ (.tail _ (.tail _ (.tail _ (.tail _ (.tail _ hq)))))
  have hr3 : RowsAt ((l, W.listOf its n) :: (I, rgO (k + 1) (left - 1) 1) :: (x, instObj 188 dx) :: (dx, hdD w.params th l) :: (pl, W.listOf plv np) :: (ar, W.listOf acc nA) :: (a, tup3 (.int t t1) (.int h t2) (.int 0 t3)) :: tl) its.toList rows := hr2.mono fun q hq => .tail _ hq
  have hDI : ∀ D, (∀ q ∈ ((I, rgO (k + 1) (left - 1) 1) :: (x, instObj 188 dx) :: (dx, hdD w.params th l) :: (pl, W.listOf plv np) :: (ar, W.listOf acc nA) :: (a, tup3 (.int t t1) (.int h t2) (.int 0 t3)) :: tl), q.1 ≠ D) → @Ne Nat D I := fun D hD => Ne.symm (hD _ (.head _))
  have hszL : its.size ≤ sizeLine := Nat.le_trans hsz (by decide)
  have hpar2 : decide (k.fmod 2 = 0) = false := decide_eq_false hpar
  have hpar3 : (k.fmod 2 == 0) = false := by rw [beq_eq_false_iff_ne]; exact hpar
  clear hr hne
  k_steps
  refine' hz _ _ _ _ _ _ _ _ _ _ _ _ _ (Fr.cong eq_tb (by assumption)) (News.lt11 (by assumption)) (by assumption) ?zr ?zl ?zI
  case zI => exact Ne.symm ((by assumption : ∀ q ∈ (_ :: _ :: _ :: (I, rgO (k + 1) (left - 1) 1) :: _), q.1 ≠ _) _ (.tail _ (.tail _ (.tail _ (.head _)))))
  case zr =>
    have zz := RowsAt.drop4 (b := (I, rgO (k + 1) (left - 1) 1)) (c := (x, instObj 188 dx)) (d := (dx, hdD w.params th l)) (e := (pl, W.listOf plv np)) (f := (ar, W.listOf acc nA)) (by assumption) rfl rfl rfl rfl rfl rfl rfl rfl ham
    exact zz
  case zl => assumption
theorem tb_o1 {q1 : Stmt} {it : PySem.Expr} {nm0 : Str} {np0 : Pos} {bd rest : List Stmt} {wp0 : Pos} {A : Around} {env : Env}
    (hst : b921 = q1 :: Stmt.For (.Name nm0 np0) it bd [] wp0 :: rest)
    (henv : env = envOf (Str.ofString "_law_table") s921 L 921 (.ref 920))
    {I x dx l pl ar a : Addr} {k left t h : Int} {its acc plv : Array Value} {n nA np : Nat} {th t1 t2 t3 tt tw : Tok} {tl : List (Addr × Obj)} {v0 v1 v2 v3 v4 v5 : Option Value} {Q : Flow → Shared → Prop} {E : Value → Shared → Prop} {Nx : Shared → Prop} {pt ph qw : Str} {rows : List (Str × Str)}
    (B : Below A₀ base outer h₀) (F : Fr h₀ L s.heap (tbM v0 v1 v2 v3 v4 v5 (.ref x) (.ref pl) (.ref ar))) (X : (KF w.params).In h₀) (T : Top p loose mean mg mb h₀)
    (N : News h₀ L s.heap ((I, rgO k left 1) :: (l, W.listOf its n) :: (x, instObj 188 dx) :: (dx, hdD w.params th l) :: (pl, W.listOf plv np) :: (ar, W.listOf acc nA) :: tl))
    (hA : A = ktrTop dp un gd (Str.ofString "_law_table") s921 L 921 (.ref 920) [] outer)
    (hne : ∀ q ∈ ((x, instObj 188 dx) :: (dx, hdD w.params th l) :: (pl, W.listOf plv np) :: (ar, W.listOf acc nA) :: tl), q.1 ≠ l) (hnI : ∀ q ∈ ((l, W.listOf its n) :: (x, instObj 188 dx) :: (dx, hdD w.params th l) :: (pl, W.listOf plv np) :: (ar, W.listOf acc nA) :: tl), q.1 ≠ I)
    (ham : (a, tup3 (.int t t1) (.int h t2) (.int 1 t3)) ∈ tl) (hr : RowsAt tl its.toList rows)
    (hd : dp + 20 < recursionLimit) (hu : un + 120 < cLine) (hE : PassesOwn (model P0 w) A env E) (hsz : its.size ≤ 900)
    (hk0 : 0 ≤ k) (hk1 : k < 100) (hl : 0 < left) (ht0 : 0 ≤ t) (ht1 : t < 5) (hh0 : 0 ≤ h) (hh1 : h < 5)
    (ha : acc[k.toNat]? = some (.ref a)) (hpt : plv[t.toNat]? = some (.str pt tt)) (hph : plv[h.toNat]? = some (.str ph tw))
    (hpar : ¬ k.fmod 2 = 0) (hptl : pt.length < 30) (hptl2 : (Txt.upper pt).length < 100) (hptl3 : (Txt.upper pt).length < 1000) (hphl : ph.length < 30) (hpto : okT (Txt.upper pt)) (hq : QuoteIs ph qw) (hqo : okT qw) (hql : qw.length < 1000)
    (hlo1 : okT (Txt.lower (Txt.upper pt))) (hlo2 : (Txt.lower (Txt.upper pt)).length < 1000) (hvo : okT (Txt.join (Str.ofString " ") ((rows.filter fun r => Txt.lower r.1 == Txt.lower (Txt.upper pt)).map (·.2) ++ [qw]))) (hvl : (Txt.join (Str.ofString " ") ((rows.filter fun r => Txt.lower r.1 == Txt.lower (Txt.upper pt)).map (·.2) ++ [qw])).length < 1000) (hjo : JoinOk (Str.ofString " ") ((rows.filter fun r => Txt.lower r.1 == Txt.lower (Txt.upper pt)).map (·.2) ++ [qw]) = true) (hfl : ((rows.filter fun r => Txt.lower r.1 == Txt.lower (Txt.upper pt)).map (·.2)).length ≤ 900)
    (hN : ∀ s', Nx s' → ForV P0 w A E env (.Name nm0 np0) bd Q (.ref I) s')
    (hz : ∀ h' tk' its' n' D t1' t2' u0 u1 u2 u3 u4 u5, Fr h₀ L h' (tbM u0 u1 u2 u3 u4 u5 (.ref x) (.ref pl) (.ref ar)) → News h₀ L h' ((I, rgO (k + 1) (left - 1) 1) :: (l, W.listOf its' n') :: (x, instObj 188 dx) :: (dx, hdD w.params th l) :: (pl, W.listOf plv np) :: (ar, W.listOf acc nA) :: (D, tupO (.str (Txt.upper pt) t1') (.str (Txt.join (Str.ofString " ") ((rows.filter fun r => Txt.lower r.1 == Txt.lower (Txt.upper pt)).map (·.2) ++ [qw])) t2') 0) :: tl) → its'.size ≤ its.size + 1 →
      RowsAt ((D, tupO (.str (Txt.upper pt) t1') (.str (Txt.join (Str.ofString " ") ((rows.filter fun r => Txt.lower r.1 == Txt.lower (Txt.upper pt)).map (·.2) ++ [qw])) t2') 0) :: tl) its'.toList ((rows.filter fun r => !(Txt.lower r.1 == Txt.lower (Txt.upper pt))) ++ [((Txt.upper pt), (Txt.join (Str.ofString " ") ((rows.filter fun r => Txt.lower r.1 == Txt.lower (Txt.upper pt)).map (·.2) ++ [qw])))]) → @Ne Nat D l → @Ne Nat D I → Nx { s with heap := h', toks := tk' }) :
    ForV P0 w A E env (.Name nm0 np0) bd Q (.ref I) s := by
  w_on
  cases hst
  subst henv
  subst hA
  refine for_turnR hE hN F N hnI hl ?_
  clear F N
  intro h' F N
  replace N : News h₀ L h' ((l, W.listOf its n) :: (I, rgO (k + 1) (left - 1) 1) :: (x, instObj 188 dx) :: (dx, hdD w.params th l) :: (pl, W.listOf plv np) :: (ar, W.listOf acc nA) :: (a, tup3 (.int t t1) (.int h t2) (.int 1 t3)) :: tl) := fun q hq => by
    simp only [List.mem_cons] at hq
    rcases hq with h | h | h | h | h | h | h | h
    · exact N q (by simp [h])
    · exact N q (by simp [h])
    · exact N q (by simp [h])
    · exact N q (by simp [h])
    · exact N q (by simp [h])
    · exact N q (by simp [h])
    · exact N q (by rw [h]; simp [ham])
    · exact N q (by simp [h])
  have hne2 : ∀ q ∈ ((I, rgO (k + 1) (left - 1) 1) :: (x, instObj 188 dx) :: (dx, hdD w.params th l) :: (pl, W.listOf plv np) :: (ar, W.listOf acc nA) :: (a, tup3 (.int t t1) (.int h t2) (.int 1 t3)) :: tl), q.1 ≠ l := by
    intro q hq
    simp only [List.mem_cons] at hq
    rcases hq with h | h | h | h | h | h | h
    · rw [h]; exact Ne.symm (hnI _ (.head _))
    · exact hne q (by simp [h])
    · exact hne q (by simp [h])
    · exact hne q (by simp [h])
    · exact hne q (by simp [h])
    · exact hne q (by rw [h]; simp [ham])
    · exact hne q (by simp [h])
  have hr2 : RowsAt ((I, rgO (k + 1) (left - 1) 1) :: (x, instObj 188 dx) :: (dx, hdD w.params th l) :: (pl, W.listOf plv np) :: (ar, W.listOf acc nA) :: (a, tup3 (.int t t1) (.int h t2) (.int 1 t3)) :: tl) its.toList rows := hr.mono fun q hq => .tail _ (.tail _ (.tail _ (.tail _ (.tail _ (.tail _ hq)))))
  have hr3 : RowsAt ((l, W.listOf its n) :: (I, rgO (k + 1) (left - 1) 1) :: (x, instObj 188 dx) :: (dx, hdD w.params th l) :: (pl, W.listOf plv np) :: (ar, W.listOf acc nA) :: (a, tup3 (.int t t1) (.int h t2) (.int 1 t3)) :: tl) its.toList rows := hr2.mono fun q hq => .tail _ hq
  have hDI : ∀ D, (∀ q ∈ ((I, rgO (k + 1) (left - 1) 1) :: (x, instObj 188 dx) :: (dx, hdD w.params th l) :: (pl, W.listOf plv np) :: (ar, W.listOf acc nA) :: (a, tup3 (.int t t1) (.int h t2) (.int 1 t3)) :: tl), q.1 ≠ D) → @Ne Nat D I := fun D hD => Ne.symm (hD _ (.head _))
  have hszL : its.size ≤ sizeLine := Nat.le_trans hsz (by decide)
  have hpar2 : decide (k.fmod 2 = 0) = false := decide_eq_false hpar
  have hpar3 : (k.fmod 2 == 0) = false := by rw [beq_eq_false_iff_ne]; exact hpar
  clear hr hne
  k_steps
  refine' hz _ _ _ _ _ _ _ _ _ _ _ _ _ (Fr.cong eq_tb (by assumption)) (News.lt11 (by assumption)) (by assumption) ?zr ?zl ?zI
  case zI => exact Ne.symm ((by assumption : ∀ q ∈ (_ :: _ :: _ :: (I, rgO (k + 1) (left - 1) 1) :: _), q.1 ≠ _) _ (.tail _ (.tail _ (.tail _ (.head _)))))
  case zr =>
    have zz := RowsAt.drop4 (b := (I, rgO (k + 1) (left - 1) 1)) (c := (x, instObj 188 dx)) (d := (dx, hdD w.params th l)) (e := (pl, W.listOf plv np)) (f := (ar, W.listOf acc nA)) (by assumption) rfl rfl rfl rfl rfl rfl rfl rfl ham
    exact zz
  case zl => assumption
end

end
section -- Pure2
noncomputable def plAt (i : Int) : Str := if i = 0 then Str.ofString "" else if i = 1 then Str.ofString "#" else if i = 2 then Str.ofString "it's" else if i = 3 then Str.ofString "x y" else Str.ofString "z"
noncomputable def txt (w : Int × Bool) : Str := if w.2 then Txt.upper (plAt w.1) else plAt w.1
noncomputable def qt (w : Int × Bool) : Str := if w.1 = 0 then Str.ofString "''" else if w.1 = 1 then Str.ofString "'#'" else if w.1 = 2 then (if w.2 then Str.ofString "'IT'\"'\"'S'" else Str.ofString "'it'\"'\"'s'") else if w.1 = 3 then (if w.2 then Str.ofString "'X Y'" else Str.ofString "'x y'") else (if w.2 then Str.ofString "Z" else Str.ofString "z")
noncomputable def inR (i : Int) : Prop := 0 ≤ i ∧ i < 5
theorem inR_cases {i : Int} (h : inR i) : i = 0 ∨ i = 1 ∨ i = 2 ∨ i = 3 ∨ i = 4 := by unfold inR at h; omega
theorem lower_txt {i : Int} {b : Bool} (h : inR i) : Txt.lower (txt (i, b)) = plAt i := by
  rcases inR_cases h with rfl | rfl | rfl | rfl | rfl <;> cases b <;> decide +kernel
theorem len_txt {i : Int} {b : Bool} (h : inR i) : (txt (i, b)).length < 30 := by
  rcases inR_cases h with rfl | rfl | rfl | rfl | rfl <;> cases b <;> decide +kernel
theorem len_qt {i : Int} {b : Bool} (h : inR i) : (qt (i, b)).length ≤ 10 := by
  rcases inR_cases h with rfl | rfl | rfl | rfl | rfl <;> cases b <;> decide +kernel
noncomputable def okB (t : Str) : Bool := t.cps.toList.all fun c => alph.contains c
theorem okT_of {t : Str} (h : okB t = true) : okT t := fun c hc => by
  have := List.all_eq_true.mp h c hc
  simpa using this
theorem ok_txt {i : Int} {b : Bool} (h : inR i) : okT (txt (i, b)) := okT_of (by
  rcases inR_cases h with rfl | rfl | rfl | rfl | rfl <;> cases b <;> decide +kernel)
theorem ok_pl {i : Int} (h : inR i) : okT (plAt i) := ok_txt (b := false) h
theorem ok_qt {i : Int} {b : Bool} (h : inR i) : okT (qt (i, b)) := okT_of (by
  rcases inR_cases h with rfl | rfl | rfl | rfl | rfl <;> cases b <;> decide +kernel)
theorem qi_qt {i : Int} {b : Bool} (h : inR i) : QuoteIs (txt (i, b)) (qt (i, b)) := by
  rcases inR_cases h with rfl | rfl | rfl | rfl | rfl <;> cases b
  · exact (show txt (0, false) = Str.ofString "" by decide +kernel) ▸ (show qt (0, false) = Str.ofString "''" by decide +kernel) ▸ QuoteIs.empty
  · exact (show txt (0, true) = Str.ofString "" by decide +kernel) ▸ (show qt (0, true) = Str.ofString "''" by decide +kernel) ▸ QuoteIs.empty
  · exact (show txt (1, false) = Str.ofString "#" by decide +kernel) ▸ (show qt (1, false) = Str.ofString "'#'" by decide +kernel) ▸ qi_hash
  · exact (show txt (1, true) = Str.ofString "#" by decide +kernel) ▸ (show qt (1, true) = Str.ofString "'#'" by decide +kernel) ▸ qi_hash
  · exact (show txt (2, false) = Str.ofString "it's" by decide +kernel) ▸ (show qt (2, false) = Str.ofString "'it'\"'\"'s'" by decide +kernel) ▸ qi_its
  · exact (show txt (2, true) = Str.ofString "IT'S" by decide +kernel) ▸ (show qt (2, true) = Str.ofString "'IT'\"'\"'S'" by decide +kernel) ▸ qi_ITS
  · exact (show txt (3, false) = Str.ofString "x y" by decide +kernel) ▸ (show qt (3, false) = Str.ofString "'x y'" by decide +kernel) ▸ qi_xy
  · exact (show txt (3, true) = Str.ofString "X Y" by decide +kernel) ▸ (show qt (3, true) = Str.ofString "'X Y'" by decide +kernel) ▸ qi_XY
  · exact (show txt (4, false) = Str.ofString "z" by decide +kernel) ▸ (show qt (4, false) = Str.ofString "z" by decide +kernel) ▸ qi_z
  · exact (show txt (4, true) = Str.ofString "Z" by decide +kernel) ▸ (show qt (4, true) = Str.ofString "Z" by decide +kernel) ▸ qi_Z
theorem pl_inj {i j : Int} (hi : inR i) (hj : inR j) : (plAt i == plAt j) = decide (i = j) := by
  rcases inR_cases hi with rfl | rfl | rfl | rfl | rfl <;> rcases inR_cases hj with rfl | rfl | rfl | rfl | rfl <;> decide +kernel
/-- a line of words -/
noncomputable def line (ws : List (Int × Bool)) : Str := Txt.join (Str.ofString " ") (ws.map qt)
theorem run_end {i : Int} {b : Bool} (h : inR i) : Run .sp (Str.ofString "") false ((qt (i, b)).cps.toList) (txt (i, b)) none := by
  rcases inR_cases h with rfl | rfl | rfl | rfl | rfl <;> cases b
  · rw [show (qt (0, false)).cps.toList = [39, 39] by decide +kernel, show txt (0, false) = Str.ofString "" by decide +kernel]
    exact .sp_q (.sq_end (.a_eof (by decide +kernel)))
  · rw [show (qt (0, true)).cps.toList = [39, 39] by decide +kernel, show txt (0, true) = Str.ofString "" by decide +kernel]
    exact .sp_q (.sq_end (.a_eof (by decide +kernel)))
  · rw [show (qt (1, false)).cps.toList = [39, 35, 39] by decide +kernel, show txt (1, false) = (Str.ofString "" ++ ⟨#[35]⟩) by decide +kernel]
    exact .sp_q (.sq_ch (by decide +kernel) (by decide +kernel) (by decide +kernel) (by decide +kernel) (.sq_end (.a_eof (by decide +kernel))))
  · rw [show (qt (1, true)).cps.toList = [39, 35, 39] by decide +kernel, show txt (1, true) = (Str.ofString "" ++ ⟨#[35]⟩) by decide +kernel]
    exact .sp_q (.sq_ch (by decide +kernel) (by decide +kernel) (by decide +kernel) (by decide +kernel) (.sq_end (.a_eof (by decide +kernel))))
  · rw [show (qt (2, false)).cps.toList = [39, 105, 116, 39, 34, 39, 34, 39, 115, 39] by decide +kernel, show txt (2, false) = ((((Str.ofString "" ++ ⟨#[105]⟩) ++ ⟨#[116]⟩) ++ ⟨#[39]⟩) ++ ⟨#[115]⟩) by decide +kernel]
    exact .sp_q (.sq_ch (by decide +kernel) (by decide +kernel) (by decide +kernel) (by decide +kernel) (.sq_ch (by decide +kernel) (by decide +kernel) (by decide +kernel) (by decide +kernel) (.sq_end (.a_dq (.dq_sq (by decide +kernel) (.dq_end (.a_sq (.sq_ch (by decide +kernel) (by decide +kernel) (by decide +kernel) (by decide +kernel) (.sq_end (.a_eof (by decide +kernel)))))))))))
  · rw [show (qt (2, true)).cps.toList = [39, 73, 84, 39, 34, 39, 34, 39, 83, 39] by decide +kernel, show txt (2, true) = ((((Str.ofString "" ++ ⟨#[73]⟩) ++ ⟨#[84]⟩) ++ ⟨#[39]⟩) ++ ⟨#[83]⟩) by decide +kernel]
    exact .sp_q (.sq_ch (by decide +kernel) (by decide +kernel) (by decide +kernel) (by decide +kernel) (.sq_ch (by decide +kernel) (by decide +kernel) (by decide +kernel) (by decide +kernel) (.sq_end (.a_dq (.dq_sq (by decide +kernel) (.dq_end (.a_sq (.sq_ch (by decide +kernel) (by decide +kernel) (by decide +kernel) (by decide +kernel) (.sq_end (.a_eof (by decide +kernel)))))))))))
  · rw [show (qt (3, false)).cps.toList = [39, 120, 32, 121, 39] by decide +kernel, show txt (3, false) = (((Str.ofString "" ++ ⟨#[120]⟩) ++ ⟨#[32]⟩) ++ ⟨#[121]⟩) by decide +kernel]
    exact .sp_q (.sq_ch (by decide +kernel) (by decide +kernel) (by decide +kernel) (by decide +kernel) (.sq_ch (by decide +kernel) (by decide +kernel) (by decide +kernel) (by decide +kernel) (.sq_ch (by decide +kernel) (by decide +kernel) (by decide +kernel) (by decide +kernel) (.sq_end (.a_eof (by decide +kernel))))))
  · rw [show (qt (3, true)).cps.toList = [39, 88, 32, 89, 39] by decide +kernel, show txt (3, true) = (((Str.ofString "" ++ ⟨#[88]⟩) ++ ⟨#[32]⟩) ++ ⟨#[89]⟩) by decide +kernel]
    exact .sp_q (.sq_ch (by decide +kernel) (by decide +kernel) (by decide +kernel) (by decide +kernel) (.sq_ch (by decide +kernel) (by decide +kernel) (by decide +kernel) (by decide +kernel) (.sq_ch (by decide +kernel) (by decide +kernel) (by decide +kernel) (by decide +kernel) (.sq_end (.a_eof (by decide +kernel))))))
  · rw [show (qt (4, false)).cps.toList = [122] by decide +kernel, show txt (4, false) = (⟨#[122]⟩ : Str) by decide +kernel]
    exact .sp_z (by decide) (.a_eof (by decide +kernel))
  · rw [show (qt (4, true)).cps.toList = [90] by decide +kernel, show txt (4, true) = (⟨#[90]⟩ : Str) by decide +kernel]
    exact .sp_z (by decide) (.a_eof (by decide +kernel))
theorem run_more {i : Int} {b : Bool} {cs : List Nat} (h : inR i) : Run .sp (Str.ofString "") false ((qt (i, b)).cps.toList ++ 32 :: cs) (txt (i, b)) (some cs) := by
  rcases inR_cases h with rfl | rfl | rfl | rfl | rfl <;> cases b
  · rw [show (qt (0, false)).cps.toList = [39, 39] by decide +kernel, show txt (0, false) = Str.ofString "" by decide +kernel]
    exact .sp_q (.sq_end (.a_sp (by decide +kernel) (by decide +kernel)))
  · rw [show (qt (0, true)).cps.toList = [39, 39] by decide +kernel, show txt (0, true) = Str.ofString "" by decide +kernel]
    exact .sp_q (.sq_end (.a_sp (by decide +kernel) (by decide +kernel)))
  · rw [show (qt (1, false)).cps.toList = [39, 35, 39] by decide +kernel, show txt (1, false) = (Str.ofString "" ++ ⟨#[35]⟩) by decide +kernel]
    exact .sp_q (.sq_ch (by decide +kernel) (by decide +kernel) (by decide +kernel) (by decide +kernel) (.sq_end (.a_sp (by decide +kernel) (by decide +kernel))))
  · rw [show (qt (1, true)).cps.toList = [39, 35, 39] by decide +kernel, show txt (1, true) = (Str.ofString "" ++ ⟨#[35]⟩) by decide +kernel]
    exact .sp_q (.sq_ch (by decide +kernel) (by decide +kernel) (by decide +kernel) (by decide +kernel) (.sq_end (.a_sp (by decide +kernel) (by decide +kernel))))
  · rw [show (qt (2, false)).cps.toList = [39, 105, 116, 39, 34, 39, 34, 39, 115, 39] by decide +kernel, show txt (2, false) = ((((Str.ofString "" ++ ⟨#[105]⟩) ++ ⟨#[116]⟩) ++ ⟨#[39]⟩) ++ ⟨#[115]⟩) by decide +kernel]
    exact .sp_q (.sq_ch (by decide +kernel) (by decide +kernel) (by decide +kernel) (by decide +kernel) (.sq_ch (by decide +kernel) (by decide +kernel) (by decide +kernel) (by decide +kernel) (.sq_end (.a_dq (.dq_sq (by decide +kernel) (.dq_end (.a_sq (.sq_ch (by decide +kernel) (by decide +kernel) (by decide +kernel) (by decide +kernel) (.sq_end (.a_sp (by decide +kernel) (by decide +kernel)))))))))))
  · rw [show (qt (2, true)).cps.toList = [39, 73, 84, 39, 34, 39, 34, 39, 83, 39] by decide +kernel, show txt (2, true) = ((((Str.ofString "" ++ ⟨#[73]⟩) ++ ⟨#[84]⟩) ++ ⟨#[39]⟩) ++ ⟨#[83]⟩) by decide +kernel]
    exact .sp_q (.sq_ch (by decide +kernel) (by decide +kernel) (by decide +kernel) (by decide +kernel) (.sq_ch (by decide +kernel) (by decide +kernel) (by decide +kernel) (by decide +kernel) (.sq_end (.a_dq (.dq_sq (by decide +kernel) (.dq_end (.a_sq (.sq_ch (by decide +kernel) (by decide +kernel) (by decide +kernel) (by decide +kernel) (.sq_end (.a_sp (by decide +kernel) (by decide +kernel)))))))))))
  · rw [show (qt (3, false)).cps.toList = [39, 120, 32, 121, 39] by decide +kernel, show txt (3, false) = (((Str.ofString "" ++ ⟨#[120]⟩) ++ ⟨#[32]⟩) ++ ⟨#[121]⟩) by decide +kernel]
    exact .sp_q (.sq_ch (by decide +kernel) (by decide +kernel) (by decide +kernel) (by decide +kernel) (.sq_ch (by decide +kernel) (by decide +kernel) (by decide +kernel) (by decide +kernel) (.sq_ch (by decide +kernel) (by decide +kernel) (by decide +kernel) (by decide +kernel) (.sq_end (.a_sp (by decide +kernel) (by decide +kernel))))))
  · rw [show (qt (3, true)).cps.toList = [39, 88, 32, 89, 39] by decide +kernel, show txt (3, true) = (((Str.ofString "" ++ ⟨#[88]⟩) ++ ⟨#[32]⟩) ++ ⟨#[89]⟩) by decide +kernel]
    exact .sp_q (.sq_ch (by decide +kernel) (by decide +kernel) (by decide +kernel) (by decide +kernel) (.sq_ch (by decide +kernel) (by decide +kernel) (by decide +kernel) (by decide +kernel) (.sq_ch (by decide +kernel) (by decide +kernel) (by decide +kernel) (by decide +kernel) (.sq_end (.a_sp (by decide +kernel) (by decide +kernel))))))
  · rw [show (qt (4, false)).cps.toList = [122] by decide +kernel, show txt (4, false) = (⟨#[122]⟩ : Str) by decide +kernel]
    exact .sp_z (by decide) (.a_sp (by decide +kernel) (by decide +kernel))
  · rw [show (qt (4, true)).cps.toList = [90] by decide +kernel, show txt (4, true) = (⟨#[90]⟩ : Str) by decide +kernel]
    exact .sp_z (by decide) (.a_sp (by decide +kernel) (by decide +kernel))
theorem join_cons {sep a b : Str} {r : List Str} : Txt.join sep (a :: b :: r) = a ++ sep ++ Txt.join sep (b :: r) := by
  simp only [Txt.join, Builtin.Str.glued, List.drop_succ_cons, List.drop_zero, List.headD_cons, List.foldl_cons]
  have key : ∀ (l : List Str) (x y : Array Nat), l.foldl (fun acc p => acc ++ sep.cps ++ p.cps) (x ++ y) = x ++ l.foldl (fun acc p => acc ++ sep.cps ++ p.cps) y := by
    intro l
    induction l with
    | nil => intro x y; rfl
    | cons p l ih => intro x y; rw [List.foldl_cons, List.foldl_cons, ← ih, Array.append_assoc, Array.append_assoc, Array.append_assoc]
  rw [key]
  rfl
theorem line_one {w : Int × Bool} : line [w] = qt w := join1
theorem line_cons {w v : Int × Bool} {r : List (Int × Bool)} : line (w :: v :: r) = qt w ++ Str.ofString " " ++ line (v :: r) := join_cons
theorem words_line : ∀ {ws : List (Int × Bool)}, ws ≠ [] → (∀ w ∈ ws, inR w.1) → Words (line ws).cps.toList (ws.map txt)
  | [], h, _ => absurd rfl h
  | [w], _, h => by
    rw [line_one]
    exact .last (run_end (h w (.head _)))
  | w :: v :: r, _, h => by
    rw [line_cons]
    have e : (qt w ++ Str.ofString " " ++ line (v :: r)).cps.toList = (qt w).cps.toList ++ 32 :: (line (v :: r)).cps.toList := by
      have e1 : (qt w ++ Str.ofString " " ++ line (v :: r)).cps = (qt w).cps ++ (Str.ofString " ").cps ++ (line (v :: r)).cps := rfl
      have e2 : (Str.ofString " ").cps = #[32] := by decide +kernel
      rw [e1, e2]
      simp
    rw [e]
    exact .more (run_more (h w (.head _))) (words_line (by simp) fun u hu => h u (.tail _ hu))
theorem len_app {a b : Str} : (a ++ b).length = a.length + b.length := Str.length_append a b
theorem len_line : ∀ {ws : List (Int × Bool)}, (∀ w ∈ ws, inR w.1) → (line ws).length ≤ 11 * ws.length
  | [], _ => by decide +kernel
  | [w], h => by rw [line_one]; have h1 : (qt w).length ≤ 10 := len_qt (b := w.2) (h w (.head _)); simp; omega
  | w :: v :: r, h => by
    rw [line_cons, len_app, len_app]
    have h1 := len_qt (b := w.2) (h w (.head _))
    have h2 := len_line (ws := v :: r) fun u hu => h u (.tail _ hu)
    have h3 : (Str.ofString " ").length = 1 := by decide +kernel
    simp only [List.length_cons] at h2 ⊢
    have h1' : (qt w).length ≤ 10 := h1
    omega
theorem okT_app {a b : Str} (ha : okT a) (hb : okT b) : okT (a ++ b) := fun c hc => by
  have e : (a ++ b).cps.toList = a.cps.toList ++ b.cps.toList := by
    have e1 : (a ++ b).cps = a.cps ++ b.cps := rfl
    rw [e1]; simp
  rw [e] at hc
  exact (List.mem_append.mp hc).elim (ha c) (hb c)
theorem ok_line : ∀ {ws : List (Int × Bool)}, (∀ w ∈ ws, inR w.1) → okT (line ws)
  | [], _ => okT_of (by decide +kernel)
  | [w], h => by rw [line_one]; exact ok_qt (b := w.2) (h w (.head _))
  | w :: v :: r, h => by
    rw [line_cons]
    exact okT_app (okT_app (ok_qt (b := w.2) (h w (.head _))) (okT_of (by decide +kernel))) (ok_line fun u hu => h u (.tail _ hu))
theorem line_app : ∀ {a b : List (Int × Bool)}, a ≠ [] → b ≠ [] → line (a ++ b) = line a ++ Str.ofString " " ++ line b
  | [], _, h, _ => absurd rfl h
  | [w], [], _, h => absurd rfl h
  | [w], v :: r, _, _ => by rw [line_one]; exact line_cons
  | w :: v :: r, b, _, hb => by
    show line (w :: v :: (r ++ b)) = _
    rw [line_cons, line_cons]
    have := line_app (a := v :: r) (b := b) (by simp) hb
    rw [show v :: (r ++ b) = (v :: r) ++ b from rfl, this]
    simp only [Str.append_assoc]
/-- lines joined are the line of all their words -/
theorem line_join : ∀ {ls : List (List (Int × Bool))} {q : Int × Bool}, (∀ l ∈ ls, l ≠ []) → Txt.join (Str.ofString " ") (ls.map line ++ [qt q]) = line (ls.flatten ++ [q])
  | [], q, _ => by simp [line_one, join1]
  | [l], q, h => by
    show Txt.join (Str.ofString " ") [line l, qt q] = _
    rw [join_cons, join1, ← line_one (w := q)]
    simp only [List.flatten_cons, List.flatten_nil, List.append_nil]
    exact (line_app (h l (.head _)) (by simp)).symm
  | l :: l2 :: r, q, h => by
    show Txt.join (Str.ofString " ") (line l :: line l2 :: (r.map line ++ [qt q])) = _
    rw [join_cons]
    have := line_join (ls := l2 :: r) (q := q) fun x hx => h x (.tail _ hx)
    rw [show line l2 :: (r.map line ++ [qt q]) = (l2 :: r).map line ++ [qt q] from rfl, this, ← line_app (h l (.head _)) (by simp)]
    simp

end
section -- LawTb
noncomputable abbrev ARow := (Int × Bool) × List (Int × Bool)
noncomputable def conc (a : ARow) : Str × Str := (txt a.1, line a.2)
noncomputable def GoodRow (a : ARow) : Prop := inR a.1.1 ∧ a.2 ≠ [] ∧ ∀ w ∈ a.2, inR w.1
noncomputable def GoodArr (a : Int × Int × Int) : Prop := inR a.1 ∧ inR a.2.1 ∧ (a.2.2 = 0 ∨ a.2.2 = 1)
noncomputable def nmOf (a : Int × Int × Int) : Int × Bool := (a.1, decide (a.2.2 = 1))
noncomputable def wdOf (a : Int × Int × Int) : Int × Bool := (a.2.1, decide (a.2.2 = 0))
noncomputable def wcnt (rows : List ARow) : Nat := (rows.map fun a => a.2.length).sum
noncomputable def astep (rows : List ARow) (k : Int) (a : Int × Int × Int) : List ARow :=
  if k.fmod 2 = 0 then rows ++ [(nmOf a, [wdOf a])]
  else rows.filter (fun r => !decide (r.1.1 = a.1)) ++ [(nmOf a, ((rows.filter fun r => decide (r.1.1 = a.1)).map (·.2)).flatten ++ [wdOf a])]
noncomputable def arun (k : Int) : List (Int × Int × Int) → List ARow → List ARow
  | [], rows => rows
  | a :: r, rows => arun (k + 1) r (astep rows k a)
theorem lower_conc {a : ARow} (h : GoodRow a) : Txt.lower (conc a).1 = plAt a.1.1 := lower_txt (b := a.1.2) h.1
theorem filt_eq {t : Int} {b : Bool} (ht : inR t) : ∀ {rows : List ARow}, (∀ a ∈ rows, GoodRow a) →
    ((rows.map conc).filter fun r => Txt.lower r.1 == Txt.lower (txt (t, b))) = (rows.filter fun r => decide (r.1.1 = t)).map conc
  | [], _ => rfl
  | a :: r, h => by
    have h1 := lower_conc (h a (.head _))
    have ih := filt_eq (b := b) ht (rows := r) fun x hx => h x (.tail _ hx)
    have e : (Txt.lower (conc a).1 == Txt.lower (txt (t, b))) = decide (a.1.1 = t) := by rw [h1, lower_txt ht, pl_inj (h a (.head _)).1 ht]
    rw [List.map_cons, List.filter_cons, List.filter_cons]
    cases hc : decide (a.1.1 = t)
    · simp only [e, hc, Bool.false_eq_true, if_false, ih]
    · simp only [e, hc, if_true, ih, List.map_cons]
theorem filt_ne {t : Int} {b : Bool} (ht : inR t) : ∀ {rows : List ARow}, (∀ a ∈ rows, GoodRow a) →
    ((rows.map conc).filter fun r => !(Txt.lower r.1 == Txt.lower (txt (t, b)))) = (rows.filter fun r => !decide (r.1.1 = t)).map conc
  | [], _ => rfl
  | a :: r, h => by
    have h1 := lower_conc (h a (.head _))
    have ih := filt_ne (b := b) ht (rows := r) fun x hx => h x (.tail _ hx)
    have e : (Txt.lower (conc a).1 == Txt.lower (txt (t, b))) = decide (a.1.1 = t) := by rw [h1, lower_txt ht, pl_inj (h a (.head _)).1 ht]
    rw [List.map_cons, List.filter_cons, List.filter_cons]
    cases hc : decide (a.1.1 = t)
    · simp only [e, hc, Bool.not_false, if_true, ih, List.map_cons]
    · simp only [e, hc, Bool.not_true, Bool.false_eq_true, if_false, ih]
theorem good_step {rows : List ARow} {k : Int} {a : Int × Int × Int} (h : ∀ r ∈ rows, GoodRow r) (ha : GoodArr a) : ∀ r ∈ astep rows k a, GoodRow r := by
  intro r hr
  unfold astep at hr
  split at hr
  · rcases List.mem_append.mp hr with hr | hr
    · exact h r hr
    · rw [List.mem_singleton] at hr
      subst hr
      exact ⟨ha.1, by simp, fun w hw => by rw [List.mem_singleton] at hw; subst hw; exact ha.2.1⟩
  · rcases List.mem_append.mp hr with hr | hr
    · exact h r (List.mem_filter.mp hr).1
    · rw [List.mem_singleton] at hr
      subst hr
      refine ⟨ha.1, by simp, fun w hw => ?_⟩
      rcases List.mem_append.mp hw with hw | hw
      · obtain ⟨l, hl, hw⟩ := List.mem_flatten.mp hw
        obtain ⟨x, hx, rfl⟩ := List.mem_map.mp hl
        exact (h x (List.mem_filter.mp hx).1).2.2 w hw
      · rw [List.mem_singleton] at hw; subst hw; exact ha.2.1
theorem sum_filter (p : ARow → Bool) : ∀ rows : List ARow, wcnt (rows.filter p) + wcnt (rows.filter fun r => !p r) = wcnt rows
  | [] => rfl
  | a :: r => by
    have ih := sum_filter p r
    unfold wcnt at *
    rw [List.filter_cons, List.filter_cons]
    cases p a <;> simp <;> omega
theorem flat_len : ∀ rows : List ARow, ((rows.map (·.2)).flatten).length = wcnt rows
  | [] => rfl
  | a :: r => by
    have ih := flat_len r
    unfold wcnt at *
    simp [ih]
theorem wcnt_app (a b : List ARow) : wcnt (a ++ b) = wcnt a + wcnt b := by simp [wcnt]
theorem cnt_step {rows : List ARow} {k : Int} {a : Int × Int × Int} : wcnt (astep rows k a) = wcnt rows + 1 := by
  unfold astep
  split
  · rw [wcnt_app]; rfl
  · have h1 := sum_filter (fun r => decide (r.1.1 = a.1)) rows
    have h2 := flat_len (rows.filter fun r => decide (r.1.1 = a.1))
    rw [wcnt_app]
    have h3 : wcnt [(nmOf a, ((rows.filter fun r => decide (r.1.1 = a.1)).map (·.2)).flatten ++ [wdOf a])] = wcnt (rows.filter fun r => decide (r.1.1 = a.1)) + 1 := by
      unfold wcnt at h2 ⊢
      simp only [List.map_cons, List.map_nil, List.sum_cons, List.sum_nil, List.length_append, List.length_singleton, Nat.add_zero]
      rw [h2]
    omega
theorem len_rows {rows : List ARow} (h : ∀ r ∈ rows, GoodRow r) : rows.length ≤ wcnt rows := by
  induction rows with
  | nil => exact Nat.le_refl _
  | cons a r ih =>
    have h1 := (h a (.head _)).2.1
    have h2 : 0 < a.2.length := List.length_pos_iff.mpr h1
    have h3 := ih fun x hx => h x (.tail _ hx)
    unfold wcnt at *
    simp only [List.length_cons, List.map_cons, List.sum_cons]
    omega
theorem joinOk_of {texts : List Str} (h : (texts.map (fun t => t.length + 1)).sum ≤ 100000) : JoinOk (Str.ofString " ") texts = true := by
  have e1 : (Str.ofString " ").length = 1 := by decide +kernel
  have key : ∀ (l : List Str) (n : Nat), l.foldl (fun acc t => acc + t.length + (Str.ofString " ").length) n = n + (l.map (fun t => t.length + 1)).sum := by
    intro l
    induction l with
    | nil => intro n; simp
    | cons a r ih => intro n; rw [List.foldl_cons, ih, e1]; simp only [List.map_cons, List.sum_cons]; omega
  unfold JoinOk Builtin.Str.tooLong
  have z : 100000 ≤ sizeLine := by decide
  rw [Bool.not_eq_true', decide_eq_false_iff_not, List.foldl_toArray]
  have := key texts 0
  omega
theorem sum_lines {rows : List ARow} (h : ∀ r ∈ rows, GoodRow r) : ((rows.map conc).map (fun r => r.2.length + 1)).sum ≤ 12 * wcnt rows := by
  induction rows with
  | nil => exact Nat.le_refl _
  | cons a r ih =>
    have h1 := len_line (ws := a.2) (h a (.head _)).2.2
    have h2 : 0 < a.2.length := List.length_pos_iff.mpr (h a (.head _)).2.1
    have h3 := ih fun x hx => h x (.tail _ hx)
    have h4 : (conc a).2.length ≤ 11 * a.2.length := h1
    unfold wcnt at *
    simp only [List.map_cons, List.sum_cons] at *
    omega
theorem ArrAt.at {led : List (Addr × Obj)} {a : Int × Int × Int} {as : List (Int × Int × Int)} {v : Array Value} {i : Nat} (h : ArrAt led (v.toList.drop i) (a :: as)) : ∃ b t1 t2 t3, v[i]? = some (.ref b) ∧ (b, tup3 (.int a.1 t1) (.int a.2.1 t2) (.int a.2.2 t3)) ∈ led ∧ ArrAt led (v.toList.drop (i + 1)) as := by
  cases hd : v.toList.drop i with
  | nil => rw [hd] at h; cases h
  | cons y ys =>
    rw [hd] at h
    cases h with
    | @cons b t1 t2 t3 _ _ _ _ _ h1 h2 =>
      refine ⟨b, t1, t2, t3, ?_, h1, ?_⟩
      · have : (v.toList.drop i)[0]? = some (.ref b) := by rw [hd]; rfl
        simpa using this
      · rw [show v.toList.drop (i + 1) = (v.toList.drop i).drop 1 by rw [List.drop_drop], hd]
        exact h2
noncomputable def PlAt (plv : Array Value) : Prop := ∀ i, inR i → ∃ tt, plv[i.toNat]? = some (.str (plAt i) tt)
section
variable {w : World} {p : Program} {loose : List Str} {mean : ExcName → Option Value} {mg mb : Str → Option Value} {A₀ : Around} {dp un : Nat} {gd : Option (List Code)} {outer : List Env} {base h₀ : Heap} {L : Addr}
theorem tb_loop {q1 : Stmt} {it : PySem.Expr} {nm0 : Str} {np0 : Pos} {bd rest : List Stmt} {wp0 : Pos} {A : Around} {env : Env}
    (hst : b921 = q1 :: Stmt.For (.Name nm0 np0) it bd [] wp0 :: rest)
    (henv : env = envOf (Str.ofString "_law_table") s921 L 921 (.ref 920))
    {I x dx l pl ar : Addr} {acc plv : Array Value} {nA np : Nat} {th : Tok} {Q : Flow → Shared → Prop} {E : Value → Shared → Prop} {s₀ : Shared}
    (B : Below A₀ base outer h₀) (X : (KF w.params).In h₀) (T : Top p loose mean mg mb h₀)
    (hA : A = ktrTop dp un gd (Str.ofString "_law_table") s921 L 921 (.ref 920) [] outer)
    (hd : dp + 20 < recursionLimit) (hu : un + 120 < cLine) (hE : PassesOwn (model P0 w) A env E) (hplv : PlAt plv) :
    ∀ (as : List (Int × Int × Int)) (h : Heap) (tk : Nat) {k left : Int} {its : Array Value} {n : Nat} {tl : List (Addr × Obj)} {v0 v1 v2 v3 v4 v5 : Option Value} {rows : List ARow},
    Fr h₀ L h (tbM v0 v1 v2 v3 v4 v5 (.ref x) (.ref pl) (.ref ar)) → News h₀ L h ((I, rgO k left 1) :: (l, W.listOf its n) :: (x, instObj 188 dx) :: (dx, hdD w.params th l) :: (pl, W.listOf plv np) :: (ar, W.listOf acc nA) :: tl) →
    (∀ q ∈ ((x, instObj 188 dx) :: (dx, hdD w.params th l) :: (pl, W.listOf plv np) :: (ar, W.listOf acc nA) :: tl), q.1 ≠ l) → (∀ q ∈ ((l, W.listOf its n) :: (x, instObj 188 dx) :: (dx, hdD w.params th l) :: (pl, W.listOf plv np) :: (ar, W.listOf acc nA) :: tl), q.1 ≠ I) →
    RowsAt tl its.toList (rows.map conc) → ArrAt tl (acc.toList.drop k.toNat) as → left = (as.length : Int) → 0 ≤ k → k + as.length ≤ 60 → (its.size : Int) ≤ k → (∀ r ∈ rows, GoodRow r) → (wcnt rows : Int) ≤ k → (∀ a ∈ as, GoodArr a) →
    (∀ h' tk' its' n' tl' u0 u1 u2 u3 u4 u5, Fr h₀ L h' (tbM u0 u1 u2 u3 u4 u5 (.ref x) (.ref pl) (.ref ar)) → News h₀ L h' ((l, W.listOf its' n') :: (x, instObj 188 dx) :: (dx, hdD w.params th l) :: (pl, W.listOf plv np) :: (ar, W.listOf acc nA) :: tl') →
      RowsAt tl' its'.toList ((arun k as rows).map conc) → (∀ r ∈ arun k as rows, GoodRow r) → wcnt (arun k as rows) ≤ 60 → its'.size ≤ 60 → (∀ q ∈ tl, q ∈ tl') → Q .next { s₀ with heap := h', toks := tk' }) →
    ForV P0 w A E env (.Name nm0 np0) bd Q (.ref I) { s₀ with heap := h, toks := tk } := by
  intro as
  induction as with
  | nil =>
    intro h tk k left its n tl v0 v1 v2 v3 v4 v5 rows F N hne hnI hr haa hl hk hkl hsz hg hw hga hQ
    refine for_endR (s := { s₀ with heap := h, toks := tk }) hE (by subst hA; rfl) F N hnI (by simp at hl; omega) fun h' F' N' => ?_
    exact hQ h' tk its n tl v0 v1 v2 v3 v4 v5 F' N' hr hg (by show wcnt rows ≤ 60; simp at hkl; omega) (by simp at hkl; omega) (fun _ q => q)
  | cons a as ih =>
    intro h tk k left its n tl v0 v1 v2 v3 v4 v5 rows F N hne hnI hr haa hl hk hkl hsz hg hw hga hQ
    obtain ⟨b, t1, t2, t3, hacc, ham, haa'⟩ := haa.at
    have ga := hga a (.head _)
    obtain ⟨tt, hpt⟩ := hplv a.1 ga.1
    obtain ⟨tw, hph⟩ := hplv a.2.1 ga.2.1
    simp only [List.length_cons] at hl hkl
    have hkn : k.toNat + 1 = (k + 1).toNat := by omega
    have lp : (plAt a.1).length < 30 := len_txt (b := false) ga.1
    have lh : (plAt a.2.1).length < 30 := len_txt (b := false) ga.2.1
    have hlr := len_rows hg
    have hsl := sum_lines hg
    -- what every way leaves
    have done : ∀ (nm : Int × Bool) (ws : List (Int × Bool)) h' tk' its' n' D t1' t2' u0 u1 u2 u3 u4 u5, Fr h₀ L h' (tbM u0 u1 u2 u3 u4 u5 (.ref x) (.ref pl) (.ref ar)) → News h₀ L h' ((I, rgO (k + 1) (left - 1) 1) :: (l, W.listOf its' n') :: (x, instObj 188 dx) :: (dx, hdD w.params th l) :: (pl, W.listOf plv np) :: (ar, W.listOf acc nA) :: (D, tupO (.str (txt nm) t1') (.str (line ws) t2') 0) :: tl) → its'.size ≤ its.size + 1 →
        RowsAt ((D, tupO (.str (txt nm) t1') (.str (line ws) t2') 0) :: tl) its'.toList ((astep rows k a).map conc) → @Ne Nat D l → @Ne Nat D I → ForV P0 w A E env (.Name nm0 np0) bd Q (.ref I) { s₀ with heap := h', toks := tk' } := by
      intro nm ws h' tk' its' n' D t1' t2' u0 u1 u2 u3 u4 u5 F' N' hz' hr' nl nI
      refine ih h' tk' F' N' ?_ ?_ hr' ?_ (by omega) (by omega) (by omega) (by omega) (good_step hg ga) (by rw [cnt_step]; push_cast; omega) (fun y hy => hga y (.tail _ hy)) ?_
      · intro q hq
        rcases List.mem_cons.mp hq with e | hq
        · rw [e]; exact hne _ (.head _)
        rcases List.mem_cons.mp hq with e | hq
        · rw [e]; exact hne _ (.tail _ (.head _))
        rcases List.mem_cons.mp hq with e | hq
        · rw [e]; exact hne _ (.tail _ (.tail _ (.head _)))
        rcases List.mem_cons.mp hq with e | hq
        · rw [e]; exact hne _ (.tail _ (.tail _ (.tail _ (.head _))))
        rcases List.mem_cons.mp hq with e | hq
        · rw [e]; exact nl
        · exact hne _ (.tail _ (.tail _ (.tail _ (.tail _ hq))))
      · intro q hq
        rcases List.mem_cons.mp hq with e | hq
        · rw [e]; exact (hnI (l, W.listOf its n) (.head _) : l ≠ I)
        rcases List.mem_cons.mp hq with e | hq
        · rw [e]; exact hnI _ (.tail _ (.head _))
        rcases List.mem_cons.mp hq with e | hq
        · rw [e]; exact hnI _ (.tail _ (.tail _ (.head _)))
        rcases List.mem_cons.mp hq with e | hq
        · rw [e]; exact hnI _ (.tail _ (.tail _ (.tail _ (.head _))))
        rcases List.mem_cons.mp hq with e | hq
        · rw [e]; exact hnI _ (.tail _ (.tail _ (.tail _ (.tail _ (.head _)))))
        rcases List.mem_cons.mp hq with e | hq
        · rw [e]; exact nI
        · exact hnI _ (.tail _ (.tail _ (.tail _ (.tail _ (.tail _ hq)))))
      · rw [← hkn]
        exact haa'.mono fun q hq => .tail _ hq
      · intro h2 tk2 its2 n2 tl2 w0 w1 w2 w3 w4 w5 F2 N2 r2 g2 c2 z2 s2
        exact hQ h2 tk2 its2 n2 tl2 w0 w1 w2 w3 w4 w5 F2 N2 r2 g2 c2 z2 fun q hq => s2 q (.tail _ hq)
    have hz9 : its.size ≤ 900 := by omega
    have hk9 : k < 100 := by omega
    have hl9 : 0 < left := by omega
    by_cases hpar : k.fmod 2 = 0
    · have hst' : astep rows k a = rows ++ [(nmOf a, [wdOf a])] := by unfold astep; rw [if_pos hpar]
      rcases ga.2.2 with hl0 | hl1
      · skip
        have E1 : txt (nmOf a) = (plAt a.1) := by unfold nmOf txt; rw [hl0]; rfl
        have Ew : wdOf a = (a.2.1, true) := by unfold wdOf; rw [hl0]; rfl
        have ham' : (b, tup3 (.int a.1 t1) (.int a.2.1 t2) (.int 0 t3)) ∈ tl := hl0 ▸ ham
        have hqi : QuoteIs (Txt.upper (plAt a.2.1)) (qt (a.2.1, true)) := qi_qt (b := true) ga.2.1
        have E2 : line [wdOf a] = (qt (a.2.1, true)) := by rw [line_one, Ew]
        have E3 : (astep rows k a).map conc = rows.map conc ++ [((plAt a.1), (qt (a.2.1, true)))] := by rw [hst', List.map_append]; show _ ++ [(txt (nmOf a), line [wdOf a])] = _; rw [E1, E2]
        exact tb_e0 (s := { s₀ with heap := h, toks := tk }) (Nx := fun s' => ForV P0 w A E env (.Name nm0 np0) bd Q (.ref I) s') hst henv B F X T N hA hne hnI ham' hr hd hu hE hz9 hk hk9 hl9 ga.1.1 ga.1.2 ga.2.1.1 ga.2.1.2 hacc hpt hph hpar lp (Nat.lt_trans (len_txt (b := false) ga.1) (by decide)) (Nat.lt_trans (len_txt (b := false) ga.1) (by decide)) lh (ok_txt (b := false) ga.1) hqi (ok_qt ga.2.1) (Nat.lt_of_le_of_lt (len_qt ga.2.1) (by decide)) (fun _ q => q) fun h' tk' its' n' D t1' t2' u0 u1 u2 u3 u4 u5 F' N' hz' hr' nl nI => done (nmOf a) [wdOf a] h' tk' its' n' D t1' t2' u0 u1 u2 u3 u4 u5 F' (by rw [E1, E2]; exact N') hz' (by rw [E1, E2, E3]; exact hr') nl nI
      · skip
        have E1 : txt (nmOf a) = (Txt.upper (plAt a.1)) := by unfold nmOf txt; rw [hl1]; rfl
        have Ew : wdOf a = (a.2.1, false) := by unfold wdOf; rw [hl1]; rfl
        have ham' : (b, tup3 (.int a.1 t1) (.int a.2.1 t2) (.int 1 t3)) ∈ tl := hl1 ▸ ham
        have hqi : QuoteIs (plAt a.2.1) (qt (a.2.1, false)) := qi_qt (b := false) ga.2.1
        have E2 : line [wdOf a] = (qt (a.2.1, false)) := by rw [line_one, Ew]
        have E3 : (astep rows k a).map conc = rows.map conc ++ [((Txt.upper (plAt a.1)), (qt (a.2.1, false)))] := by rw [hst', List.map_append]; show _ ++ [(txt (nmOf a), line [wdOf a])] = _; rw [E1, E2]
        exact tb_e1 (s := { s₀ with heap := h, toks := tk }) (Nx := fun s' => ForV P0 w A E env (.Name nm0 np0) bd Q (.ref I) s') hst henv B F X T N hA hne hnI ham' hr hd hu hE hz9 hk hk9 hl9 ga.1.1 ga.1.2 ga.2.1.1 ga.2.1.2 hacc hpt hph hpar lp (Nat.lt_trans (len_txt (b := true) ga.1) (by decide)) (Nat.lt_trans (len_txt (b := true) ga.1) (by decide)) lh (ok_txt (b := true) ga.1) hqi (ok_qt ga.2.1) (Nat.lt_of_le_of_lt (len_qt ga.2.1) (by decide)) (fun _ q => q) fun h' tk' its' n' D t1' t2' u0 u1 u2 u3 u4 u5 F' N' hz' hr' nl nI => done (nmOf a) [wdOf a] h' tk' its' n' D t1' t2' u0 u1 u2 u3 u4 u5 F' (by rw [E1, E2]; exact N') hz' (by rw [E1, E2, E3]; exact hr') nl nI
    · have hst' : astep rows k a = rows.filter (fun r => !decide (r.1.1 = a.1)) ++ [(nmOf a, ((rows.filter fun r => decide (r.1.1 = a.1)).map (·.2)).flatten ++ [wdOf a])] := by unfold astep; rw [if_neg hpar]
      have gf : ∀ r ∈ rows.filter (fun r => decide (r.1.1 = a.1)), GoodRow r := fun r hr => hg r (List.mem_filter.mp hr).1
      have fw : wcnt (rows.filter fun r => decide (r.1.1 = a.1)) ≤ wcnt rows := by have := sum_filter (fun r => decide (r.1.1 = a.1)) rows; omega
      have fl := flat_len (rows.filter fun r => decide (r.1.1 = a.1))
      have fr := len_rows gf
      have fs := sum_lines gf
      have hwl : ∀ w ∈ (((rows.filter fun r => decide (r.1.1 = a.1)).map (·.2)).flatten ++ [wdOf a]), inR w.1 := by
        have := (good_step (k := k) hg ga (nmOf a, ((rows.filter fun r => decide (r.1.1 = a.1)).map (·.2)).flatten ++ [wdOf a]) (by rw [hst']; simp)).2.2
        exact this
      have hvo := ok_line hwl
      have hvl := len_line hwl
      rw [List.length_append, List.length_singleton, fl] at hvl
      rcases ga.2.2 with hl0 | hl1
      · skip
        have E1 : txt (nmOf a) = (plAt a.1) := by unfold nmOf txt; rw [hl0]; rfl
        have Ew : wdOf a = (a.2.1, true) := by unfold wdOf; rw [hl0]; rfl
        have ham' : (b, tup3 (.int a.1 t1) (.int a.2.1 t2) (.int 0 t3)) ∈ tl := hl0 ▸ ham
        have hqi : QuoteIs (Txt.upper (plAt a.2.1)) (qt (a.2.1, true)) := qi_qt (b := true) ga.2.1
        have E5 : (plAt a.1) = txt (a.1, false) := rfl
        have f1 := filt_eq (b := false) ga.1 hg
        have f2 := filt_ne (b := false) ga.1 hg
        have f3 : ((rows.map conc).filter fun r => Txt.lower r.1 == Txt.lower (plAt a.1)).map (·.2) = ((rows.filter fun r => decide (r.1.1 = a.1)).map (·.2)).map line := by rw [E5, f1]; simp only [List.map_map]; rfl
        have E2 : line (((rows.filter fun r => decide (r.1.1 = a.1)).map (·.2)).flatten ++ [wdOf a]) = Txt.join (Str.ofString " ") (((rows.map conc).filter fun r => Txt.lower r.1 == Txt.lower (plAt a.1)).map (·.2) ++ [(qt (a.2.1, true))]) := by
          rw [f3, Ew]
          exact (line_join fun l hl => by obtain ⟨x, hx, rfl⟩ := List.mem_map.mp hl; exact (gf x hx).2.1).symm
        have E3 : (astep rows k a).map conc = ((rows.map conc).filter fun r => !(Txt.lower r.1 == Txt.lower (plAt a.1))) ++ [((plAt a.1), Txt.join (Str.ofString " ") (((rows.map conc).filter fun r => Txt.lower r.1 == Txt.lower (plAt a.1)).map (·.2) ++ [(qt (a.2.1, true))]))] := by
          rw [hst', List.map_append, ← E2, E5, f2]
          show _ ++ [(txt (nmOf a), _)] = _
          rw [E1]
          rfl
        have hjo : JoinOk (Str.ofString " ") (((rows.map conc).filter fun r => Txt.lower r.1 == Txt.lower (plAt a.1)).map (·.2) ++ [(qt (a.2.1, true))]) = true := by
          refine joinOk_of ?_
          rw [f3]
          have q1 := len_qt (b := true) ga.2.1
          simp only [List.map_append, List.map_map, List.map_cons, List.map_nil, List.sum_append, List.sum_cons, List.sum_nil] at fs ⊢
          have q2 : ((rows.filter fun r => decide (r.1.1 = a.1)).map ((fun t => t.length + 1) ∘ line ∘ fun x => x.2)).sum ≤ 12 * wcnt (rows.filter fun r => decide (r.1.1 = a.1)) := fs
          omega
        have hfl : (((rows.map conc).filter fun r => Txt.lower r.1 == Txt.lower (plAt a.1)).map (·.2)).length ≤ 900 := by rw [f3]; simp only [List.length_map]; omega
        rw [E2] at hvo hvl
        exact tb_o0 (s := { s₀ with heap := h, toks := tk }) (Nx := fun s' => ForV P0 w A E env (.Name nm0 np0) bd Q (.ref I) s') hst henv B F X T N hA hne hnI ham' hr hd hu hE hz9 hk hk9 hl9 ga.1.1 ga.1.2 ga.2.1.1 ga.2.1.2 hacc hpt hph hpar lp (Nat.lt_trans (len_txt (b := false) ga.1) (by decide)) (Nat.lt_trans (len_txt (b := false) ga.1) (by decide)) lh (ok_txt (b := false) ga.1) hqi (ok_qt ga.2.1) (Nat.lt_of_le_of_lt (len_qt ga.2.1) (by decide)) (by rw [E5, lower_txt ga.1]; exact ok_pl ga.1) (by rw [E5, lower_txt ga.1]; exact Nat.lt_trans lp (by decide)) hvo (by omega) hjo hfl (fun _ q => q) fun h' tk' its' n' D t1' t2' u0 u1 u2 u3 u4 u5 F' N' hz' hr' nl nI => done (nmOf a) _ h' tk' its' n' D t1' t2' u0 u1 u2 u3 u4 u5 F' (by rw [E1, E2]; exact N') hz' (by rw [E1, E2, E3]; exact hr') nl nI
      · skip
        have E1 : txt (nmOf a) = (Txt.upper (plAt a.1)) := by unfold nmOf txt; rw [hl1]; rfl
        have Ew : wdOf a = (a.2.1, false) := by unfold wdOf; rw [hl1]; rfl
        have ham' : (b, tup3 (.int a.1 t1) (.int a.2.1 t2) (.int 1 t3)) ∈ tl := hl1 ▸ ham
        have hqi : QuoteIs (plAt a.2.1) (qt (a.2.1, false)) := qi_qt (b := false) ga.2.1
        have E5 : (Txt.upper (plAt a.1)) = txt (a.1, true) := rfl
        have f1 := filt_eq (b := true) ga.1 hg
        have f2 := filt_ne (b := true) ga.1 hg
        have f3 : ((rows.map conc).filter fun r => Txt.lower r.1 == Txt.lower (Txt.upper (plAt a.1))).map (·.2) = ((rows.filter fun r => decide (r.1.1 = a.1)).map (·.2)).map line := by rw [E5, f1]; simp only [List.map_map]; rfl
        have E2 : line (((rows.filter fun r => decide (r.1.1 = a.1)).map (·.2)).flatten ++ [wdOf a]) = Txt.join (Str.ofString " ") (((rows.map conc).filter fun r => Txt.lower r.1 == Txt.lower (Txt.upper (plAt a.1))).map (·.2) ++ [(qt (a.2.1, false))]) := by
          rw [f3, Ew]
          exact (line_join fun l hl => by obtain ⟨x, hx, rfl⟩ := List.mem_map.mp hl; exact (gf x hx).2.1).symm
        have E3 : (astep rows k a).map conc = ((rows.map conc).filter fun r => !(Txt.lower r.1 == Txt.lower (Txt.upper (plAt a.1)))) ++ [((Txt.upper (plAt a.1)), Txt.join (Str.ofString " ") (((rows.map conc).filter fun r => Txt.lower r.1 == Txt.lower (Txt.upper (plAt a.1))).map (·.2) ++ [(qt (a.2.1, false))]))] := by
          rw [hst', List.map_append, ← E2, E5, f2]
          show _ ++ [(txt (nmOf a), _)] = _
          rw [E1]
          rfl
        have hjo : JoinOk (Str.ofString " ") (((rows.map conc).filter fun r => Txt.lower r.1 == Txt.lower (Txt.upper (plAt a.1))).map (·.2) ++ [(qt (a.2.1, false))]) = true := by
          refine joinOk_of ?_
          rw [f3]
          have q1 := len_qt (b := false) ga.2.1
          simp only [List.map_append, List.map_map, List.map_cons, List.map_nil, List.sum_append, List.sum_cons, List.sum_nil] at fs ⊢
          have q2 : ((rows.filter fun r => decide (r.1.1 = a.1)).map ((fun t => t.length + 1) ∘ line ∘ fun x => x.2)).sum ≤ 12 * wcnt (rows.filter fun r => decide (r.1.1 = a.1)) := fs
          omega
        have hfl : (((rows.map conc).filter fun r => Txt.lower r.1 == Txt.lower (Txt.upper (plAt a.1))).map (·.2)).length ≤ 900 := by rw [f3]; simp only [List.length_map]; omega
        rw [E2] at hvo hvl
        exact tb_o1 (s := { s₀ with heap := h, toks := tk }) (Nx := fun s' => ForV P0 w A E env (.Name nm0 np0) bd Q (.ref I) s') hst henv B F X T N hA hne hnI ham' hr hd hu hE hz9 hk hk9 hl9 ga.1.1 ga.1.2 ga.2.1.1 ga.2.1.2 hacc hpt hph hpar lp (Nat.lt_trans (len_txt (b := true) ga.1) (by decide)) (Nat.lt_trans (len_txt (b := true) ga.1) (by decide)) lh (ok_txt (b := true) ga.1) hqi (ok_qt ga.2.1) (Nat.lt_of_le_of_lt (len_qt ga.2.1) (by decide)) (by rw [E5, lower_txt ga.1]; exact ok_pl ga.1) (by rw [E5, lower_txt ga.1]; exact Nat.lt_trans lp (by decide)) hvo (by omega) hjo hfl (fun _ q => q) fun h' tk' its' n' D t1' t2' u0 u1 u2 u3 u4 u5 F' N' hz' hr' nl nI => done (nmOf a) _ h' tk' its' n' D t1' t2' u0 u1 u2 u3 u4 u5 F' (by rw [E1, E2]; exact N') hz' (by rw [E1, E2, E3]; exact hr') nl nI
end

end
section -- LawTc
theorem row123 : True := by (k_with_none; trivial)
theorem row124 : True := by ((k_with "MINE enter" => ((k_dflt (refine' enterM ?k1 ?k2 ?k3 ?k4 ?k5 ?kA ?kF ?kK ?k6 ?k7 ?k8 ?k9 ?kB ?_ ?c2 ?c3 ?c4 ?c5; (case kA => first | assumption | exact rfl); (case kF => first | assumption | exact rfl); (case kK => first | assumption | exact rfl); (case k1 => k_asm); (case k2 => k_asm); (case k3 => k_asm); (case k4 => assumption); (case k5 => k_asm); (case k6 => k_is); (case k7 => k_is); (case k8 => ktr_room); (case k9 => first | exact BindsTo.of_eq rfl | exact binds_K (by k_in) rfl (by k_is) rfl rfl rfl | exact kp_binds (by k_in) (fun _ => rfl) | fail "k_enter: no rule for these arguments"); (case c5 => decide); (case kB => exact locs rfl); (case c2 => exact rfl); (case c3 => exact rfl); (case c4 => exact rfl); k_whole; intro zkg' zkL' zkh' zkgk' zkFG' zkF' zkN' zkB' zkX' zkT' zkl1; (try k_lt zkl1); (try dsimp only); (try k_lift zkB'); (try k_fold))))); trivial)
theorem fill_ltc : (PySem.Challenge.rw_of0118_01.name = PySem.Challenge.rw_of0118_01.name) → (∀ P, KF P = KF P) := by
  k_fill
  intro _ _; rfl
theorem tbM_init {c0 c1 c2 : Value} : (fun y => if y = Str.ofString "table" then some c0 else List.lookup y [(Str.ofString "arrows", c2), (Str.ofString "places", c1)]) = tbM none none none none none none c0 c1 c2 := by
  funext y
  have z0 : ¬ (Str.ofString "table" = Str.ofString "k") := by decide +kernel
  have z1 : ¬ (Str.ofString "table" = Str.ofString "tail") := by decide +kernel
  have z2 : ¬ (Str.ofString "table" = Str.ofString "head") := by decide +kernel
  have z3 : ¬ (Str.ofString "table" = Str.ofString "loud") := by decide +kernel
  have z4 : ¬ (Str.ofString "table" = Str.ofString "name") := by decide +kernel
  have z5 : ¬ (Str.ofString "table" = Str.ofString "word") := by decide +kernel
  have z6 : ¬ (Str.ofString "arrows" = Str.ofString "k") := by decide +kernel
  have z7 : ¬ (Str.ofString "arrows" = Str.ofString "tail") := by decide +kernel
  have z8 : ¬ (Str.ofString "arrows" = Str.ofString "head") := by decide +kernel
  have z9 : ¬ (Str.ofString "arrows" = Str.ofString "loud") := by decide +kernel
  have z10 : ¬ (Str.ofString "arrows" = Str.ofString "name") := by decide +kernel
  have z11 : ¬ (Str.ofString "arrows" = Str.ofString "word") := by decide +kernel
  have z12 : ¬ (Str.ofString "arrows" = Str.ofString "table") := by decide +kernel
  have z13 : ¬ (Str.ofString "arrows" = Str.ofString "places") := by decide +kernel
  have z14 : ¬ (Str.ofString "places" = Str.ofString "k") := by decide +kernel
  have z15 : ¬ (Str.ofString "places" = Str.ofString "tail") := by decide +kernel
  have z16 : ¬ (Str.ofString "places" = Str.ofString "head") := by decide +kernel
  have z17 : ¬ (Str.ofString "places" = Str.ofString "loud") := by decide +kernel
  have z18 : ¬ (Str.ofString "places" = Str.ofString "name") := by decide +kernel
  have z19 : ¬ (Str.ofString "places" = Str.ofString "word") := by decide +kernel
  have z20 : ¬ (Str.ofString "places" = Str.ofString "table") := by decide +kernel
  have z21 : (Str.ofString "places" == Str.ofString "arrows") = false := by decide +kernel
  by_cases h0 : y = Str.ofString "table"
  · subst h0; simp [tbM, List.lookup_cons, z0, z1, z2, z3, z4, z5, z6, z7, z8, z9, z10, z11, z12, z13, z14, z15, z16, z17, z18, z19, z20, z21]
  · skip
    by_cases h1 : y = Str.ofString "arrows"
    · subst h1; simp [tbM, List.lookup_cons, z0, z1, z2, z3, z4, z5, z6, z7, z8, z9, z10, z11, z12, z13, z14, z15, z16, z17, z18, z19, z20, z21, h0]
    · have e1 : (y == Str.ofString "arrows") = false := by rw [beq_eq_false_iff_ne]; exact h1
      skip
      by_cases h2 : y = Str.ofString "places"
      · subst h2; simp [tbM, List.lookup_cons, z0, z1, z2, z3, z4, z5, z6, z7, z8, z9, z10, z11, z12, z13, z14, z15, z16, z17, z18, z19, z20, z21, h0, h1, e1]
      · have e2 : (y == Str.ofString "places") = false := by rw [beq_eq_false_iff_ne]; exact h2
        simp [tbM, List.lookup_cons, h0, h1, e1, h2, e2]
theorem News.sub3 {h₀ h : Heap} {L : Addr} {a b c d e : Addr × Obj} {l : List (Addr × Obj)} (N : News h₀ L h (a :: b :: c :: d :: e :: l)) : News h₀ L h (a :: b :: c :: l) := fun q hq => N q (by
  simp only [List.mem_cons] at hq ⊢
  rcases hq with h | h | h | h <;> simp [h])
section
variable {w : World} {p : Program} {loose : List Str} {mean : ExcName → Option Value} {mg mb : Str → Option Value} {A₀ : Around} {dp un : Nat} {gd : Option (List Code)} {cn : Str} {cs : Scope} {ca : Addr} {ccd : Value} {cl : List (Str × Addr)} {outer : List Env} {base h₀ : Heap} {L : Addr} {m : Str → Option Value} {s : Shared} {news : List (Addr × Obj)} {R : Result → Shared → Prop}
theorem row125 : True := by ((k_with "call ref" => ((k_here; (k_dflt show wpAny _ _ (call (Value.ref 188) []) _ _ _); k_dflt (refine wpAny_call ?_; refine' hd_make ?r1 ?r2 ?r3 ?r4 ?r5 ?r6 ?r7 ?r8 ?_; (case r1 => k_asm); (case r2 => k_asm); (case r3 => k_asm); (case r4 => assumption); (case r5 => k_asm); (case r6 => exact rfl); (case r7 => ktr_room); (case r8 => ktr_units); k_whole); intro zkx' zkdx' zkh' zktk' zkl' zkth' zkF' zkN' zkn1' zkn2' zkn3'; (try dsimp only at zkN'); (try k_sweep)))); trivial)
theorem row126 : True := by ((k_with "exec For Name Call cons nil" => ((k_here; k_dflt (refine for_begin ?_)))); trivial)
theorem row127 : True := by ((k_with "exec For" => ((k_here; k_dflt (refine for_begin ?_)))); trivial)
theorem row128 : True := by ((k_with "pyIter ref" => ((k_here; (with_reducible show wpAny _ _ (pyIter (Value.ref _)) (fun it s₂ => ForV _ _ _ _ _ _ _ _ it s₂) _ _); k_dflt (refine' for_iterQ ?F ?N ?l ?h0 ?h1 ?h2 ?_; (case F => k_asm); (case N => assumption); (case l => assumption); (case h0 => omega); (case h1 => omega); (case h2 => omega)); intro zkI' zkh' zkF' zkN' zkl1; (try k_sweep)))); trivial)
theorem table_c {pl ar : Addr} {plv acc : Array Value} {np nA : Nat} {as : List (Int × Int × Int)}
    (B : Below A₀ base outer h₀) (F : Fr h₀ L s.heap m) (X : (KF w.params).In h₀) (N : News h₀ L s.heap news) (T : Top p loose mean mg mb h₀) (hke : cs.kind = .function)
    (hpl : (pl, W.listOf plv np) ∈ news) (har : (ar, W.listOf acc nA) ∈ news) (hplv : PlAt plv) (ha : ArrAt news acc.toList as) (hz : acc.size = as.length) (hz2 : as.length ≤ 60) (hga : ∀ a ∈ as, GoodArr a)
    (hd : dp + 24 < recursionLimit) (hu : un + 140 < cLine)
    (hret : ∀ h' tk' x dx l its n th tl, Fr h₀ L h' m → News h₀ L h' ((l, W.listOf its n) :: (x, instObj 188 dx) :: (dx, hdD w.params th l) :: tl) → RowsAt tl its.toList ((arun 0 as []).map conc) → (∀ r ∈ arun 0 as [], GoodRow r) → wcnt (arun 0 as []) ≤ 60 → its.size ≤ 60 → (∀ q ∈ news, q ∈ tl) → R (.ok (.ret (.ref x))) { s with heap := h', toks := tk' }) :
    codeAny (model P0 w) (ktrTop dp un gd cn cs L ca ccd cl outer) (.call (.ref 921) ⟨[.ref pl, .ref ar], []⟩) R s := by
  w_on
  have Nm : News h₀ L s.heap ((pl, W.listOf plv np) :: (ar, W.listOf acc nA) :: news) := fun q hq => by
    simp only [List.mem_cons] at hq
    rcases hq with e | e | e
    · rw [e]; exact N _ hpl
    · rw [e]; exact N _ har
    · exact N q e
  clear N
  have hz3 : (acc.size : Int) < 100 := by omega
  have hz4 : acc.size ≤ 100 := by omega
  have ha' : ArrAt news (acc.toList.drop (Int.toNat 0)) as := ha
  walk_at "MINE enter"
  k_steps
  refine' tb_loop (rows := []) rfl rfl ?wB ?wX ?wT rfl ?hd ?hu ?hE hplv as _ _ (Fr.cong tbM_init ?wF) ?wN ?f1 ?f2 .nil ha' ?wl (by decide) (by omega) (by decide) (fun _ h => nomatch h) (by decide) hga ?_
  case wF => assumption
  case wN => assumption
  case wB => assumption
  case wX => assumption
  case wT => assumption
  case hd => ktr_room
  case hu => ktr_units
  case hE => first | passes_own | with_unfolding_all passes_own
  case f1 =>
    intro q hq
    simp only [List.mem_cons] at hq
    rcases hq with e | e | e
    · rw [e]; assumption
    · rw [e]; assumption
    · exact (by assumption : ∀ q ∈ (pl, W.listOf plv np) :: (ar, W.listOf acc nA) :: news, q.1 ≠ _) q (by simpa using e)
  case f2 => exact fun q hq => Nat.ne_of_lt ((by assumption : ∀ p ∈ (_, W.listOf #[] 0) :: _, p.1 < _) q hq)
  case wl => omega
  intro h9 tk9 its9 n9 tl9 u0 u1 u2 u3 u4 u5 F9 N9 r9 g9 c9 z9 s9
  k_steps
  refine' hret _ _ _ _ _ _ _ _ _ ?wF9 (News.sub3 ?wN9) r9 g9 c9 z9 s9
  case wF9 => assumption
  case wN9 => assumption
end

end
section -- RndA
theorem row129 : True := by (k_with_none; trivial)
local macro_rules | `(tactic| k_all) => `(tactic| with_reducible assumption)
theorem row130 : True := by ((k_with "call builtin:list.append" => ((k_here; (try dsimp only [List.cons_append, List.nil_append]); k_dflt (refine' append_K ?k1 ?k2 ?k3 ?_ ?z; (case k1 => k_asm); (case k2 => k_asm); (case k3 => k_upd); (case z => size_fits); k_whole); intro zkh' zkF' zkN'; (try k_sweep)))); trivial)
theorem fill_rna : (PySem.Challenge.rw_of0118_01.name = PySem.Challenge.rw_of0118_01.name) → (∀ P, KF P = KF P) := by
  k_fill
  intro _ _; rfl
noncomputable abbrev rdM (v0 v1 v2 v3 v4 v5 v6 : Option Value) (c0 c1 c2 : Value) : Str → Option Value := fun y => if y = Str.ofString "found" then v0 else if y = Str.ofString "name" then v1 else if y = Str.ofString "line" then v2 else if y = Str.ofString "word" then v3 else if y = Str.ofString "idle" then v4 else if y = Str.ofString "fresh" then v5 else if y = Str.ofString "known" then v6 else if y = Str.ofString "table" then some c0 else if y = Str.ofString "start" then some c1 else if y = Str.ofString "told" then some c2 else none
theorem rdM_found {v0 v1 v2 v3 v4 v5 v6 : Option Value} {u c0 c1 c2 : Value} (y : Str) : (if y = Str.ofString "found" then some u else rdM v0 v1 v2 v3 v4 v5 v6 c0 c1 c2 y) = rdM (some u) v1 v2 v3 v4 v5 v6 c0 c1 c2 y := by
  by_cases h : y = Str.ofString "found"
  · subst h; simp [rdM]
  · simp [rdM, h]
theorem rdn_1_0 : ¬ (Str.ofString "name" = Str.ofString "found") := by decide +kernel
theorem rdM_name {v0 v1 v2 v3 v4 v5 v6 : Option Value} {u c0 c1 c2 : Value} (y : Str) : (if y = Str.ofString "name" then some u else rdM v0 v1 v2 v3 v4 v5 v6 c0 c1 c2 y) = rdM v0 (some u) v2 v3 v4 v5 v6 c0 c1 c2 y := by
  by_cases h : y = Str.ofString "name"
  · subst h; simp [rdM, rdn_1_0]
  · simp [rdM, h]
theorem rdn_2_0 : ¬ (Str.ofString "line" = Str.ofString "found") := by decide +kernel
theorem rdn_2_1 : ¬ (Str.ofString "line" = Str.ofString "name") := by decide +kernel
theorem rdM_line {v0 v1 v2 v3 v4 v5 v6 : Option Value} {u c0 c1 c2 : Value} (y : Str) : (if y = Str.ofString "line" then some u else rdM v0 v1 v2 v3 v4 v5 v6 c0 c1 c2 y) = rdM v0 v1 (some u) v3 v4 v5 v6 c0 c1 c2 y := by
  by_cases h : y = Str.ofString "line"
  · subst h; simp [rdM, rdn_2_0, rdn_2_1]
  · simp [rdM, h]
theorem rdn_3_0 : ¬ (Str.ofString "word" = Str.ofString "found") := by decide +kernel
theorem rdn_3_1 : ¬ (Str.ofString "word" = Str.ofString "name") := by decide +kernel
theorem rdn_3_2 : ¬ (Str.ofString "word" = Str.ofString "line") := by decide +kernel
theorem rdM_word {v0 v1 v2 v3 v4 v5 v6 : Option Value} {u c0 c1 c2 : Value} (y : Str) : (if y = Str.ofString "word" then some u else rdM v0 v1 v2 v3 v4 v5 v6 c0 c1 c2 y) = rdM v0 v1 v2 (some u) v4 v5 v6 c0 c1 c2 y := by
  by_cases h : y = Str.ofString "word"
  · subst h; simp [rdM, rdn_3_0, rdn_3_1, rdn_3_2]
  · simp [rdM, h]
theorem rdn_4_0 : ¬ (Str.ofString "idle" = Str.ofString "found") := by decide +kernel
theorem rdn_4_1 : ¬ (Str.ofString "idle" = Str.ofString "name") := by decide +kernel
theorem rdn_4_2 : ¬ (Str.ofString "idle" = Str.ofString "line") := by decide +kernel
theorem rdn_4_3 : ¬ (Str.ofString "idle" = Str.ofString "word") := by decide +kernel
theorem rdM_idle {v0 v1 v2 v3 v4 v5 v6 : Option Value} {u c0 c1 c2 : Value} (y : Str) : (if y = Str.ofString "idle" then some u else rdM v0 v1 v2 v3 v4 v5 v6 c0 c1 c2 y) = rdM v0 v1 v2 v3 (some u) v5 v6 c0 c1 c2 y := by
  by_cases h : y = Str.ofString "idle"
  · subst h; simp [rdM, rdn_4_0, rdn_4_1, rdn_4_2, rdn_4_3]
  · simp [rdM, h]
theorem rdn_5_0 : ¬ (Str.ofString "fresh" = Str.ofString "found") := by decide +kernel
theorem rdn_5_1 : ¬ (Str.ofString "fresh" = Str.ofString "name") := by decide +kernel
theorem rdn_5_2 : ¬ (Str.ofString "fresh" = Str.ofString "line") := by decide +kernel
theorem rdn_5_3 : ¬ (Str.ofString "fresh" = Str.ofString "word") := by decide +kernel
theorem rdn_5_4 : ¬ (Str.ofString "fresh" = Str.ofString "idle") := by decide +kernel
theorem rdM_fresh {v0 v1 v2 v3 v4 v5 v6 : Option Value} {u c0 c1 c2 : Value} (y : Str) : (if y = Str.ofString "fresh" then some u else rdM v0 v1 v2 v3 v4 v5 v6 c0 c1 c2 y) = rdM v0 v1 v2 v3 v4 (some u) v6 c0 c1 c2 y := by
  by_cases h : y = Str.ofString "fresh"
  · subst h; simp [rdM, rdn_5_0, rdn_5_1, rdn_5_2, rdn_5_3, rdn_5_4]
  · simp [rdM, h]
theorem rdn_6_0 : ¬ (Str.ofString "known" = Str.ofString "found") := by decide +kernel
theorem rdn_6_1 : ¬ (Str.ofString "known" = Str.ofString "name") := by decide +kernel
theorem rdn_6_2 : ¬ (Str.ofString "known" = Str.ofString "line") := by decide +kernel
theorem rdn_6_3 : ¬ (Str.ofString "known" = Str.ofString "word") := by decide +kernel
theorem rdn_6_4 : ¬ (Str.ofString "known" = Str.ofString "idle") := by decide +kernel
theorem rdn_6_5 : ¬ (Str.ofString "known" = Str.ofString "fresh") := by decide +kernel
theorem rdM_known {v0 v1 v2 v3 v4 v5 v6 : Option Value} {u c0 c1 c2 : Value} (y : Str) : (if y = Str.ofString "known" then some u else rdM v0 v1 v2 v3 v4 v5 v6 c0 c1 c2 y) = rdM v0 v1 v2 v3 v4 v5 (some u) c0 c1 c2 y := by
  by_cases h : y = Str.ofString "known"
  · subst h; simp [rdM, rdn_6_0, rdn_6_1, rdn_6_2, rdn_6_3, rdn_6_4, rdn_6_5]
  · simp [rdM, h]

noncomputable def addW (fs : List Str) (x : Str) : List Str := if fs.any (· == Txt.lower x) then fs else fs ++ [Txt.lower x]
theorem StrsOf.are : ∀ {ws : List Str} {vs : List Value}, StrsOf ws vs → StrsAre vs ws := fun h => by
  induction h with
  | nil => exact .nil
  | cons e _ ih => obtain ⟨t, e⟩ := e; rw [e]; exact .cons _ t ih
theorem StrsOf.snoc : ∀ {ws : List Str} {vs : List Value} {x : Str} {t : Tok}, StrsOf ws vs → StrsOf (ws ++ [x]) (vs ++ [.str x t]) := fun {ws vs x t} h => by
  induction h with
  | nil => exact .cons ⟨t, rfl⟩ .nil
  | cons e _ ih => exact .cons e ih
theorem notinB {prog : Program} {w : World} {A : Around} {E : Value → Shared → Prop} {s : Shared} {l : Addr} {fv : Array Value} {ys : List Str} {k : Str} {t : Tok} {b : Bool} {Q : Value → Shared → Prop} (hl : s.heap.IsList l fv) (hi : StrsOf ys fv.toList)
    (hb : (!(ys.any (· == k))) = b) (h : Q (.bool b) s) : wpAny (model prog w) A (compareOp .NotIn (.str k t) (.ref l)) Q E s :=
  notin_list_strs (vs := fv.toList) hl (StrsOf.are hi) (by rw [hb]; exact h)
section
variable {w : World} {p : Program} {loose : List Str} {mean : ExcName → Option Value} {mg mb : Str → Option Value} {A₀ : Around} {dp un : Nat} {gd : Option (List Code)} {outer : List Env} {base h₀ : Heap} {L : Addr} {s : Shared}
theorem row131 : True := by ((k_with "compareOp NotIn str ref" => ((k_here; k_dflt (refine' notinB ?k1 ?k2 ?k3 ?_; (case k1 => exact News.isList (by k_asm) (by news_mem)); (case k2 => assumption); (case k3 => assumption); k_whole)))); trivial)
theorem row132 : True := by ((k_with "compareOp NotIn" => ((k_here; k_dflt (refine' notinB ?k1 ?k2 ?k3 ?_; (case k1 => exact News.isList (by k_asm) (by news_mem)); (case k2 => assumption); (case k3 => assumption); k_whole)))); trivial)
theorem w3_turn {q1 q2 q3 w1 : Stmt} {t it1 it2 it3 tg1 tg2 tg3 : PySem.Expr} {bd wrest rest : List Stmt} {wp p1 p2 p3 : Pos} {A : Around} {env : Env}
    (hst : b928 = q1 :: q2 :: q3 :: Stmt.While t (w1 :: Stmt.For tg1 it1 [Stmt.For tg2 it2 [Stmt.For tg3 it3 bd [] p3] [] p2] [] p1 :: wrest) [] wp :: rest)
    (henv : env = envOf (Str.ofString "_law_rounds") s928 L 928 (.ref 927))
    {I fo S : Addr} {oI : Obj} {i : Nat} {sv fv : Array Value} {ns nf : Nat} {tl : List (Addr × Obj)} {v1 v2 v3 v4 v5 v6 : Option Value} {c0 c1 c2 : Value} {x : Str} {tx : Tok} {fs : List Str} {Q : Flow → Shared → Prop} {E : Value → Shared → Prop} {Nx : Shared → Prop}
    (B : Below A₀ base outer h₀) (F : Fr h₀ L s.heap (rdM (some (.ref fo)) v1 v2 v3 v4 v5 v6 c0 c1 c2)) (X : (KF w.params).In h₀) (T : Top p loose mean mg mb h₀)
    (N : News h₀ L s.heap ((I, oI) :: (fo, W.listOf fv nf) :: (S, W.listOf sv ns) :: tl))
    (hA : A = ktrTop dp un gd (Str.ofString "_law_rounds") s928 L 928 (.ref 927) [] outer)
    (hI : IterAt oI S i) (n1 : @Ne Nat I fo) (n2 : @Ne Nat I S) (n3 : @Ne Nat S fo) (n4 : ∀ q ∈ tl, q.1 ≠ I) (n5 : ∀ q ∈ tl, q.1 ≠ fo)
    (hd : dp + 8 < recursionLimit) (hu : un + 60 < cLine) (hE : PassesOwn (model P0 w) A env E) (hfz : fv.size ≤ 900) (hxl : x.length < 100)
    (hx : sv[i]? = some (.str x tx)) (hfs : StrsOf fs fv.toList)
    (hN : ∀ s', Nx s' → ForV P0 w A E env tg3 bd Q (.ref I) s')
    (hn : ∀ h' tk' oI' fv' nf' vw, Fr h₀ L h' (rdM (some (.ref fo)) v1 v2 vw v4 v5 v6 c0 c1 c2) → News h₀ L h' ((I, oI') :: (fo, W.listOf fv' nf') :: (S, W.listOf sv ns) :: tl) → IterAt oI' S (i + 1) → StrsOf (addW fs x) fv'.toList → fv'.size ≤ fv.size + 1 → Nx { s with heap := h', toks := tk' }) :
    ForV P0 w A E env tg3 bd Q (.ref I) s := by
  w_on
  cases hst
  subst henv
  subst hA
  refine for_turn hE hN F N hI (.tail _ (.head _)) ?_ hx ?_
  · intro q hq
    simp only [List.mem_cons] at hq
    rcases hq with e | e | e
    · rw [e]; exact Ne.symm n1
    · rw [e]; exact Ne.symm n2
    · exact n4 q e
  clear F N
  intro h' oI' F N hI'
  cases hc : (!(fs.any (· == Txt.lower x))) with
  | true =>
    have ea : addW fs x = fs ++ [Txt.lower x] := by
      simp only [addW]
      rw [if_neg]
      intro hh; rw [hh] at hc; cases hc
    k_steps
    refine' hn _ _ _ _ _ _ (Fr.cong ?wE ?wF) ?wN hI' ?ws ?wz
    case wF => assumption
    case wN => assumption
    case ws => rw [ea, Array.toList_push]; exact StrsOf.snoc hfs
    case wz => rw [Array.size_push]; exact Nat.le_refl _
    case wE => exact funext fun y => by rw [rdM_word]
  | false =>
    have ea : addW fs x = fs := by
      simp only [addW]
      rw [if_pos]
      cases hh : (fs.any (· == Txt.lower x)) with
      | true => rfl
      | false => rw [hh] at hc; cases hc
    k_steps
    refine' hn _ _ _ _ _ _ (Fr.cong ?wE ?wF) ?wN hI' (by rw [ea]; exact hfs) (Nat.le_succ _)
    case wF => assumption
    case wN => assumption
    case wE => exact funext fun y => by rw [rdM_word]
end
theorem StrsOf.atA {x : Str} {ws : List Str} {sv : Array Value} {i : Nat} (h : StrsOf (x :: ws) (sv.toList.drop i)) : (∃ t, sv[i]? = some (.str x t)) ∧ StrsOf ws (sv.toList.drop (i + 1)) := by
  generalize e : sv.toList.drop i = l at h
  cases h with
  | cons hx hr =>
    obtain ⟨t, rfl⟩ := hx
    have h1 : sv.toList[i]? = some (Value.str x t) := by
      have := congrArg (·[0]?) e
      simpa using this
    refine ⟨⟨t, by simpa using h1⟩, ?_⟩
    have h2 : sv.toList.drop (i + 1) = (sv.toList.drop i).drop 1 := by rw [List.drop_drop]
    rw [h2, e]; exact hr
theorem StrsOf.no {sv : Array Value} {i : Nat} (h : StrsOf [] (sv.toList.drop i)) : sv[i]? = none := by
  generalize e : sv.toList.drop i = l at h
  cases h
  have h1 : sv.toList[i]? = none := by
    have := congrArg (·[0]?) e
    simpa using this
  simpa using h1
section
variable {w : World} {p : Program} {loose : List Str} {mean : ExcName → Option Value} {mg mb : Str → Option Value} {A₀ : Around} {dp un : Nat} {gd : Option (List Code)} {outer : List Env} {base h₀ : Heap} {L : Addr}
theorem w3_loop {q1 q2 q3 w1 : Stmt} {t it1 it2 it3 tg1 tg2 tg3 : PySem.Expr} {bd wrest rest : List Stmt} {wp p1 p2 p3 : Pos} {A : Around} {env : Env}
    (hst : b928 = q1 :: q2 :: q3 :: Stmt.While t (w1 :: Stmt.For tg1 it1 [Stmt.For tg2 it2 [Stmt.For tg3 it3 bd [] p3] [] p2] [] p1 :: wrest) [] wp :: rest)
    (henv : env = envOf (Str.ofString "_law_rounds") s928 L 928 (.ref 927))
    {I fo S : Addr} {sv : Array Value} {ns : Nat} {tl : List (Addr × Obj)} {v1 v2 v4 v5 v6 : Option Value} {c0 c1 c2 : Value} {Q : Flow → Shared → Prop} {E : Value → Shared → Prop} {s₀ : Shared}
    (B : Below A₀ base outer h₀) (X : (KF w.params).In h₀) (T : Top p loose mean mg mb h₀)
    (hA : A = ktrTop dp un gd (Str.ofString "_law_rounds") s928 L 928 (.ref 927) [] outer)
    (n1 : @Ne Nat I fo) (n2 : @Ne Nat I S) (n3 : @Ne Nat S fo) (n4 : ∀ q ∈ tl, q.1 ≠ I) (n5 : ∀ q ∈ tl, q.1 ≠ fo)
    (hd : dp + 8 < recursionLimit) (hu : un + 60 < cLine) (hE : PassesOwn (model P0 w) A env E) :
    ∀ (ws : List Str) (h : Heap) (tk : Nat) {oI : Obj} {i nf : Nat} {fv : Array Value} {v3 : Option Value} {fs : List Str}, 
    Fr h₀ L h (rdM (some (.ref fo)) v1 v2 v3 v4 v5 v6 c0 c1 c2) → News h₀ L h ((I, oI) :: (fo, W.listOf fv nf) :: (S, W.listOf sv ns) :: tl) → IterAt oI S i → StrsOf ws (sv.toList.drop i) → StrsOf fs fv.toList →
    (∀ x ∈ ws, x.length < 100) → fv.size + ws.length ≤ 900 →
    (∀ h' tk' fv' nf' vw, Fr h₀ L h' (rdM (some (.ref fo)) v1 v2 vw v4 v5 v6 c0 c1 c2) → News h₀ L h' ((fo, W.listOf fv' nf') :: (S, W.listOf sv ns) :: tl) → StrsOf (ws.foldl addW fs) fv'.toList → fv'.size ≤ fv.size + ws.length → Q .next { s₀ with heap := h', toks := tk' }) →
    ForV P0 w A E env tg3 bd Q (.ref I) { s₀ with heap := h, toks := tk } := by
  intro ws
  have hne : ∀ fv nf, ∀ q ∈ (fo, W.listOf fv nf) :: (S, W.listOf sv ns) :: tl, q.1 ≠ I := by
    intro fv nf q hq
    simp only [List.mem_cons] at hq
    rcases hq with e | e | e
    · rw [e]; exact Ne.symm n1
    · rw [e]; exact Ne.symm n2
    · exact n4 q e
  induction ws with
  | nil =>
    intro h tk oI i nf fv v3 fs F N hI hs hf hl hz hQ
    exact for_end (s := { s₀ with heap := h, toks := tk }) hE (by subst hA; rfl) F N hI (.tail _ (.head _)) (hne _ _) (StrsOf.no hs) fun h' F' N' => hQ h' tk fv nf v3 F' N' hf (Nat.le_add_right _ _)
  | cons x ws ih =>
    intro h tk oI i nf fv v3 fs F N hI hs hf hl hz hQ
    obtain ⟨⟨tx, hx⟩, hs'⟩ := StrsOf.atA hs
    simp only [List.length_cons] at hz
    refine w3_turn (s := { s₀ with heap := h, toks := tk }) (Nx := fun s' => ForV P0 w A E env tg3 bd Q (.ref I) s') hst henv B F X T N hA hI n1 n2 n3 n4 n5 hd hu hE (by omega) (hl x (.head _)) hx hf (fun _ q => q) ?_
    intro h' tk' oI' fv' nf' vw F' N' hI' hf' hz'
    refine ih h' tk' F' N' hI' hs' hf' (fun y hy => hl y (.tail _ hy)) (by omega) ?_
    intro h2 tk2 fv2 nf2 vw2 F2 N2 hf2 hz2
    exact hQ h2 tk2 fv2 nf2 vw2 F2 N2 hf2 (by simp only [List.length_cons]; omega)
end

end
section -- RndB
theorem row133 : True := by (k_with_none; trivial)
local macro_rules | `(tactic| k_all) => `(tactic| with_reducible assumption)
theorem fill_rnb : (PySem.Challenge.rw_of0118_01.name = PySem.Challenge.rw_of0118_01.name) → (∀ P, KF P = KF P) := by
  k_fill
  intro _ _; rfl
theorem News.rnd1 {h₀ h : Heap} {L : Addr} {a b c d e : Addr × Obj} {l : List (Addr × Obj)} (N : News h₀ L h (a :: b :: c :: d :: e :: l)) : News h₀ L h (a :: d :: b :: c :: e :: l) := fun q hq => N q (by
  simp only [List.mem_cons] at hq ⊢
  rcases hq with h | h | h | h | h | h <;> simp [h])
theorem News.rnd2 {h₀ h : Heap} {L : Addr} {a b c d : Addr × Obj} {l : List (Addr × Obj)} (N : News h₀ L h (a :: b :: c :: d :: l)) : News h₀ L h (c :: a :: d :: l) := fun q hq => N q (by
  simp only [List.mem_cons] at hq ⊢
  rcases hq with h | h | h | h <;> simp [h])
section
variable {w : World} {p : Program} {loose : List Str} {mean : ExcName → Option Value} {mg mb : Str → Option Value} {A₀ : Around} {dp un : Nat} {gd : Option (List Code)} {outer : List Env} {base h₀ : Heap} {L : Addr} {s : Shared}
theorem row134 : True := by ((k_with "exec For Name Call cons nil" => ((k_here; k_dflt (refine for_begin ?_)))); trivial)
theorem row135 : True := by ((k_with "exec For" => ((k_here; k_dflt (refine for_begin ?_)))); trivial)
theorem row136 : True := by ((k_with "pyIter ref" => ((k_here; (with_reducible show wpAny _ _ (pyIter (Value.ref _)) (fun it s₂ => ForV _ _ _ _ _ _ _ _ it s₂) _ _); k_dflt (refine' for_iter ?F ?N ?l ?_; (case F => k_asm); (case N => assumption); (case l => exact .head _)); intro zkI' zkoI' zkh' zkF' zkN' zkhI' zkl1; (try k_sweep)))); trivial)
theorem row137 : True := by ((k_with "call ref" => ((k_here; (k_dflt show wpAny _ _ (call (Value.ref 899) [Value.str _ _]) _ _ _); k_dflt (refine wpAny_call ?_; refine' split_c ?XB ?TB ?D ?r1 ?r2 ?r3 ?r4 ?r5 ?r6 ?r7 ?r8 ?r9 ?r10 ?r11 ?_; (case r1 => k_asm); (case XB => assumption); (case TB => assumption); (case D => assumption); (case r2 => k_asm); (case r3 => k_asm); (case r4 => assumption); (case r5 => k_asm); (case r6 => exact rfl); (case r7 => ktr_room); (case r8 => ktr_units); (case r9 => assumption); (case r10 => assumption); (case r11 => assumption); k_whole); intro zkg2' zkh' zktk' zkS' zkvs' zkc' zkT2' zkF' zkN' zkB2' zkX2' zkP2' zkD2' zkne' zkhs2'; (try dsimp only at zkN'); (try k_sweep)))); trivial)
theorem w2_turn {q1 q2 q3 w1 : Stmt} {t it1 it2 it3 tg1 tg2 tg3 : PySem.Expr} {bd wrest rest : List Stmt} {wp p1 p2 p3 : Pos} {A : Around} {env : Env}
    (hst : b928 = q1 :: q2 :: q3 :: Stmt.While t (w1 :: Stmt.For tg1 it1 [Stmt.For tg2 it2 [Stmt.For tg3 it3 bd [] p3] [] p2] [] p1 :: wrest) [] wp :: rest)
    (henv : env = envOf (Str.ofString "_law_rounds") s928 L 928 (.ref 927))
    {I fo S : Addr} {oI : Obj} {i : Nat} {sv fv : Array Value} {ns nf : Nat} {tl : List (Addr × Obj)} {v1 v2 v3 v4 v5 v6 : Option Value} {c0 c1 c2 : Value} {x : Str} {tx : Tok} {fs ws : List Str} {Q : Flow → Shared → Prop} {E : Value → Shared → Prop} {Nx : Shared → Prop}
    (XB : (KF w.params).In base) (TB : Top p loose mean mg mb base) (D : KtsDicts (outer.filterMap (·.frame)) h₀)
    (B : Below A₀ base outer h₀) (F : Fr h₀ L s.heap (rdM (some (.ref fo)) v1 v2 v3 v4 v5 v6 c0 c1 c2)) (X : (KF w.params).In h₀) (T : Top p loose mean mg mb h₀)
    (N : News h₀ L s.heap ((I, oI) :: (fo, W.listOf fv nf) :: (S, W.listOf sv ns) :: tl))
    (hA : A = ktrTop dp un gd (Str.ofString "_law_rounds") s928 L 928 (.ref 927) [] outer)
    (hI : IterAt oI S i) (n1 : @Ne Nat I fo) (n2 : @Ne Nat I S) (n3 : @Ne Nat S fo) (n4 : ∀ q ∈ tl, q.1 ≠ I) (n5 : ∀ q ∈ tl, q.1 ≠ fo)
    (hd : dp + 40 < recursionLimit) (hu : un + 240 < cLine) (hE : PassesOwn (model P0 w) A env E) (hfz : fv.size + ws.length ≤ 900) (hxl : x.length < 1000) (hw : Words x.cps.toList ws) (hwl : ∀ y ∈ ws, y.length < 100)
    (hx : sv[i]? = some (.str x tx)) (hfs : StrsOf fs fv.toList)
    (hN : ∀ s', Nx s' → ForV P0 w A E env tg2 [Stmt.For tg3 it3 bd [] p3] Q (.ref I) s')
    (hn : ∀ g h' tk' oI' fv' nf' u2 u3, KtsTurn (outer.filterMap (·.frame)) h₀ g → Below A₀ base outer g → (KF w.params).In g → Top p loose mean mg mb g → KtsDicts (outer.filterMap (·.frame)) g → Fr g L h' (rdM (some (.ref fo)) v1 u2 u3 v4 v5 v6 c0 c1 c2) → News g L h' ((I, oI') :: (fo, W.listOf fv' nf') :: (S, W.listOf sv ns) :: tl) → IterAt oI' S (i + 1) → StrsOf (ws.foldl addW fs) fv'.toList → fv'.size ≤ fv.size + ws.length → Nx { s with heap := h', toks := tk' }) :
    ForV P0 w A E env tg2 [Stmt.For tg3 it3 bd [] p3] Q (.ref I) s := by
  w_on
  have hst' := hst
  cases hst
  subst henv
  subst hA
  refine for_turn hE hN F N hI (.tail _ (.head _)) ?_ hx ?_
  · intro q hq
    simp only [List.mem_cons] at hq
    rcases hq with e | e | e
    · rw [e]; exact Ne.symm n1
    · rw [e]; exact Ne.symm n2
    · exact n4 q e
  clear F N
  intro h' oI' F N hI'
  have hsz : ws.length ≤ 1000 := by omega
  k_steps
  have zkB2' : True := trivial; have zkD2' : True := trivial; have zkF' : True := trivial; have zkI' : True := trivial; have zkN' : True := trivial; have zkP2' : True := trivial; have zkS' : True := trivial; have zkT2' : True := trivial; have zkX2' : True := trivial; have zkc' : True := trivial; have zkg2' : True := trivial; have zkh' : True := trivial; have zkhI' : True := trivial; have zkhs2' : True := trivial; have zkl1 : True := trivial; have zkne' : True := trivial; have zkoI' : True := trivial; have zktk' : True := trivial; have zkvs' : True := trivial
  rename_i g2 _ _ S2 vs2 _ hT2 _ _ _ _ neS hs2 I2 oI2 h2 F2 N2 hI2 l2
  have l2S : S2 < I2 := l2 (S2, _) (.head _)
  have l2I : I < I2 := l2 (I, _) (.tail _ (.head _))
  have l2f : fo < I2 := l2 (fo, _) (.tail _ (.tail _ (.head _)))
  have eS : S ≠ S2 := neS (S, _) (.tail _ (.tail _ (.head _)))
  have eI : I ≠ S2 := neS (I, _) (.head _)
  have ef : fo ≠ S2 := neS (fo, _) (.tail _ (.head _))
  refine' w3_loop hst' rfl ?wB ?wX ?wT rfl (Nat.ne_of_gt l2f) (Nat.ne_of_gt l2S) (Ne.symm ef) ?n4 ?n5 ?hd ?hu hE ws _ _ (Fr.cong ?wE F2) (News.rnd1 N2) hI2 hs2 hfs hwl hfz ?_
  case wB => assumption
  case wX => assumption
  case wT => assumption
  case hd => ktr_room
  case hu => ktr_units
  case wE => exact funext fun y => by rw [rdM_line]
  case n4 =>
    intro q hq
    simp only [List.mem_cons] at hq
    refine Nat.ne_of_lt (l2 q ?_)
    rcases hq with e | e | e
    · rw [e]; exact .tail _ (.head _)
    · rw [e]; exact .tail _ (.tail _ (.tail _ (.head _)))
    · exact .tail _ (.tail _ (.tail _ (.tail _ e)))
  case n5 =>
    intro q hq
    simp only [List.mem_cons] at hq
    rcases hq with e | e | e
    · rw [e]; exact n1
    · rw [e]; exact n3
    · exact n5 q e
  intro h3 tk3 fv3 nf3 vw3 F3 N3 hf3 hz3
  clear F2 N2
  k_steps
  refine' hn _ _ _ _ _ _ _ _ hT2 ?wB ?wX ?wT ?wD ?wF (News.rnd2 N3) hI' hf3 hz3
  case wB => assumption
  case wX => assumption
  case wT => assumption
  case wD => assumption
  case wF => assumption
end
section
variable {w : World} {p : Program} {loose : List Str} {mean : ExcName → Option Value} {mg mb : Str → Option Value} {A₀ : Around} {dp un : Nat} {gd : Option (List Code)} {outer : List Env} {base : Heap} {L : Addr}
theorem w2_loop {q1 q2 q3 w1 : Stmt} {t it1 it2 it3 tg1 tg2 tg3 : PySem.Expr} {bd wrest rest : List Stmt} {wp p1 p2 p3 : Pos} {A : Around} {env : Env}
    (hst : b928 = q1 :: q2 :: q3 :: Stmt.While t (w1 :: Stmt.For tg1 it1 [Stmt.For tg2 it2 [Stmt.For tg3 it3 bd [] p3] [] p2] [] p1 :: wrest) [] wp :: rest)
    (henv : env = envOf (Str.ofString "_law_rounds") s928 L 928 (.ref 927))
    {I fo S : Addr} {sv : Array Value} {ns : Nat} {tl : List (Addr × Obj)} {v1 v4 v5 v6 : Option Value} {c0 c1 c2 : Value} {Q : Flow → Shared → Prop} {E : Value → Shared → Prop} {s₀ : Shared}
    (XB : (KF w.params).In base) (TB : Top p loose mean mg mb base)
    (hA : A = ktrTop dp un gd (Str.ofString "_law_rounds") s928 L 928 (.ref 927) [] outer)
    (n1 : @Ne Nat I fo) (n2 : @Ne Nat I S) (n3 : @Ne Nat S fo) (n4 : ∀ q ∈ tl, q.1 ≠ I) (n5 : ∀ q ∈ tl, q.1 ≠ fo)
    (hd : dp + 40 < recursionLimit) (hu : un + 240 < cLine) (hE : PassesOwn (model P0 w) A env E) :
    ∀ (lws : List (Str × List Str)) (h₀ h : Heap) (tk : Nat) {oI : Obj} {i nf : Nat} {fv : Array Value} {v2 v3 : Option Value} {fs : List Str},
    KtsDicts (outer.filterMap (·.frame)) h₀ → Below A₀ base outer h₀ → (KF w.params).In h₀ → Top p loose mean mg mb h₀ →
    Fr h₀ L h (rdM (some (.ref fo)) v1 v2 v3 v4 v5 v6 c0 c1 c2) → News h₀ L h ((I, oI) :: (fo, W.listOf fv nf) :: (S, W.listOf sv ns) :: tl) → IterAt oI S i → StrsOf (lws.map (·.1)) (sv.toList.drop i) → StrsOf fs fv.toList →
    (∀ x ∈ lws, x.1.length < 1000 ∧ Words x.1.cps.toList x.2 ∧ ∀ y ∈ x.2, y.length < 100) → fv.size + (lws.flatMap (·.2)).length ≤ 900 →
    (∀ g h' tk' fv' nf' u2 u3, KtsTurn (outer.filterMap (·.frame)) h₀ g → Below A₀ base outer g → (KF w.params).In g → Top p loose mean mg mb g → KtsDicts (outer.filterMap (·.frame)) g → Fr g L h' (rdM (some (.ref fo)) v1 u2 u3 v4 v5 v6 c0 c1 c2) → News g L h' ((fo, W.listOf fv' nf') :: (S, W.listOf sv ns) :: tl) → StrsOf ((lws.flatMap (·.2)).foldl addW fs) fv'.toList → fv'.size ≤ fv.size + (lws.flatMap (·.2)).length → Q .next { s₀ with heap := h', toks := tk' }) →
    ForV P0 w A E env tg2 [Stmt.For tg3 it3 bd [] p3] Q (.ref I) { s₀ with heap := h, toks := tk } := by
  intro lws
  have hne : ∀ fv nf, ∀ q ∈ (fo, W.listOf fv nf) :: (S, W.listOf sv ns) :: tl, q.1 ≠ I := by
    intro fv nf q hq
    simp only [List.mem_cons] at hq
    rcases hq with e | e | e
    · rw [e]; exact Ne.symm n1
    · rw [e]; exact Ne.symm n2
    · exact n4 q e
  induction lws with
  | nil =>
    intro h₀ h tk oI i nf fv v2 v3 fs D B X T F N hI hs hf hl hz hQ
    exact for_end (s := { s₀ with heap := h, toks := tk }) hE (by subst hA; rfl) F N hI (.tail _ (.head _)) (hne _ _) (StrsOf.no hs) fun h' F' N' => hQ h₀ h' tk fv nf v2 v3 KtsTurn.refl B X T D F' N' hf (Nat.le_add_right _ _)
  | cons x lws ih =>
    intro h₀ h tk oI i nf fv v2 v3 fs D B X T F N hI hs hf hl hz hQ
    obtain ⟨⟨tx, hx⟩, hs'⟩ := StrsOf.atA hs
    obtain ⟨a1, a2, a3⟩ := hl x (.head _)
    simp only [List.flatMap_cons, List.length_append] at hz hQ
    refine w2_turn (s := { s₀ with heap := h, toks := tk }) (Nx := fun s' => ForV P0 w A E env tg2 [Stmt.For tg3 it3 bd [] p3] Q (.ref I) s') hst henv XB TB D B F X T N hA hI n1 n2 n3 n4 n5 hd hu hE (by omega) a1 a2 a3 hx hf (fun _ q => q) ?_
    intro g h' tk' oI' fv' nf' u2 u3 hT gB gX gP gD F' N' hI' hf' hz'
    refine ih g h' tk' gD gB gX gP F' N' hI' hs' hf' (fun y hy => hl y (.tail _ hy)) (by omega) ?_
    intro g2 h2 tk2 fv2 nf2 u22 u32 hT2 gB2 gX2 gP2 gD2 F2 N2 hf2 hz2
    refine hQ g2 h2 tk2 fv2 nf2 u22 u32 (hT.trans hT2) gB2 gX2 gP2 gD2 F2 N2 ?_ (by omega)
    rw [List.foldl_append]; exact hf2
end

end
section -- RndC
theorem row138 : True := by (k_with_none; trivial)
local macro_rules | `(tactic| k_all) => `(tactic| with_reducible assumption)
theorem fill_rnc : (PySem.Challenge.rw_of0118_01.name = PySem.Challenge.rw_of0118_01.name) → (∀ P, KF P = KF P) := by
  k_fill
  intro _ _; rfl
noncomputable def LwOk (rows : List (Str × Str)) (nm : Str) (lws : List (Str × List Str)) : Prop :=
  ((rows.filter fun r => Txt.lower r.1 == Txt.lower nm).map (·.2)) = lws.map (·.1) ∧ (∀ x ∈ lws, x.1.length < 1000 ∧ Words x.1.cps.toList x.2 ∧ ∀ y ∈ x.2, y.length < 100) ∧ okT (Txt.lower nm) ∧ (Txt.lower nm).length < 1000 ∧ nm.length < 100
section
variable {w : World} {p : Program} {loose : List Str} {mean : ExcName → Option Value} {mg mb : Str → Option Value} {A₀ : Around} {dp un : Nat} {gd : Option (List Code)} {outer : List Env} {base h₀ : Heap} {L : Addr} {s : Shared}
theorem row139 : True := by ((k_with "exec For Name Call cons nil" => ((k_here; k_dflt (refine for_begin ?_)))); trivial)
theorem row140 : True := by ((k_with "exec For" => ((k_here; k_dflt (refine for_begin ?_)))); trivial)
theorem row141 : True := by ((k_with "pyIter ref" => ((k_here; (with_reducible show wpAny _ _ (pyIter (Value.ref _)) (fun it s₂ => ForV _ _ _ _ _ _ _ _ it s₂) _ _); k_dflt (refine' for_iter ?F ?N ?l ?_; (case F => k_asm); (case N => assumption); (case l => exact .head _)); intro zkI' zkoI' zkh' zkF' zkN' zkhI' zkl1; (try k_sweep)))); trivial)
theorem row142 : True := by ((k_with "call ref" => ((k_here; (k_dflt show wpAny _ _ (call (Value.ref 127) [Value.ref _, Value.str _ _]) _ _ _); k_dflt (refine wpAny_call ?_; refine' get_all_c ?r1 ?r2 ?r3 ?r4 ?r5 ?r6 ?r7 ?r8 ?r9 ?r10 ?r11 ?r12 ?r13 ?r14 ?r15 ?r16 ?_; (case r1 => k_asm); (case r2 => k_asm); (case r3 => k_asm); (case r4 => assumption); (case r5 => k_asm); (case r6 => exact rfl); (case r7 => k_mem); (case r8 => k_mem); (case r9 => k_mem); (case r10 => assumption); (case r11 => ktr_room); (case r12 => ktr_units); (case r13 => assumption); (case r14 => assumption); (case r15 => assumption); (case r16 => assumption); k_whole); intro zkh' zktk' zkD' zkys' zkF' zkN' zkhs' zkne'; (try dsimp only at zkN'); (try k_sweep)))); trivial)
theorem w1_turn {q1 q2 q3 w1 : Stmt} {t it1 it2 it3 tg1 tg2 tg3 : PySem.Expr} {bd wrest rest : List Stmt} {wp p1 p2 p3 : Pos} {A : Around} {env : Env}
    (hst : b928 = q1 :: q2 :: q3 :: Stmt.While t (w1 :: Stmt.For tg1 it1 [Stmt.For tg2 it2 [Stmt.For tg3 it3 bd [] p3] [] p2] [] p1 :: wrest) [] wp :: rest)
    (henv : env = envOf (Str.ofString "_law_rounds") s928 L 928 (.ref 927))
    {I fo S x dx l : Addr} {oI : Obj} {i : Nat} {sv fv its : Array Value} {ns nf n : Nat} {th : Tok} {tl : List (Addr × Obj)} {v1 v2 v3 v4 v5 v6 : Option Value} {c1 c2 : Value} {nm : Str} {tx : Tok} {fs : List Str} {lws : List (Str × List Str)} {rows : List (Str × Str)} {Q : Flow → Shared → Prop} {E : Value → Shared → Prop} {Nx : Shared → Prop}
    (XB : (KF w.params).In base) (TB : Top p loose mean mg mb base) (D : KtsDicts (outer.filterMap (·.frame)) h₀)
    (B : Below A₀ base outer h₀) (F : Fr h₀ L s.heap (rdM (some (.ref fo)) v1 v2 v3 v4 v5 v6 (.ref x) c1 c2)) (X : (KF w.params).In h₀) (T : Top p loose mean mg mb h₀)
    (N : News h₀ L s.heap ((I, oI) :: (fo, W.listOf fv nf) :: (S, W.listOf sv ns) :: (x, instObj 188 dx) :: (dx, hdD w.params th l) :: (l, W.listOf its n) :: tl))
    (hA : A = ktrTop dp un gd (Str.ofString "_law_rounds") s928 L 928 (.ref 927) [] outer)
    (hI : IterAt oI S i) (n1 : @Ne Nat I fo) (n2 : @Ne Nat I S) (n3 : @Ne Nat S fo) (n4 : ∀ q ∈ (x, instObj 188 dx) :: (dx, hdD w.params th l) :: (l, W.listOf its n) :: tl, q.1 ≠ I) (n5 : ∀ q ∈ (x, instObj 188 dx) :: (dx, hdD w.params th l) :: (l, W.listOf its n) :: tl, q.1 ≠ fo)
    (hr : RowsAt tl its.toList rows) (hsz : its.size ≤ sizeLine)
    (hd : dp + 44 < recursionLimit) (hu : un + 280 < cLine) (hE : PassesOwn (model P0 w) A env E) (hfz : fv.size + (lws.flatMap (·.2)).length ≤ 900) (hlw : LwOk rows nm lws)
    (hx : sv[i]? = some (.str nm tx)) (hfs : StrsOf fs fv.toList)
    (hN : ∀ s', Nx s' → ForV P0 w A E env tg1 [Stmt.For tg2 it2 [Stmt.For tg3 it3 bd [] p3] [] p2] Q (.ref I) s')
    (hn : ∀ g h' tk' oI' fv' nf' u1 u2 u3, KtsTurn (outer.filterMap (·.frame)) h₀ g → Below A₀ base outer g → (KF w.params).In g → Top p loose mean mg mb g → KtsDicts (outer.filterMap (·.frame)) g → Fr g L h' (rdM (some (.ref fo)) u1 u2 u3 v4 v5 v6 (.ref x) c1 c2) → News g L h' ((I, oI') :: (fo, W.listOf fv' nf') :: (S, W.listOf sv ns) :: (x, instObj 188 dx) :: (dx, hdD w.params th l) :: (l, W.listOf its n) :: tl) → IterAt oI' S (i + 1) → StrsOf ((lws.flatMap (·.2)).foldl addW fs) fv'.toList → fv'.size ≤ fv.size + (lws.flatMap (·.2)).length → Nx { s with heap := h', toks := tk' }) :
    ForV P0 w A E env tg1 [Stmt.For tg2 it2 [Stmt.For tg3 it3 bd [] p3] [] p2] Q (.ref I) s := by
  w_on
  have hst' := hst
  cases hst
  subst henv
  subst hA
  refine for_turn hE hN F N hI (.tail _ (.head _)) ?_ hx ?_
  · intro q hq
    rcases List.mem_cons.mp hq with e | hq
    · rw [e]; exact Ne.symm n1
    · rcases List.mem_cons.mp hq with e | hq
      · rw [e]; exact Ne.symm n2
      · exact n4 q hq
  clear F N
  intro h' oI' F N hI'
  obtain ⟨lw1, lw2, lw3, lw4, lw5⟩ := hlw
  have hr' : RowsAt ((I, oI') :: (fo, W.listOf fv nf) :: (S, W.listOf sv ns) :: (x, instObj 188 dx) :: (dx, hdD w.params th l) :: (l, W.listOf its n) :: tl) its.toList rows := hr.mono fun q hq => .tail _ (.tail _ (.tail _ (.tail _ (.tail _ (.tail _ hq)))))
  k_steps
  have zkD' : True := trivial; have zkF' : True := trivial; have zkI' : True := trivial; have zkN' : True := trivial; have zkh' : True := trivial; have zkhI' : True := trivial; have zkhs' : True := trivial; have zkl1 : True := trivial; have zkne' : True := trivial; have zkoI' : True := trivial; have zktk' : True := trivial; have zkys' : True := trivial
  rename_i D2 ys2 hs2 neD I2 oI2 h2 F2 N2 hI2 l2
  have l2D : D2 < I2 := l2 (D2, _) (.head _)
  have l2I : I < I2 := l2 (I, _) (.tail _ (.head _))
  have l2f : fo < I2 := l2 (fo, _) (.tail _ (.tail _ (.head _)))
  have eI : I ≠ D2 := neD (I, _) (.head _)
  have ef : fo ≠ D2 := neD (fo, _) (.tail _ (.head _))
  refine' w2_loop hst' rfl XB TB rfl (Nat.ne_of_gt l2f) (Nat.ne_of_gt l2D) (Ne.symm ef) ?n4 ?n5 ?hd ?hu hE lws _ _ _ ?wD ?wB ?wX ?wT (Fr.cong ?wE F2) (News.rnd1 N2) hI2 (by rw [← lw1]; exact hs2) hfs lw2 hfz ?_
  case wB => assumption
  case wX => assumption
  case wT => assumption
  case wD => assumption
  case hd => ktr_room
  case hu => ktr_units
  case wE => exact funext fun y => by rw [rdM_name]
  case n4 =>
    intro q hq
    refine Nat.ne_of_lt (l2 q ?_)
    rcases List.mem_cons.mp hq with e | hq
    · rw [e]; exact .tail _ (.head _)
    · exact .tail _ (.tail _ (.tail _ hq))
  case n5 =>
    intro q hq
    rcases List.mem_cons.mp hq with e | hq
    · rw [e]; exact n1
    · rcases List.mem_cons.mp hq with e | hq
      · rw [e]; exact n3
      · exact n5 q hq
  intro g3 h3 tk3 fv3 nf3 u2 u3 hT3 gB3 gX3 gP3 gD3 F3 N3 hf3 hz3
  clear F2 N2
  k_steps
  refine' hn g3 _ _ _ _ _ _ _ _ hT3 ?wB ?wX ?wT ?wD ?wF (News.rnd2 N3) hI' hf3 hz3
  case wB => assumption
  case wX => assumption
  case wT => assumption
  case wD => assumption
  case wF => assumption
end
section
variable {w : World} {p : Program} {loose : List Str} {mean : ExcName → Option Value} {mg mb : Str → Option Value} {A₀ : Around} {dp un : Nat} {gd : Option (List Code)} {outer : List Env} {base : Heap} {L : Addr}
theorem w1_loop {q1 q2 q3 w1 : Stmt} {t it1 it2 it3 tg1 tg2 tg3 : PySem.Expr} {bd wrest rest : List Stmt} {wp p1 p2 p3 : Pos} {A : Around} {env : Env}
    (hst : b928 = q1 :: q2 :: q3 :: Stmt.While t (w1 :: Stmt.For tg1 it1 [Stmt.For tg2 it2 [Stmt.For tg3 it3 bd [] p3] [] p2] [] p1 :: wrest) [] wp :: rest)
    (henv : env = envOf (Str.ofString "_law_rounds") s928 L 928 (.ref 927))
    {I fo S x dx l : Addr} {sv its : Array Value} {ns n : Nat} {th : Tok} {tl : List (Addr × Obj)} {v4 v5 v6 : Option Value} {c1 c2 : Value} {rows : List (Str × Str)} {lw : Str → List (Str × List Str)} {Q : Flow → Shared → Prop} {E : Value → Shared → Prop} {s₀ : Shared}
    (XB : (KF w.params).In base) (TB : Top p loose mean mg mb base)
    (hA : A = ktrTop dp un gd (Str.ofString "_law_rounds") s928 L 928 (.ref 927) [] outer)
    (n1 : @Ne Nat I fo) (n2 : @Ne Nat I S) (n3 : @Ne Nat S fo) (n4 : ∀ q ∈ (x, instObj 188 dx) :: (dx, hdD w.params th l) :: (l, W.listOf its n) :: tl, q.1 ≠ I) (n5 : ∀ q ∈ (x, instObj 188 dx) :: (dx, hdD w.params th l) :: (l, W.listOf its n) :: tl, q.1 ≠ fo)
    (hr : RowsAt tl its.toList rows) (hsz : its.size ≤ sizeLine)
    (hd : dp + 44 < recursionLimit) (hu : un + 280 < cLine) (hE : PassesOwn (model P0 w) A env E) :
    ∀ (nms : List Str) (h₀ h : Heap) (tk : Nat) {oI : Obj} {i nf : Nat} {fv : Array Value} {v1 v2 v3 : Option Value} {fs : List Str},
    KtsDicts (outer.filterMap (·.frame)) h₀ → Below A₀ base outer h₀ → (KF w.params).In h₀ → Top p loose mean mg mb h₀ →
    Fr h₀ L h (rdM (some (.ref fo)) v1 v2 v3 v4 v5 v6 (.ref x) c1 c2) → News h₀ L h ((I, oI) :: (fo, W.listOf fv nf) :: (S, W.listOf sv ns) :: (x, instObj 188 dx) :: (dx, hdD w.params th l) :: (l, W.listOf its n) :: tl) → IterAt oI S i → StrsOf nms (sv.toList.drop i) → StrsOf fs fv.toList →
    (∀ nm ∈ nms, LwOk rows nm (lw nm)) → fv.size + (nms.flatMap fun nm => (lw nm).flatMap (·.2)).length ≤ 900 →
    (∀ g h' tk' fv' nf' u1 u2 u3, KtsTurn (outer.filterMap (·.frame)) h₀ g → Below A₀ base outer g → (KF w.params).In g → Top p loose mean mg mb g → KtsDicts (outer.filterMap (·.frame)) g → Fr g L h' (rdM (some (.ref fo)) u1 u2 u3 v4 v5 v6 (.ref x) c1 c2) → News g L h' ((fo, W.listOf fv' nf') :: (S, W.listOf sv ns) :: (x, instObj 188 dx) :: (dx, hdD w.params th l) :: (l, W.listOf its n) :: tl) → StrsOf ((nms.flatMap fun nm => (lw nm).flatMap (·.2)).foldl addW fs) fv'.toList → Q .next { s₀ with heap := h', toks := tk' }) →
    ForV P0 w A E env tg1 [Stmt.For tg2 it2 [Stmt.For tg3 it3 bd [] p3] [] p2] Q (.ref I) { s₀ with heap := h, toks := tk } := by
  intro nms
  have hne : ∀ fv nf, ∀ q ∈ (fo, W.listOf fv nf) :: (S, W.listOf sv ns) :: (x, instObj 188 dx) :: (dx, hdD w.params th l) :: (l, W.listOf its n) :: tl, q.1 ≠ I := by
    intro fv nf q hq
    rcases List.mem_cons.mp hq with e | hq
    · rw [e]; exact Ne.symm n1
    · rcases List.mem_cons.mp hq with e | hq
      · rw [e]; exact Ne.symm n2
      · exact n4 q hq
  induction nms with
  | nil =>
    intro h₀ h tk oI i nf fv v1 v2 v3 fs D B X T F N hI hs hf hl hz hQ
    exact for_end (s := { s₀ with heap := h, toks := tk }) hE (by subst hA; rfl) F N hI (.tail _ (.head _)) (hne _ _) (StrsOf.no hs) fun h' F' N' => hQ h₀ h' tk fv nf v1 v2 v3 KtsTurn.refl B X T D F' N' hf
  | cons nm nms ih =>
    intro h₀ h tk oI i nf fv v1 v2 v3 fs D B X T F N hI hs hf hl hz hQ
    obtain ⟨⟨tx, hx⟩, hs'⟩ := StrsOf.atA hs
    simp only [List.flatMap_cons, List.length_append] at hz hQ
    refine w1_turn (s := { s₀ with heap := h, toks := tk }) (Nx := fun s' => ForV P0 w A E env tg1 [Stmt.For tg2 it2 [Stmt.For tg3 it3 bd [] p3] [] p2] Q (.ref I) s') hst henv XB TB D B F X T N hA hI n1 n2 n3 n4 n5 hr hsz hd hu hE (by omega) (hl nm (.head _)) hx hf (fun _ q => q) ?_
    intro g h' tk' oI' fv' nf' u1 u2 u3 hT gB gX gP gD F' N' hI' hf' hz'
    refine ih g h' tk' gD gB gX gP F' N' hI' hs' hf' (fun y hy => hl y (.tail _ hy)) (by omega) ?_
    intro g2 h2 tk2 fv2 nf2 u12 u22 u32 hT2 gB2 gX2 gP2 gD2 F2 N2 hf2
    refine hQ g2 h2 tk2 fv2 nf2 u12 u22 u32 (hT.trans hT2) gB2 gX2 gP2 gD2 F2 N2 ?_
    rw [List.foldl_append]; exact hf2
end

end
section -- RndD
theorem row143 : True := by (k_with_none; trivial)
local macro_rules | `(tactic| k_all) => `(tactic| with_reducible assumption)
theorem row144 : True := by ((k_with "call builtin:list.append" => ((k_here; (try dsimp only [List.cons_append, List.nil_append]); k_dflt (refine' append_K ?k1 ?k2 ?k3 ?_ ?z; (case k1 => k_asm); (case k2 => k_asm); (case k3 => k_upd); (case z => size_fits); k_whole); intro zkh' zkF' zkN'; (try k_sweep)))); trivial)
theorem fill_rnd : (PySem.Challenge.rw_of0118_01.name = PySem.Challenge.rw_of0118_01.name) → (∀ P, KF P = KF P) := by
  k_fill
  intro _ _; rfl
noncomputable def PlainSD (fs ks ms us : List Str) : Prop := ∀ ss : List Str, ss.Perm fs → sortedS ss = true → SD ss ks ms us ∧ ss.Nodup ∧ ss.length ≤ 40
theorem psd1 {fs ks ms us ss : List Str} (h : PlainSD fs ks ms us) (p : ss.Perm fs) (q : sortedS ss = true) : SD ss ks ms us := (h ss p q).1
theorem psd2 {fs ks ms us ss : List Str} (h : PlainSD fs ks ms us) (p : ss.Perm fs) (q : sortedS ss = true) : ss.Nodup := (h ss p q).2.1
theorem psd3 {fs ks ms us ss : List Str} (h : PlainSD fs ks ms us) (p : ss.Perm fs) (q : sortedS ss = true) : ss.length ≤ 40 := (h ss p q).2.2
theorem StrsOf.size {ss : List Str} {xs : Array Value} (h : StrsOf ss xs.toList) : xs.size = ss.length := by
  have := StrsOf.len h
  rw [← this]; rfl
theorem psd4 {fs ks ms us ss : List Str} {xs : Array Value} (hs : StrsOf ss xs.toList) (h : PlainSD fs ks ms us) (p : ss.Perm fs) (q : sortedS ss = true) : xs.size ≤ 40 := by rw [hs.size]; exact psd3 h p q
theorem StrsOf.appA {ws vs : List Str} {xs ys : Array Value} (h : StrsOf ws xs.toList) (h' : StrsOf vs ys.toList) : StrsOf (ws ++ vs) (xs ++ ys).toList := by
  rw [Array.toList_append]; exact StrsOf.app h h'
theorem sz_app {ws vs : List Str} {xs ys : Array Value} (h : StrsOf ws xs.toList) (h' : StrsOf vs ys.toList) (hl : ws.length + vs.length < 64) : (xs ++ ys).size < 64 := by
  rw [Array.size_append, h.size, h'.size]; exact hl
theorem sz_app2 {ws vs : List Str} {xs ys : Array Value} (h : StrsOf ws xs.toList) (h' : StrsOf vs ys.toList) (hl : ws.length + vs.length < 64) : xs.size + ys.size ≤ 2000 := by
  rw [h.size, h'.size]; omega
theorem News.rnd3 {h₀ h : Heap} {L : Addr} {a1 a2 a3 a4 a5 a6 a7 a8 a9 b1 b2 b3 b4 b5 : Addr × Obj} {l : List (Addr × Obj)} (N : News h₀ L h (a1 :: a2 :: a3 :: a4 :: a5 :: a6 :: a7 :: a8 :: a9 :: b1 :: b2 :: b3 :: b4 :: b5 :: l)) : News h₀ L h (a5 :: b1 :: b2 :: b3 :: b4 :: a1 :: a3 :: a5 :: a6 :: l) := News.consN (N _ (.tail _ (.tail _ (.tail _ (.tail _ (.head _)))))) (News.consN (N _ (.tail _ (.tail _ (.tail _ (.tail _ (.tail _ (.tail _ (.tail _ (.tail _ (.tail _ (.head _))))))))))) (News.consN (N _ (.tail _ (.tail _ (.tail _ (.tail _ (.tail _ (.tail _ (.tail _ (.tail _ (.tail _ (.tail _ (.head _)))))))))))) (News.consN (N _ (.tail _ (.tail _ (.tail _ (.tail _ (.tail _ (.tail _ (.tail _ (.tail _ (.tail _ (.tail _ (.tail _ (.head _))))))))))))) (News.consN (N _ (.tail _ (.tail _ (.tail _ (.tail _ (.tail _ (.tail _ (.tail _ (.tail _ (.tail _ (.tail _ (.tail _ (.tail _ (.head _)))))))))))))) (News.consN (N _ (.head _)) (News.consN (N _ (.tail _ (.tail _ (.head _)))) (News.consN (N _ (.tail _ (.tail _ (.tail _ (.tail _ (.head _)))))) (News.consN (N _ (.tail _ (.tail _ (.tail _ (.tail _ (.tail _ (.head _))))))) (fun q hq => N q (.tail _ (.tail _ (.tail _ (.tail _ (.tail _ (.tail _ (.tail _ (.tail _ (.tail _ (.tail _ (.tail _ (.tail _ (.tail _ (.tail _ (hq))))))))))))))))))))))))
theorem News.drop3 {h₀ h : Heap} {L : Addr} {a b c : Addr × Obj} {l : List (Addr × Obj)} (N : News h₀ L h (a :: b :: c :: l)) : News h₀ L h (a :: b :: l) := fun q hq => N q (by
  simp only [List.mem_cons] at hq ⊢
  rcases hq with h | h | h <;> simp [h])
theorem StrsOf.dat {n : List (Addr × Obj)} : ∀ {ws : List Str} {vs : List Value}, StrsOf ws vs → DatAll n vs (ws.map Dat.str) := fun h => by
  induction h with
  | nil => exact .nil
  | cons e _ ih => obtain ⟨t, e⟩ := e; subst e; exact .cons (.str _ _) ih
theorem StrsAre.of : ∀ {ws : List Str} {vs : List Value}, StrsAre vs ws → StrsOf ws vs := fun h => by
  induction h with
  | nil => exact .nil
  | cons y t _ ih => exact .cons ⟨t, rfl⟩ ih
theorem neE {prog : Program} {w : World} {A : Around} {E : Value → Shared → Prop} {s : Shared} {h₀ : Heap} {L a b : Addr} {news : List (Addr × Obj)} {av : Array Value} {ka kb : Nat} {fs : List Str} {c : Bool} {Q : Value → Shared → Prop}
    (N : News h₀ L s.heap news) (ma : (a, W.listOf av ka) ∈ news) (mb : (b, W.listOf #[] kb) ∈ news) (hs : StrsOf fs av.toList) (ho : ∀ x ∈ fs, PyData.strOk x = true) (hu : A.units + 64 < cLine) (hc : (!fs.isEmpty) = c)
    (h : Q (.bool c) s) : wpAny (model prog w) A (compareOp .NotEq (.ref a) (.ref b)) Q E s := by
  refine kqd_ne (n₁ := []) (n₂ := []) (xs := av.toList) (ys := []) (es := []) N ma rfl rfl (StrsOf.dat hs) (fun _ h => nomatch h) mb rfl rfl .nil (fun _ h => nomatch h) ?_ (fun _ h => nomatch h) hu ?_
  · intro d hd
    obtain ⟨x, hx, rfl⟩ := List.mem_map.mp hd
    exact ho x hx
  · have : (!decide (fs.map Dat.str = [])) = c := by rw [← hc]; cases fs <;> simp
    rw [this]; exact h
theorem sortN {prog : Program} {w : World} {A : Around} {E : Value → Shared → Prop} {s : Shared} {h₀ : Heap} {L a : Addr} {m : Str → Option Value} {news : List (Addr × Obj)} {av : Array Value} {ka : Nat} {fs : List Str} {Q : Value → Shared → Prop}
    (F : Fr h₀ L s.heap m) (N : News h₀ L s.heap news) (ma : (a, W.listOf av ka) ∈ news) (hs : StrsOf fs av.toList) (hl : av.size < 64)
    (h : ∀ D h' xs n ss, Fr h₀ L h' m → News h₀ L h' ((D, W.listOf xs n) :: news) → StrsOf ss xs.toList → ss.Perm fs → sortedS ss = true → (∀ q ∈ news, q.1 < D) → Q (.ref D) { s with heap := h' }) :
    wpAny (model prog w) A (call (.builtin "sorted") [.ref a]) Q E s :=
  sorted_N_str F N (PySem.IsL.isList (items := av) (n := ka) (N _ ma).1) (StrsOf.are hs) hl fun h' vs' ss' e F' N' h1 h2 h3 => h _ h' vs'.toArray e ss' F' N' (StrsAre.of h1) h2 h3 fun q hq => Nat.lt_succ_of_lt (Heap.lt_size (N q hq).1)
section
variable {w : World} {p : Program} {loose : List Str} {mean : ExcName → Option Value} {mg mb : Str → Option Value} {A₀ : Around} {dp un : Nat} {gd : Option (List Code)} {outer : List Env} {base h₀ : Heap} {L : Addr} {s : Shared}
theorem row145 : True := by ((k_with "compareOp NotEq ref ref" => ((k_here; k_dflt (refine' neE ?N ?a ?b ?s ?o ?u ?c ?_; (case N => k_asm); (case a => k_mem); (case b => exact .head _); (case s => assumption); (case o => assumption); (case u => ktr_units); (case c => assumption); k_whole)))); trivial)
theorem row146 : True := by ((k_with "exec For Name Name cons nil" => ((k_here; k_dflt (refine for_begin ?_)))); trivial)
theorem row147 : True := by ((k_with "exec For" => ((k_here; k_dflt (refine for_begin ?_)))); trivial)
theorem row148 : True := by ((k_with "pyIter ref" => ((k_here; (with_reducible show wpAny _ _ (pyIter (Value.ref _)) (fun it s₂ => ForV _ _ _ _ _ _ _ _ it s₂) _ _); k_dflt (refine' for_iter ?F ?N ?l ?_; (case F => k_asm); (case N => assumption); (case l => k_mem)); intro zkI' zkoI' zkh' zkF' zkN' zkhI' zkl1; (try k_sweep)))); trivial)
theorem row149 : True := by ((k_with "call builtin:len" => ((k_here; k_dflt (refine' len_list ?k1 ?k2 ?_; (case k1 => exact News.isList (by k_asm) (by k_mem)); (case k2 => omega); k_whole)))); trivial)
theorem row150 : True := by ((k_with "call builtin:sorted" => ((k_here; k_dflt (refine' sortN ?F ?N ?a ?s ?l ?_; (case F => k_asm); (case N => assumption); (case a => exact .head _); (case s => first | assumption | exact StrsOf.appA (by assumption) (by assumption)); (case l => first | assumption | exact sz_app (by assumption) (by assumption) (by assumption)); k_whole); intro zkD' zkh' zkxs' zkn' zkss' zkF' zkN' zkhs' zkhp' zkhq' zkl1; (try k_lt zkl1); (try k_sweep)))); trivial)
theorem row151 : True := by ((k_with "ite" => ((k_dflt (first | (refine W.ite_pos (by with_reducible assumption) ?_) | (refine W.ite_neg (by with_reducible assumption) ?_) | (refine W.ite_neg (nf_of (by with_reducible assumption)) ?_))))); trivial)
theorem row152 : True := by ((k_with "binaryOp Add ref ref" => ((k_here; k_dflt (refine' addLL ?F ?N ?a ?b ?z ?_; (case F => k_asm); (case N => assumption); (case a => k_mem); (case b => k_mem); (case z => exact sz_app2 (by assumption) (by assumption) (by assumption)); k_whole); intro zkD' zkh' zkF' zkN' zkl1; (try k_lt zkl1); (try k_sweep)))); trivial)
theorem row153 : True := by ((k_with "call ref" => ((k_here; (k_dflt show wpAny _ _ (call (Value.ref 199) [Value.ref _, Value.ref _]) _ _ _); k_dflt (refine wpAny_call ?_; refine' sld_c ?XB ?TB ?D ?r1 ?r2 ?r3 ?r4 ?r5 ?r6 ?r7 ?r8 ?hs ?nE ?nA ?sE ?sA ?ze ?za ?le ?la ?hd ?hu ?_; (case r1 => k_asm); (case XB => assumption); (case TB => assumption); (case D => assumption); (case r2 => k_asm); (case r3 => k_asm); (case r4 => assumption); (case r5 => k_asm); (case r6 => exact rfl); (case r7 => k_mem); (case r8 => k_mem); (case sE => assumption); (case sA => assumption); (case hs => exact psd1 (by assumption) (by assumption) (by assumption)); (case nE => exact psd2 (by assumption) (by assumption) (by assumption)); (case nA => assumption); (case ze => exact psd4 (by assumption) (by assumption) (by assumption) (by assumption)); (case za => assumption); (case le => exact psd3 (by assumption) (by assumption) (by assumption)); (case la => assumption); (case hd => ktr_room); (case hu => ktr_units); k_whole); intro zkg2' zkh' zktk' zkTT' zkM' zkU' zknM' zknU' zkxs' zkys' zkT2' zkF' zkN' zkB2' zkX2' zkP2' zkD2' zkn1' zkn2' zkn3' zkne1' zkne2' zkne3' zksm' zksu'; (have zkz1' := neN (Ne.symm (zkne1' _ (List.Mem.tail _ (List.Mem.tail _ (List.Mem.tail _ (List.Mem.tail _ (List.Mem.tail _ (List.Mem.tail _ (List.Mem.head _)))))))))); (have zkz2' := neN (Ne.symm (zkne2' _ (List.Mem.tail _ (List.Mem.tail _ (List.Mem.tail _ (List.Mem.tail _ (List.Mem.tail _ (List.Mem.tail _ (List.Mem.head _)))))))))); (have zkz3' := neN (Ne.symm (zkne3' _ (List.Mem.tail _ (List.Mem.tail _ (List.Mem.tail _ (List.Mem.tail _ (List.Mem.tail _ (List.Mem.tail _ (List.Mem.head _)))))))))); (try dsimp only at zkN'); (try k_sweep)))); trivial)
theorem rd_turn {q1 q2 q3 w1 : Stmt} {t it1 it2 it3 tg1 tg2 tg3 : PySem.Expr} {bd wrest rest wbd : List Stmt} {wp p1 p2 p3 : Pos} {A : Around} {env : Env}
    (hst : b928 = q1 :: q2 :: q3 :: Stmt.While t (w1 :: Stmt.For tg1 it1 [Stmt.For tg2 it2 [Stmt.For tg3 it3 bd [] p3] [] p2] [] p1 :: wrest) [] wp :: rest)
    (hbd : wbd = w1 :: Stmt.For tg1 it1 [Stmt.For tg2 it2 [Stmt.For tg3 it3 bd [] p3] [] p2] [] p1 :: wrest)
    (henv : env = envOf (Str.ofString "_law_rounds") s928 L 928 (.ref 927))
    {fr kn to x dx l : Addr} {frv knv tov its : Array Value} {nr nk nt n : Nat} {th : Tok} {tl : List (Addr × Obj)} {v0 v1 v2 v3 v4 : Option Value} {c1 : Value} {Q : Flow → Shared → Prop} {E : Value → Shared → Prop} {Nx : Shared → Prop} {fs : List Str}
    (XB : (KF w.params).In base) (TB : Top p loose mean mg mb base) (D : KtsDicts (outer.filterMap (·.frame)) h₀)
    (B : Below A₀ base outer h₀) (F : Fr h₀ L s.heap (rdM v0 v1 v2 v3 v4 (some (.ref fr)) (some (.ref kn)) (.ref x) c1 (.ref to))) (X : (KF w.params).In h₀) (T : Top p loose mean mg mb h₀)
    (N : News h₀ L s.heap ((fr, W.listOf frv nr) :: (x, instObj 188 dx) :: (dx, hdD w.params th l) :: (l, W.listOf its n) :: (to, W.listOf tov nt) :: (kn, W.listOf knv nk) :: tl))
    (hA : A = ktrTop dp un gd (Str.ofString "_law_rounds") s928 L 928 (.ref 927) [] outer)
    (hd : dp + 48 < recursionLimit) (hu : un + 320 < cLine) (hE : PassesOwn (model P0 w) A env E)
    (hfs : StrsOf fs frv.toList) (ho : ∀ x ∈ fs, PyData.strOk x = true) (hc : (!fs.isEmpty) = true) (htz : (tov.size : Int) < 9) (htz2 : tov.size ≤ 100)
    {ks ms us : List Str} {lw : Str → List (Str × List Str)} {rows : List (Str × Str)}
    (m1 : @Ne Nat fr to) (m2 : @Ne Nat x to) (m3 : @Ne Nat dx to) (m4 : @Ne Nat l to) (m5 : @Ne Nat kn to) (m6 : ∀ q ∈ tl, q.1 ≠ to)
    (hks : StrsOf ks knv.toList) (hnk : ks.Nodup) (hkz : knv.size ≤ 40) (hkl : ks.length ≤ 40) (hr : RowsAt tl its.toList rows) (hsz : its.size ≤ sizeLine)
    (hlw : ∀ nm ∈ fs, LwOk rows nm (lw nm)) (hlz : (fs.flatMap fun nm => (lw nm).flatMap (·.2)).length ≤ 800)
    (hps : PlainSD ((fs.flatMap fun nm => (lw nm).flatMap (·.2)).foldl addW []) ks ms us) (hfl : ((fs.flatMap fun nm => (lw nm).flatMap (·.2)).foldl addW []).length < 64) (hkm : ks.length + ms.length < 64)
    (hN : ∀ s', Nx s' → WhlRest P0 w A E env t wbd [] Q 0 s')
    (hn : ∀ g h' tk' M U T2 K' xs ys kv nM nU nk' nt' u0 u1 u2 u3 u4 ss, KtsTurn (outer.filterMap (·.frame)) h₀ g → Below A₀ base outer g → (KF w.params).In g → Top p loose mean mg mb g → KtsDicts (outer.filterMap (·.frame)) g → Fr g L h' (rdM u0 u1 u2 u3 u4 (some (.ref M)) (some (.ref K')) (.ref x) c1 (.ref to)) →
      News g L h' ((M, W.listOf xs nM) :: (x, instObj 188 dx) :: (dx, hdD w.params th l) :: (l, W.listOf its n) :: (to, W.listOf (tov.push (.ref T2)) nt') :: (K', W.listOf kv nk') :: (T2, ({ cls := .type "tuple", data := .seq #[.ref M, .ref U] } : Obj)) :: (M, W.listOf xs nM) :: (U, W.listOf ys nU) :: tl) →
      StrsOf ms xs.toList → StrsOf us ys.toList → StrsOf ss kv.toList → ss.Perm (ks ++ ms) → sortedS ss = true → @Ne Nat M to → @Ne Nat U to → @Ne Nat T2 to → @Ne Nat K' to → Nx { s with heap := h', toks := tk' }) :
    WhlRest P0 w A E env t wbd [] Q 1 s := by
  w_on
  have hst' := hst
  cases hst
  subst hbd
  subst henv
  subst hA
  have htz3 : decide ((tov.size : Int) < 9) = true := decide_eq_true htz
  refine whl_turnN hE hN ?_
  k_steps
  have zkB2' : True := trivial; have zkD' : True := trivial; have zkD2' : True := trivial; have zkF' : True := trivial; have zkI' : True := trivial; have zkM' : True := trivial; have zkN' : True := trivial; have zkP2' : True := trivial; have zkT2' : True := trivial; have zkTT' : True := trivial; have zkU' : True := trivial; have zkX2' : True := trivial; have zkg2' : True := trivial; have zkh' : True := trivial; have zkhI' : True := trivial; have zkhp' : True := trivial; have zkhq' : True := trivial; have zkhs' : True := trivial; have zkl1 : True := trivial; have zkn' : True := trivial; have zkn1' : True := trivial; have zkn2' : True := trivial; have zkn3' : True := trivial; have zknM' : True := trivial; have zknU' : True := trivial; have zkne1' : True := trivial; have zkne2' : True := trivial; have zkne3' : True := trivial; have zkoI' : True := trivial; have zksm' : True := trivial; have zkss' : True := trivial; have zksu' : True := trivial; have zktk' : True := trivial; have zkxs' : True := trivial; have zkys' : True := trivial; have zkz1' : True := trivial; have zkz2' : True := trivial; have zkz3' : True := trivial
  rename_i l9 _ _ fo h9 lf hI I oI h1 F1 N1 hI1 l1
  have l1f : fo < I := l1 (fo, _) (.head _)
  have l1r : fr < I := l1 (fr, _) (.tail _ (.tail _ (.head _)))
  obtain ⟨f1, f2, f3, f4, f5, f6, f7, f8⟩ := lf
  have hal : ∀ q ∈ (x, instObj 188 dx) :: (dx, hdD w.params th l) :: (l, W.listOf its n) :: (to, W.listOf tov nt) :: (kn, W.listOf knv nk) :: tl, q.1 < fo := by
    intro q hq
    simp only [List.mem_cons] at hq
    rcases hq with e | e | e | e | e | e
    · rw [e]; exact f3
    · rw [e]; exact f4
    · rw [e]; exact f5
    · rw [e]; exact f6
    · rw [e]; exact f7
    · exact PySem.W.kst_ltOf f8 q e
  refine' w1_loop (lw := lw) hst' rfl XB TB rfl (Nat.ne_of_gt l1f) (Nat.ne_of_gt l1r) (Nat.ne_of_lt f2) ?n4 ?n5 (hr.mono fun q hq => .tail _ (.tail _ hq)) hsz ?hd ?hu hE fs _ _ _ ?wD ?wB ?wX ?wT (Fr.cong ?wE F1) (News.drop3 N1) hI1 hfs .nil hlw ?hz ?_
  case n4 => exact fun q hq => Nat.ne_of_lt (l1 q (.tail _ (.tail _ (.tail _ hq))))
  case n5 => exact fun q hq => Nat.ne_of_lt (hal q hq)
  case wB => assumption
  case wX => assumption
  case wT => assumption
  case wD => assumption
  case hd => ktr_room
  case hu => ktr_units
  case wE => exact funext fun y => by rw [rdM_found]
  case hz => show 0 + _ ≤ 900; omega
  intro g3 h3 tk3 fv3 nf3 u1 u2 u3 hT3 gB3 gX3 gP3 gD3 F3 N3 hf3
  clear F1 N1
  have hfv : fv3.size < 64 := by rw [hf3.size]; exact hfl
  clear D B X T
  k_steps
  have zkB2' : True := trivial; have zkD' : True := trivial; have zkD2' : True := trivial; have zkF' : True := trivial; have zkI' : True := trivial; have zkM' : True := trivial; have zkN' : True := trivial; have zkP2' : True := trivial; have zkT2' : True := trivial; have zkTT' : True := trivial; have zkU' : True := trivial; have zkX2' : True := trivial; have zkg2' : True := trivial; have zkh' : True := trivial; have zkhI' : True := trivial; have zkhp' : True := trivial; have zkhq' : True := trivial; have zkhs' : True := trivial; have zkl1 : True := trivial; have zkn' : True := trivial; have zkn1' : True := trivial; have zkn2' : True := trivial; have zkn3' : True := trivial; have zknM' : True := trivial; have zknU' : True := trivial; have zkne1' : True := trivial; have zkne2' : True := trivial; have zkne3' : True := trivial; have zkoI' : True := trivial; have zksm' : True := trivial; have zkss' : True := trivial; have zksu' : True := trivial; have zktk' : True := trivial; have zkxs' : True := trivial; have zkys' : True := trivial; have zkz1' : True := trivial; have zkz2' : True := trivial; have zkz3' : True := trivial
  rename_i D3 _ _ _ _ _ _ _ _ _ l3 g2 _ _ TT M U _ _ xs1 ys1 hT2 _ _ _ _ _ _ _ _ _ _ sm su z1 z2 z3 _ _ _ _ D2 _ l2 _ D1 _ l4 D0 _ xs0 _ ss0 hs0 hp0 hq0 l5 h9 F9 N9
  obtain ⟨_, _, _, _, _, _, _, _, _, tD2, _, _⟩ := l2
  obtain ⟨_, _, _, _, _, _, _, _, _, _, _, tD0, _, _⟩ := l5
  refine' hn _ _ _ M U D2 D0 xs1 ys1 xs0 _ _ _ _ _ _ _ _ _ ss0 (hT3.trans hT2) ?wB ?wX ?wT ?wD (Fr.cong ?wE F9) (News.rnd3 N9) sm su hs0 hp0 hq0 z2 z3 (Nat.ne_of_gt tD2) (Nat.ne_of_gt tD0)
  case wB => assumption
  case wX => assumption
  case wT => assumption
  case wD => assumption
  case wE => exact funext fun y => by rw [rdM_fresh, rdM_idle, rdM_known]
theorem rd_stop {q1 q2 q3 w1 : Stmt} {t it1 it2 it3 tg1 tg2 tg3 : PySem.Expr} {bd wrest rest wbd : List Stmt} {wp p1 p2 p3 : Pos} {A : Around} {env : Env}
    (hst : b928 = q1 :: q2 :: q3 :: Stmt.While t (w1 :: Stmt.For tg1 it1 [Stmt.For tg2 it2 [Stmt.For tg3 it3 bd [] p3] [] p2] [] p1 :: wrest) [] wp :: rest)
    (hbd : wbd = w1 :: Stmt.For tg1 it1 [Stmt.For tg2 it2 [Stmt.For tg3 it3 bd [] p3] [] p2] [] p1 :: wrest)
    (henv : env = envOf (Str.ofString "_law_rounds") s928 L 928 (.ref 927))
    {fr kn to x dx l : Addr} {frv knv tov its : Array Value} {nr nk nt n : Nat} {th : Tok} {tl : List (Addr × Obj)} {v0 v1 v2 v3 v4 : Option Value} {c1 : Value} {Q : Flow → Shared → Prop} {E : Value → Shared → Prop} {Nx : Shared → Prop} {fs : List Str}
    (B : Below A₀ base outer h₀) (F : Fr h₀ L s.heap (rdM v0 v1 v2 v3 v4 (some (.ref fr)) (some (.ref kn)) (.ref x) c1 (.ref to))) (X : (KF w.params).In h₀) (T : Top p loose mean mg mb h₀)
    (N : News h₀ L s.heap ((fr, W.listOf frv nr) :: (x, instObj 188 dx) :: (dx, hdD w.params th l) :: (l, W.listOf its n) :: (to, W.listOf tov nt) :: (kn, W.listOf knv nk) :: tl))
    (hA : A = ktrTop dp un gd (Str.ofString "_law_rounds") s928 L 928 (.ref 927) [] outer)
    (hd : dp + 48 < recursionLimit) (hu : un + 320 < cLine) (hE : PassesOwn (model P0 w) A env E)
    (hfs : StrsOf fs frv.toList) (ho : ∀ x ∈ fs, PyData.strOk x = true) (hc : (!fs.isEmpty) = false)
    (hN : ∀ s', Nx s' → WhlRest P0 w A E env t wbd [] Q 0 s')
    (hQ : ∀ h' tk', Fr h₀ L h' (rdM v0 v1 v2 v3 v4 (some (.ref fr)) (some (.ref kn)) (.ref x) c1 (.ref to)) → News h₀ L h' ((fr, W.listOf frv nr) :: (x, instObj 188 dx) :: (dx, hdD w.params th l) :: (l, W.listOf its n) :: (to, W.listOf tov nt) :: (kn, W.listOf knv nk) :: tl) → Q .next { s with heap := h', toks := tk' }) :
    WhlRest P0 w A E env t wbd [] Q 1 s := by
  w_on
  cases hst
  subst hbd
  subst henv
  subst hA
  refine whl_turnN hE hN ?_
  k_steps
  refine' hQ _ _ ?wF ?wN
  case wF => assumption
  case wN => exact fun q hq => (by assumption : News h₀ L _ (_ :: _)) q (.tail _ hq)
end

end
section -- RndE
inductive ToldAt (tl : List (Addr × Obj)) : List Value → List (List Str × List Str) → Prop
  | nil : ToldAt tl [] []
  | cons {T M U : Addr} {xs ys : Array Value} {nM nU : Nat} {ms us : List Str} {vs : List Value} {outs : List (List Str × List Str)} : (T, ({ cls := .type "tuple", data := .seq #[.ref M, .ref U] } : Obj)) ∈ tl → (M, W.listOf xs nM) ∈ tl → (U, W.listOf ys nU) ∈ tl → StrsOf ms xs.toList → StrsOf us ys.toList → ToldAt tl vs outs → ToldAt tl (.ref T :: vs) ((ms, us) :: outs)
theorem ToldAt.mono {tl tl' : List (Addr × Obj)} (hs : ∀ q ∈ tl, q ∈ tl') : ∀ {vs outs}, ToldAt tl vs outs → ToldAt tl' vs outs := fun h => by
  induction h with
  | nil => exact .nil
  | cons a b c d e _ ih => exact .cons (hs _ a) (hs _ b) (hs _ c) d e ih
theorem ToldAt.app {tl : List (Addr × Obj)} : ∀ {vs outs vs' outs'}, ToldAt tl vs outs → ToldAt tl vs' outs' → ToldAt tl (vs ++ vs') (outs ++ outs') := fun h k => by
  induction h with
  | nil => exact k
  | cons a b c d e _ ih => exact .cons a b c d e ih
inductive Rounds (rows : List (Str × Str)) (lw : Str → List (Str × List Str)) : List Str → List Str → Nat → List (List Str × List Str) → Prop
  | stop {ks n} : Rounds rows lw [] ks n []
  | turn {fs ks ms us n out} : (!fs.isEmpty) = true → n < 9 → (∀ x ∈ fs, PyData.strOk x = true) → ks.Nodup → ks.length ≤ 40 → (∀ nm ∈ fs, LwOk rows nm (lw nm)) → (fs.flatMap fun nm => (lw nm).flatMap (·.2)).length ≤ 800 →
      PlainSD ((fs.flatMap fun nm => (lw nm).flatMap (·.2)).foldl addW []) ks ms us → ((fs.flatMap fun nm => (lw nm).flatMap (·.2)).foldl addW []).length < 64 → ks.length + ms.length < 64 →
      (∀ ss : List Str, ss.Perm (ks ++ ms) → sortedS ss = true → Rounds rows lw ms ss (n + 1) out) → Rounds rows lw fs ks n ((ms, us) :: out)
section
variable {w : World} {p : Program} {loose : List Str} {mean : ExcName → Option Value} {mg mb : Str → Option Value} {A₀ : Around} {dp un : Nat} {gd : Option (List Code)} {outer : List Env} {base : Heap} {L : Addr}
theorem rd_loop {q1 q2 q3 w1 : Stmt} {t it1 it2 it3 tg1 tg2 tg3 : PySem.Expr} {bd wrest rest wbd : List Stmt} {wp p1 p2 p3 : Pos} {A : Around} {env : Env}
    (hst : b928 = q1 :: q2 :: q3 :: Stmt.While t (w1 :: Stmt.For tg1 it1 [Stmt.For tg2 it2 [Stmt.For tg3 it3 bd [] p3] [] p2] [] p1 :: wrest) [] wp :: rest)
    (hbd : wbd = w1 :: Stmt.For tg1 it1 [Stmt.For tg2 it2 [Stmt.For tg3 it3 bd [] p3] [] p2] [] p1 :: wrest)
    (henv : env = envOf (Str.ofString "_law_rounds") s928 L 928 (.ref 927))
    {to x dx l : Addr} {its : Array Value} {n : Nat} {th : Tok} {c1 : Value} {Q : Flow → Shared → Prop} {E : Value → Shared → Prop} {rows : List (Str × Str)} {lw : Str → List (Str × List Str)} {s₀ : Shared}
    (XB : (KF w.params).In base) (TB : Top p loose mean mg mb base)
    (hA : A = ktrTop dp un gd (Str.ofString "_law_rounds") s928 L 928 (.ref 927) [] outer)
    (hd : dp + 48 < recursionLimit) (hu : un + 320 < cLine) (hE : PassesOwn (model P0 w) A env E) (hsz : its.size ≤ sizeLine)
    (m2 : @Ne Nat x to) (m3 : @Ne Nat dx to) (m4 : @Ne Nat l to) :
    ∀ {fs ks : List Str} {k : Nat} {out : List (List Str × List Str)}, Rounds rows lw fs ks k out → ∀ (h₀ h : Heap) (tk : Nat) {fr kn : Addr} {frv knv tov : Array Value} {nr nk nt : Nat} {tl : List (Addr × Obj)} {v0 v1 v2 v3 v4 : Option Value} {outs : List (List Str × List Str)},
    KtsDicts (outer.filterMap (·.frame)) h₀ → Below A₀ base outer h₀ → (KF w.params).In h₀ → Top p loose mean mg mb h₀ →
    Fr h₀ L h (rdM v0 v1 v2 v3 v4 (some (.ref fr)) (some (.ref kn)) (.ref x) c1 (.ref to)) → News h₀ L h ((fr, W.listOf frv nr) :: (x, instObj 188 dx) :: (dx, hdD w.params th l) :: (l, W.listOf its n) :: (to, W.listOf tov nt) :: (kn, W.listOf knv nk) :: tl) →
    @Ne Nat fr to → @Ne Nat kn to → (∀ q ∈ tl, q.1 ≠ to) → StrsOf fs frv.toList → StrsOf ks knv.toList → tov.size = k → ToldAt tl tov.toList outs → RowsAt tl its.toList rows →
    (∀ g h' tk' tov' nt' tl' u0 u1 u2 u3 u4 u5 u6, KtsTurn (outer.filterMap (·.frame)) h₀ g → Below A₀ base outer g → (KF w.params).In g → Top p loose mean mg mb g → KtsDicts (outer.filterMap (·.frame)) g → Fr g L h' (rdM u0 u1 u2 u3 u4 u5 u6 (.ref x) c1 (.ref to)) → News g L h' ((to, W.listOf tov' nt') :: tl') → (∀ q ∈ tl', q.1 ≠ to) → ToldAt tl' tov'.toList (outs ++ out) → (∀ q ∈ tl, q ∈ tl') → Q .next { s₀ with heap := h', toks := tk' }) →
    WhlRest P0 w A E env t wbd [] Q 1 { s₀ with heap := h, toks := tk } := by
  intro fs ks k out hR
  induction hR with
  | stop =>
    intro h₀ h tk fr kn frv knv tov nr nk nt tl v0 v1 v2 v3 v4 outs D B X T F N m1 m5 m6 hfs hks hk hto hr hQ
    refine rd_stop (s := { s₀ with heap := h, toks := tk }) (Nx := fun _ => False) hst hbd henv B F X T N hA hd hu hE hfs (fun _ h => nomatch h) rfl (fun _ q => q.elim) fun h' tk' F' N' => ?_
    exact hQ h₀ h' tk' tov nt tl _ _ _ _ _ _ _ KtsTurn.refl B X T D F' (fun q hq => N' q (by
      rcases List.mem_cons.mp hq with e | hq
      · rw [e]; exact .tail _ (.tail _ (.tail _ (.tail _ (.head _))))
      · exact .tail _ (.tail _ (.tail _ (.tail _ (.tail _ (.tail _ hq))))))) m6 (by rw [List.append_nil]; exact hto) (fun _ h => h)
  | @turn fs ks ms us k out c1' c2' c3' c4' c5' c6' c7' c8' c9' c10' _ ih =>
    intro h₀ h tk fr kn frv knv tov nr nk nt tl v0 v1 v2 v3 v4 outs D B X T F N m1 m5 m6 hfs hks hk hto hr hQ
    refine rd_turn (s := { s₀ with heap := h, toks := tk }) (Nx := fun s' => WhlRest P0 w A E env t wbd [] Q 1 s') (lw := lw) hst hbd henv XB TB D B F X T N hA hd hu hE hfs c3' c1' (by omega) (by omega) m1 m2 m3 m4 m5 m6 hks c4' (by rw [hks.size]; exact c5') c5' hr hsz c6' c7' c8' c9' c10' (fun _ q => q) ?_
    intro g h' tk' M U T2 K' xs ys kv nM nU nk' nt' u0 u1 u2 u3 u4 ss hT gB gX gP gD F' N' sm su sk sp sq e1 e2 e3 e4
    refine ih ss sp sq g h' tk' (outs := outs ++ [(ms, us)]) gD gB gX gP F' N' e1 e4 ?_ sm sk (by rw [Array.size_push, hk]) ?_ (hr.mono fun q hq => .tail _ (.tail _ (.tail _ hq))) ?_
    · intro q hq
      simp only [List.mem_cons] at hq
      rcases hq with e | e | e | e
      · rw [e]; exact e3
      · rw [e]; exact e1
      · rw [e]; exact e2
      · exact m6 q e
    · rw [Array.toList_push]
      exact ToldAt.app (hto.mono fun q hq => .tail _ (.tail _ (.tail _ hq))) (.cons (.head _) (.tail _ (.head _)) (.tail _ (.tail _ (.head _))) sm su .nil)
    · intro g2 h2 tk2 tov2 nt2 tl2 w0 w1' w2 w3 w4 w5 w6 hT2 gB2 gX2 gP2 gD2 F2 N2 n2 t2 s2
      exact hQ g2 h2 tk2 tov2 nt2 tl2 w0 w1' w2 w3 w4 w5 w6 (hT.trans hT2) gB2 gX2 gP2 gD2 F2 N2 n2 (by rw [List.append_assoc] at t2; exact t2) fun q hq => s2 q (.tail _ (.tail _ (.tail _ hq)))
end

end
section -- RndF
theorem row154 : True := by (k_with_none; trivial)
local macro_rules | `(tactic| k_all) => `(tactic| with_reducible assumption)
theorem row155 : True := by ((k_with "MINE enterS" => ((k_dflt (refine' enterS ?k1 ?k2 ?k3 ?k4 ?k5 ?XB ?TB ?kD ?kA ?kF ?kK ?k6 ?k7 ?k8 ?k9 ?kB ?_ ?c2 ?c3 ?c4 ?c5; (case kA => first | assumption | exact rfl); (case kF => first | assumption | exact rfl); (case kK => first | assumption | exact rfl); (case k1 => k_asm); (case k2 => k_asm); (case k3 => assumption); (case k4 => k_asm); (case k5 => assumption); (case XB => assumption); (case TB => assumption); (case kD => assumption); (case k6 => k_is); (case k7 => k_is); (case k8 => ktr_room); (case k9 => first | exact BindsTo.of_eq rfl | exact binds_K (by k_in) rfl (by k_is) rfl rfl rfl | exact kp_binds (by k_in) (fun _ => rfl) | fail "k_enter: no rule for these arguments"); (case c5 => decide); (case kB => exact locs rfl); (case c2 => exact rfl); (case c3 => exact rfl); (case c4 => exact rfl); k_whole; intro zkg' zkL' zkh' zkgk' zkFG' zkF' zkN' zkB' zkX' zkT' zkD' zkl1; (try k_lt zkl1); (try dsimp only); (try k_lift zkB'); (try k_fold))))); trivial)
theorem fill_rnf : (PySem.Challenge.rw_of0118_01.name = PySem.Challenge.rw_of0118_01.name) → (∀ P, KF P = KF P) := by
  k_fill
  intro _ _; rfl
theorem rdM_init {c0 c1 c2 w5 w6 : Value} : (fun y => if y = Str.ofString "told" then some c2 else if y = Str.ofString "fresh" then some w5 else if y = Str.ofString "known" then some w6 else List.lookup y [(Str.ofString "start", c1), (Str.ofString "table", c0)]) = rdM none none none none none (some w5) (some w6) c0 c1 c2 := by
  funext y
  have z0 : ¬ (Str.ofString "told" = Str.ofString "found") := by decide +kernel
  have z1 : ¬ (Str.ofString "told" = Str.ofString "name") := by decide +kernel
  have z2 : ¬ (Str.ofString "told" = Str.ofString "line") := by decide +kernel
  have z3 : ¬ (Str.ofString "told" = Str.ofString "word") := by decide +kernel
  have z4 : ¬ (Str.ofString "told" = Str.ofString "idle") := by decide +kernel
  have z5 : ¬ (Str.ofString "told" = Str.ofString "fresh") := by decide +kernel
  have z6 : ¬ (Str.ofString "told" = Str.ofString "known") := by decide +kernel
  have z7 : ¬ (Str.ofString "told" = Str.ofString "table") := by decide +kernel
  have z8 : ¬ (Str.ofString "told" = Str.ofString "start") := by decide +kernel
  have z9 : ¬ (Str.ofString "fresh" = Str.ofString "found") := by decide +kernel
  have z10 : ¬ (Str.ofString "fresh" = Str.ofString "name") := by decide +kernel
  have z11 : ¬ (Str.ofString "fresh" = Str.ofString "line") := by decide +kernel
  have z12 : ¬ (Str.ofString "fresh" = Str.ofString "word") := by decide +kernel
  have z13 : ¬ (Str.ofString "fresh" = Str.ofString "idle") := by decide +kernel
  have z14 : ¬ (Str.ofString "known" = Str.ofString "found") := by decide +kernel
  have z15 : ¬ (Str.ofString "known" = Str.ofString "name") := by decide +kernel
  have z16 : ¬ (Str.ofString "known" = Str.ofString "line") := by decide +kernel
  have z17 : ¬ (Str.ofString "known" = Str.ofString "word") := by decide +kernel
  have z18 : ¬ (Str.ofString "known" = Str.ofString "idle") := by decide +kernel
  have z19 : ¬ (Str.ofString "known" = Str.ofString "fresh") := by decide +kernel
  have z20 : ¬ (Str.ofString "start" = Str.ofString "found") := by decide +kernel
  have z21 : ¬ (Str.ofString "start" = Str.ofString "name") := by decide +kernel
  have z22 : ¬ (Str.ofString "start" = Str.ofString "line") := by decide +kernel
  have z23 : ¬ (Str.ofString "start" = Str.ofString "word") := by decide +kernel
  have z24 : ¬ (Str.ofString "start" = Str.ofString "idle") := by decide +kernel
  have z25 : ¬ (Str.ofString "start" = Str.ofString "fresh") := by decide +kernel
  have z26 : ¬ (Str.ofString "start" = Str.ofString "known") := by decide +kernel
  have z27 : ¬ (Str.ofString "start" = Str.ofString "table") := by decide +kernel
  have z28 : ¬ (Str.ofString "table" = Str.ofString "found") := by decide +kernel
  have z29 : ¬ (Str.ofString "table" = Str.ofString "name") := by decide +kernel
  have z30 : ¬ (Str.ofString "table" = Str.ofString "line") := by decide +kernel
  have z31 : ¬ (Str.ofString "table" = Str.ofString "word") := by decide +kernel
  have z32 : ¬ (Str.ofString "table" = Str.ofString "idle") := by decide +kernel
  have z33 : ¬ (Str.ofString "table" = Str.ofString "fresh") := by decide +kernel
  have z34 : ¬ (Str.ofString "table" = Str.ofString "known") := by decide +kernel
  have z35 : (Str.ofString "table" == Str.ofString "start") = false := by decide +kernel
  by_cases h0 : y = Str.ofString "told"
  · subst h0; simp [rdM, List.lookup_cons, z0, z1, z2, z3, z4, z5, z6, z7, z8, z9, z10, z11, z12, z13, z14, z15, z16, z17, z18, z19, z20, z21, z22, z23, z24, z25, z26, z27, z28, z29, z30, z31, z32, z33, z34, z35]
  · skip
    by_cases h1 : y = Str.ofString "fresh"
    · subst h1; simp [rdM, List.lookup_cons, z0, z1, z2, z3, z4, z5, z6, z7, z8, z9, z10, z11, z12, z13, z14, z15, z16, z17, z18, z19, z20, z21, z22, z23, z24, z25, z26, z27, z28, z29, z30, z31, z32, z33, z34, z35, h0]
    · skip
      by_cases h2 : y = Str.ofString "known"
      · subst h2; simp [rdM, List.lookup_cons, z0, z1, z2, z3, z4, z5, z6, z7, z8, z9, z10, z11, z12, z13, z14, z15, z16, z17, z18, z19, z20, z21, z22, z23, z24, z25, z26, z27, z28, z29, z30, z31, z32, z33, z34, z35, h0, h1]
      · skip
        by_cases h3 : y = Str.ofString "start"
        · subst h3; simp [rdM, List.lookup_cons, z0, z1, z2, z3, z4, z5, z6, z7, z8, z9, z10, z11, z12, z13, z14, z15, z16, z17, z18, z19, z20, z21, z22, z23, z24, z25, z26, z27, z28, z29, z30, z31, z32, z33, z34, z35, h0, h1, h2]
        · have e3 : (y == Str.ofString "start") = false := by rw [beq_eq_false_iff_ne]; exact h3
          skip
          by_cases h4 : y = Str.ofString "table"
          · subst h4; simp [rdM, List.lookup_cons, z0, z1, z2, z3, z4, z5, z6, z7, z8, z9, z10, z11, z12, z13, z14, z15, z16, z17, z18, z19, z20, z21, z22, z23, z24, z25, z26, z27, z28, z29, z30, z31, z32, z33, z34, z35, h0, h1, h2, h3, e3]
          · have e4 : (y == Str.ofString "table") = false := by rw [beq_eq_false_iff_ne]; exact h4
            simp [rdM, List.lookup_cons, h0, h1, h2, h3, e3, h4, e4]

theorem News.rnd4 {h₀ h : Heap} {L : Addr} {a1 a2 a3 a4 a5 a6 : Addr × Obj} {l : List (Addr × Obj)} (N : News h₀ L h (a1 :: a2 :: a3 :: a4 :: a5 :: a6 :: l)) : News h₀ L h (a2 :: a4 :: a5 :: a6 :: a1 :: a3 :: l) := News.consN (N _ (.tail _ (.head _))) (News.consN (N _ (.tail _ (.tail _ (.tail _ (.head _))))) (News.consN (N _ (.tail _ (.tail _ (.tail _ (.tail _ (.head _)))))) (News.consN (N _ (.tail _ (.tail _ (.tail _ (.tail _ (.tail _ (.head _))))))) (News.consN (N _ (.head _)) (News.consN (N _ (.tail _ (.tail _ (.head _)))) (fun q hq => N q (.tail _ (.tail _ (.tail _ (.tail _ (.tail _ (.tail _ (hq)))))))))))))
section
variable {w : World} {p : Program} {loose : List Str} {mean : ExcName → Option Value} {mg mb : Str → Option Value} {A₀ : Around} {dp un : Nat} {gd : Option (List Code)} {cn : Str} {cs : Scope} {ca : Addr} {ccd : Value} {cl : List (Str × Addr)} {outer : List Env} {base h₀ : Heap} {L : Addr} {m : Str → Option Value} {s : Shared} {news : List (Addr × Obj)} {R : Result → Shared → Prop}
theorem row156 : True := by ((k_with "exec While" => ((k_here; k_dflt (refine whl_start 1 ?_; refine' rd_loop rfl rfl rfl ?XB ?TB rfl ?hd ?hu ?hE ?hsz ?m2 ?m3 ?m4 ?hR _ _ _ ?wD ?wB ?wX ?wT ?wF ?wN ?n1 ?n2 ?n3 ?s1 ?s2 ?k0 ?tl ?hr ?_; (case wF => exact Fr.cong rdM_init (by assumption)); (case wN => exact News.rnd4 (by assumption)); (case wB => assumption); (case XB => assumption); (case TB => assumption); (case wD => assumption); (case wX => assumption); (case wT => assumption); (case hd => ktr_room); (case hu => ktr_units); (case hE => first | passes_own | with_unfolding_all passes_own); (case hsz => assumption); (case m2 => k_ne); (case m3 => k_ne); (case m4 => k_ne); (case n1 => k_ne); (case n2 => k_ne); (case n3 => k_all); (case s1 => exact .cons ⟨_, rfl⟩ .nil); (case s2 => exact .cons ⟨_, rfl⟩ .nil); (case hR => assumption); (case k0 => exact rfl); (case tl => exact .nil); (case hr => assumption)); intro zkg3' zkh3' zktk3' zktov3' zknt3' zktl3' zku0' zku1' zku2' zku3' zku4' zku5' zku6' zkhT3' zkgB3' zkgX3' zkgP3' zkgD3' zkF3' zkN3' zkn3' zkt3' zks3'; (try k_sweep)))); trivial)
theorem rounds_c {x dx l : Addr} {its : Array Value} {n : Nat} {th ts : Tok} {st : Str} {rows : List (Str × Str)} {lw : Str → List (Str × List Str)} {out : List (List Str × List Str)}
    (XB : (KF w.params).In base) (TB : Top p loose mean mg mb base) (D : KtsDicts (outer.filterMap (·.frame)) h₀) (B : Below A₀ base outer h₀) (F : Fr h₀ L s.heap m) (X : (KF w.params).In h₀) (N : News h₀ L s.heap news) (T : Top p loose mean mg mb h₀) (hke : cs.kind = .function)
    (hx : (x, instObj 188 dx) ∈ news) (hdx : (dx, hdD w.params th l) ∈ news) (hl : (l, W.listOf its n) ∈ news) (hr : RowsAt news its.toList rows) (hsz : its.size ≤ sizeLine) (hR : Rounds rows lw [st] [st] 0 out)
    (hd : dp + 52 < recursionLimit) (hu : un + 360 < cLine)
    (hret : ∀ g h' tk' to tov nt tl, KtsTurn (outer.filterMap (·.frame)) h₀ g → Fr g L h' m → News g L h' ((to, W.listOf tov nt) :: tl) → Below A₀ base outer g → (KF w.params).In g → Top p loose mean mg mb g → KtsDicts (outer.filterMap (·.frame)) g → (∀ q ∈ tl, q.1 ≠ to) → ToldAt tl tov.toList out → (∀ q ∈ news, q ∈ tl) → R (.ok (.ret (.ref to))) { s with heap := h', toks := tk' }) :
    codeAny (model P0 w) (ktrTop dp un gd cn cs L ca ccd cl outer) (.call (.ref 928) ⟨[.ref x, .str st ts], []⟩) R s := by
  w_on
  have Nm : News h₀ L s.heap ((x, instObj 188 dx) :: (dx, hdD w.params th l) :: (l, W.listOf its n) :: news) := fun q hq => by
    simp only [List.mem_cons] at hq
    rcases hq with e | e | e | e
    · rw [e]; exact N _ hx
    · rw [e]; exact N _ hdx
    · rw [e]; exact N _ hl
    · exact N q e
  clear N
  walk_at "MINE enterS"
  k_steps
  refine' hret _ _ _ _ _ _ _ ?T ?F ?N ?B ?X ?P ?D ?n ?t ?s
  case T => assumption
  case F => assumption
  case N => assumption
  case B => assumption
  case X => assumption
  case P => assumption
  case D => assumption
  case n => assumption
  case t => assumption
  case s => assumption
end

end
section -- DueA
section
variable {prog : Program} {w : World} {A : Around} {E : Value → Shared → Prop} {s : Shared} {env : Env} {R : Result → Shared → Prop}
/-- one turn of a list comprehension with one test, whatever its target and its iterator -/
theorem cm_step {elt ct iter tg : PySem.Expr} {scope : Scope} {pos : Pos} {it acc : Value} {Nx : Shared → Prop} {En : Value → Shared → Prop} (hEn : En = notedBy (model prog w) A env fun e s' => R (.error e) s')
    (hN : ∀ s', Nx s' → codeAny (model prog w) A (.compLoop (.ListComp elt [⟨tg, iter, [ct], 0⟩] scope pos) 0 it acc env) R s')
    (h : wpAny (model prog w) A (pyNext it) (fun r s₁ => match r with
      | none => R (.ok .next) s₁
      | some v => wpAny (model prog w) A (letOwnedTupleGo tg it v) (fun _ s₂ => wpAny (model prog w) A (assign tg env v) (fun _ s₃ => wpAny (model prog w) A (PySem.isTrue ct env (eval ct env)) (fun ok s₄ =>
          if ok = true then wpAny (model prog w) A (eval elt env) (fun x s₅ => wpAny (model prog w) A (call (.builtin "list.append") [acc, x]) (fun _ s₆ => Nx s₆) En s₅) En s₄ else Nx s₄) En s₃) En s₂) En s₁) En s) :
    codeAny (model prog w) A (.compLoop (.ListComp elt [⟨tg, iter, [ct], 0⟩] scope pos) 0 it acc env) R s := by
  subst hEn
  refine codeAny_of_tree ?_
  show wpAny _ A ((compTurn (.ListComp elt [⟨tg, iter, [ct], 0⟩] scope pos) 0 it acc env).onRaise (fun x => do noteFrame x env; theTreesLotGoes x)) _ _ s
  refine wpAny_noted ?_
  rw [compTurn_list]
  refine wpAny_bind (wpAny_standAt (wpAny_bind (wpAny_mono h (fun r s₁ h₁ => ?_) fun _ _ h' => h')))
  cases r with
  | none => exact wpAny_pure h₁
  | some v =>
    refine wpAny_bind (wpAny_mono h₁ (fun _ s₂ h₂ => ?_) fun _ _ h' => h')
    refine wpAny_bind (wpAny_mono h₂ (fun _ s₃ h₃ => wpAny_bind (wpAny_tests_one (wpAny_mono h₃ (fun ok s₄ h₄ => ?_) fun _ _ h' => h'))) fun _ _ h' => h')
    cases ok with
    | false => exact wpAny_pure ⟨rfl, hN _ h₄⟩
    | true => exact wpAny_bind (wpAny_bind (wpAny_mono h₄ (fun x s₅ h₅ => wpAny_bind (wpAny_mono h₅ (fun _ s₆ h₆ => wpAny_pure (wpAny_pure ⟨rfl, hN _ h₆⟩)) fun _ _ h' => h')) fun _ _ h' => h'))
end

end
section -- DueB
theorem row157 : True := by (k_with_none; trivial)
local macro_rules | `(tactic| k_all) => `(tactic| with_reducible assumption)
theorem fill_dub : (PySem.Challenge.rw_of0118_01.name = PySem.Challenge.rw_of0118_01.name) → (∀ P, KF P = KF P) := by
  k_fill
  intro _ _; rfl
noncomputable abbrev duM (v0 v1 v2 v3 v4 v5 v6 : Option Value) (c0 c1 : Value) : Str → Option Value := fun y => if y = Str.ofString "k" then v0 else if y = Str.ofString "tail" then v1 else if y = Str.ofString "head" then v2 else if y = Str.ofString "loud" then v3 else if y = Str.ofString "told" then v4 else if y = Str.ofString "fresh" then v5 else if y = Str.ofString "idle" then v6 else if y = Str.ofString "arrows" then some c0 else if y = Str.ofString "start" then some c1 else none
theorem duM_k {v0 v1 v2 v3 v4 v5 v6 : Option Value} {u c0 c1 : Value} (y : Str) : (if y = Str.ofString "k" then some u else duM v0 v1 v2 v3 v4 v5 v6 c0 c1 y) = duM (some u) v1 v2 v3 v4 v5 v6 c0 c1 y := by
  by_cases h : y = Str.ofString "k"
  · subst h; simp [duM]
  · simp [duM, h]
theorem dun_1_0 : ¬ (Str.ofString "tail" = Str.ofString "k") := by decide +kernel
theorem duM_tail {v0 v1 v2 v3 v4 v5 v6 : Option Value} {u c0 c1 : Value} (y : Str) : (if y = Str.ofString "tail" then some u else duM v0 v1 v2 v3 v4 v5 v6 c0 c1 y) = duM v0 (some u) v2 v3 v4 v5 v6 c0 c1 y := by
  by_cases h : y = Str.ofString "tail"
  · subst h; simp [duM, dun_1_0]
  · simp [duM, h]
theorem dun_2_0 : ¬ (Str.ofString "head" = Str.ofString "k") := by decide +kernel
theorem dun_2_1 : ¬ (Str.ofString "head" = Str.ofString "tail") := by decide +kernel
theorem duM_head {v0 v1 v2 v3 v4 v5 v6 : Option Value} {u c0 c1 : Value} (y : Str) : (if y = Str.ofString "head" then some u else duM v0 v1 v2 v3 v4 v5 v6 c0 c1 y) = duM v0 v1 (some u) v3 v4 v5 v6 c0 c1 y := by
  by_cases h : y = Str.ofString "head"
  · subst h; simp [duM, dun_2_0, dun_2_1]
  · simp [duM, h]
theorem dun_3_0 : ¬ (Str.ofString "loud" = Str.ofString "k") := by decide +kernel
theorem dun_3_1 : ¬ (Str.ofString "loud" = Str.ofString "tail") := by decide +kernel
theorem dun_3_2 : ¬ (Str.ofString "loud" = Str.ofString "head") := by decide +kernel
theorem duM_loud {v0 v1 v2 v3 v4 v5 v6 : Option Value} {u c0 c1 : Value} (y : Str) : (if y = Str.ofString "loud" then some u else duM v0 v1 v2 v3 v4 v5 v6 c0 c1 y) = duM v0 v1 v2 (some u) v4 v5 v6 c0 c1 y := by
  by_cases h : y = Str.ofString "loud"
  · subst h; simp [duM, dun_3_0, dun_3_1, dun_3_2]
  · simp [duM, h]
theorem dun_4_0 : ¬ (Str.ofString "told" = Str.ofString "k") := by decide +kernel
theorem dun_4_1 : ¬ (Str.ofString "told" = Str.ofString "tail") := by decide +kernel
theorem dun_4_2 : ¬ (Str.ofString "told" = Str.ofString "head") := by decide +kernel
theorem dun_4_3 : ¬ (Str.ofString "told" = Str.ofString "loud") := by decide +kernel
theorem duM_told {v0 v1 v2 v3 v4 v5 v6 : Option Value} {u c0 c1 : Value} (y : Str) : (if y = Str.ofString "told" then some u else duM v0 v1 v2 v3 v4 v5 v6 c0 c1 y) = duM v0 v1 v2 v3 (some u) v5 v6 c0 c1 y := by
  by_cases h : y = Str.ofString "told"
  · subst h; simp [duM, dun_4_0, dun_4_1, dun_4_2, dun_4_3]
  · simp [duM, h]
theorem dun_5_0 : ¬ (Str.ofString "fresh" = Str.ofString "k") := by decide +kernel
theorem dun_5_1 : ¬ (Str.ofString "fresh" = Str.ofString "tail") := by decide +kernel
theorem dun_5_2 : ¬ (Str.ofString "fresh" = Str.ofString "head") := by decide +kernel
theorem dun_5_3 : ¬ (Str.ofString "fresh" = Str.ofString "loud") := by decide +kernel
theorem dun_5_4 : ¬ (Str.ofString "fresh" = Str.ofString "told") := by decide +kernel
theorem duM_fresh {v0 v1 v2 v3 v4 v5 v6 : Option Value} {u c0 c1 : Value} (y : Str) : (if y = Str.ofString "fresh" then some u else duM v0 v1 v2 v3 v4 v5 v6 c0 c1 y) = duM v0 v1 v2 v3 v4 (some u) v6 c0 c1 y := by
  by_cases h : y = Str.ofString "fresh"
  · subst h; simp [duM, dun_5_0, dun_5_1, dun_5_2, dun_5_3, dun_5_4]
  · simp [duM, h]
theorem dun_6_0 : ¬ (Str.ofString "idle" = Str.ofString "k") := by decide +kernel
theorem dun_6_1 : ¬ (Str.ofString "idle" = Str.ofString "tail") := by decide +kernel
theorem dun_6_2 : ¬ (Str.ofString "idle" = Str.ofString "head") := by decide +kernel
theorem dun_6_3 : ¬ (Str.ofString "idle" = Str.ofString "loud") := by decide +kernel
theorem dun_6_4 : ¬ (Str.ofString "idle" = Str.ofString "told") := by decide +kernel
theorem dun_6_5 : ¬ (Str.ofString "idle" = Str.ofString "fresh") := by decide +kernel
theorem duM_idle {v0 v1 v2 v3 v4 v5 v6 : Option Value} {u c0 c1 : Value} (y : Str) : (if y = Str.ofString "idle" then some u else duM v0 v1 v2 v3 v4 v5 v6 c0 c1 y) = duM v0 v1 v2 v3 v4 v5 (some u) c0 c1 y := by
  by_cases h : y = Str.ofString "idle"
  · subst h; simp [duM, dun_6_0, dun_6_1, dun_6_2, dun_6_3, dun_6_4, dun_6_5]
  · simp [duM, h]


noncomputable def relax (far : List Int) (a : Int × Int × Int) : List Int := far.set a.2.1.toNat (if far.getD a.1.toNat 0 + 1 < far.getD a.2.1.toNat 0 then far.getD a.1.toNat 0 + 1 else far.getD a.2.1.toNat 0)
theorem relax_len {far : List Int} {a : Int × Int × Int} : (relax far a).length = far.length := List.length_set ..
theorem eq_du {v0 v1 v2 v3 v4 v5 v6 : Option Value} {u1 u2 u3 c0 c1 : Value} : (fun y => if y = Str.ofString "loud" then some u3 else if y = Str.ofString "head" then some u2 else if y = Str.ofString "tail" then some u1 else duM v0 v1 v2 v3 v4 v5 v6 c0 c1 y) = duM v0 (some u1) (some u2) (some u3) v4 v5 v6 c0 c1 := funext fun y => by rw [duM_tail, duM_head, duM_loud]
section
variable {prog : Program} {w : World} {A : Around} {E : Value → Shared → Prop} {s : Shared} {h₀ : Heap} {L : Addr} {m : Str → Option Value} {news : List (Addr × Obj)}
/-- a tuple of three into three names of a frame -/
theorem assign3 {env : Env} {a b c : Str} {pa pb pc tp : Pos} {kk : Nat} {T : Addr} {x y z : Value} {Q : Unit → Shared → Prop} (hh : A.handled = none) (F : Fr h₀ L s.heap m) (N : News h₀ L s.heap news) (hT : (T, tup3 x y z) ∈ news)
    (hL : env.locals = L) (ha : env.kindOf a = some .local) (hb : env.kindOf b = some .local) (hc : env.kindOf c = some .local) (hp : (env.scope.kind == .class || (env.scope.kind == .module && env.locals != env.globals)) = false)
    (h : ∀ h' tk, Fr h₀ L h' (fun q => if q = c then some z else if q = b then some y else if q = a then some x else m q) → News h₀ L h' news → Q () { s with heap := h', toks := tk }) :
    wpAny (model prog w) A (assign (.Tuple [.Name a pa, .Name b pb, .Name c pc] kk tp) env (.ref T)) Q E s := by
  subst hL
  have nL := fun {h : Heap} {m' : Str → Option Value} (G : Fr h₀ env.locals h m') => Heap.get?_none_of_le G.above
  have put : ∀ {h h' : Heap} {m' : Str → Option Value} {n : Str} {v : Value}, Fr h₀ env.locals h m' → News h₀ env.locals h news → h'.Ns env.locals (fun q => if q = n then some v else m' q) → Heap.SameBut env.locals h h' → Fr h₀ env.locals h' (fun q => if q = n then some v else m' q) ∧ News h₀ env.locals h' news := fun G M hn hs =>
    ⟨⟨hn, fun d o e => hs.extBut d o (fun q => by rw [q, nL G] at e; cases e) (G.keep d o e), G.above⟩, fun q hq => ⟨hs.extBut _ _ (M q hq).2.1 (M q hq).1, (M q hq).2⟩⟩
  refine wpAny_assign_Tuple hh ⟨_, (N _ hT).1, rfl, _, rfl⟩ rfl rfl fun h₁ e₁ => ?_
  have lt : ∀ d o, s.heap.get? d = some o → h₁.get? d = some o := fun d o e => e₁ d o (Nat.ne_of_lt (Heap.lt_size e)) e
  have F₁ : Fr h₀ env.locals h₁ m := F.keeps lt
  have N₁ : News h₀ env.locals h₁ news := fun q hq => ⟨lt _ _ (N q hq).1, (N q hq).2⟩
  refine assignInOrder_cons (wpAny_assign_Name (wpAny_storeName_local ha F₁.ns (fun h₂ n₂ s₂ => ?_) hp))
  obtain ⟨F₂, N₂⟩ := put F₁ N₁ n₂ s₂
  refine assignInOrder_cons (wpAny_assign_Name (wpAny_storeName_local hb F₂.ns (fun h₃ n₃ s₃ => ?_) hp))
  obtain ⟨F₃, N₃⟩ := put F₂ N₂ n₃ s₃
  refine assignInOrder_cons (wpAny_assign_Name (wpAny_storeName_local hc F₃.ns (fun h₄ n₄ s₄ => ?_) hp))
  obtain ⟨F₄, N₄⟩ := put F₃ N₃ n₄ s₄
  exact assignInOrder_nil (h h₄ _ F₄ N₄)
end
noncomputable abbrev duL (L f : Addr) (fvs : List Value) (nf : Nat) (oM oD oF oP : Obj) (pl : Addr) (plv : Array Value) (np : Nat) (ar : Addr) (acc : Array Value) (nA : Nat) (tl : List (Addr × Obj)) : List (Addr × Obj) :=
  (f, W.listOf fvs.toArray nf) :: (L + 1 + 1 + 1 + 1, oM) :: (L + 1 + 1 + 1, oD) :: (L + 1 + 1, oF) :: (L + 1, oP) :: (pl, W.listOf plv np) :: (ar, W.listOf acc nA) :: tl
section
variable {w : World} {p : Program} {loose : List Str} {mean : ExcName → Option Value} {mg mb : Str → Option Value} {A₀ : Around} {dp un : Nat} {gd : Option (List Code)} {outer : List Env} {base h₀ : Heap} {L : Addr} {s : Shared}
theorem row158 : True := by ((k_with "subscriptTail" => ((k_here; (with_reducible show wpAny _ _ (subscriptTail _ _ (Value.ref _) (Value.int _ _)) _ _ _); k_dflt (refine' ksa_sub ?k1 ?k2 ?k3 ?k4 ?k5 ?k6 ?_ ?k7; (case k1 => k_asm); (case k2 => k_mem); (case k3 => with_reducible assumption); (case k4 => omega); (case k5 => omega); (case k6 => omega); (case k7 => with_unfolding_all rfl); k_whole); intro _))); trivial)
theorem row159 : True := by ((k_with "setItem ref int" => ((k_here; (with_reducible show wpAny _ _ (setItem (Value.ref _) (Value.int _ _) (Value.int _ _)) _ _ _); k_dflt (refine' ksa_set ?k1 ?k2 ?k3 ?k4 ?k5 ?k6 ?k7 ?_; (case k1 => k_asm); (case k2 => k_asm); (case k3 => k_upd); (case k4 => with_reducible assumption); (case k5 => omega); (case k6 => omega); (case k7 => omega); k_whole); intro zkh' zkF' zkN' zkhi' zkhl' zkhs'; (try k_sweep)))); trivial)
theorem du_turn {q1 q2 : Stmt} {it1 it2 tg1 : PySem.Expr} {a1 a2 a3 : Str} {pa pb pc tp : Pos} {kk : Nat} {bd rest : List Stmt} {p1 p2 : Pos} {A : Around} {env : Env}
    (hst : b933 = q1 :: q2 :: Stmt.For tg1 it1 [Stmt.For (.Tuple [.Name a1 pa, .Name a2 pb, .Name a3 pc] kk tp) it2 bd [] p2] [] p1 :: rest)
    (henv : env = envOfC (Str.ofString "_law_due") s933 L 933 (.ref 932))
    {I f pl ar b : Addr} {oI oM oD oF oP : Obj} {i : Nat} {plv acc : Array Value} {np nA nf : Nat} {fvs : List Value} {far : List Int} {tl : List (Addr × Obj)} {v0 v1 v2 v3 v4 v5 v6 : Option Value} {c1 : Value} {a : Int × Int × Int} {t1 t2 t3 : Tok} {Q : Flow → Shared → Prop} {E : Value → Shared → Prop} {Nx : Shared → Prop}
    (B : Below A₀ base outer h₀) (F : Fr h₀ L s.heap (duM v0 v1 v2 v3 v4 v5 v6 (.ref ar) c1)) (X : (KF w.params).In h₀) (T : Top p loose mean mg mb h₀)
    (N : News h₀ L s.heap ((I, oI) :: duL L f fvs nf oM oD oF oP pl plv np ar acc nA tl))
    (hA : A = (ktrTop dp un gd (Str.ofString "_law_due") s933 L 933 (.ref 932) (cellsFrom (L + 1) s933.names []) outer))
    (hI : IterAt oI ar i) (hoF : oF.data = .cell (some (.ref f)))
    (n1 : @LT.lt Nat _ (L + 1 + 1 + 1 + 1) f) (n2 : @LT.lt Nat _ pl L) (n3 : @LT.lt Nat _ ar L) (n4 : @LT.lt Nat _ f I) (n5 : ∀ q ∈ tl, q.1 ≠ f) (n6 : ∀ q ∈ tl, q.1 ≠ I)
    (hd : dp + 8 < recursionLimit) (hu : un + 60 < cLine) (hE : PassesOwn (model P0 w) A env E)
    (hfa : IntsAre fvs far) (hfl : far.length = 5) (hb : (b, tup3 (.int a.1 t1) (.int a.2.1 t2) (.int a.2.2 t3)) ∈ tl) (ha0 : 0 ≤ a.1) (ha1 : a.1 < 5) (ha2 : 0 ≤ a.2.1) (ha3 : a.2.1 < 5)
    (hx : acc[i]? = some (.ref b))
    (hN : ∀ s', Nx s' → ForV P0 w A E env (.Tuple [.Name a1 pa, .Name a2 pb, .Name a3 pc] kk tp) bd Q (.ref I) s')
    (h : ∀ h' tk' oI' fvs' u1 u2 u3, Fr h₀ L h' (duM v0 u1 u2 u3 v4 v5 v6 (.ref ar) c1) → News h₀ L h' ((I, oI') :: duL L f fvs' nf oM oD oF oP pl plv np ar acc nA tl) → IterAt oI' ar (i + 1) → IntsAre fvs' (relax far a) → Nx { s with heap := h', toks := tk' }) :
    ForV P0 w A E env (.Tuple [.Name a1 pa, .Name a2 pb, .Name a3 pc] kk tp) bd Q (.ref I) s := by
  w_on
  cases hst
  subst henv
  subst hA
  refine for_turn (ax := ar) (its := acc) (n := nA) hE hN F N hI (by simp) ?_ hx ?_
  · intro q hq
    simp only [List.mem_cons] at hq
    rcases hq with e | e | e | e | e | e | e | e
    · rw [e]; exact Nat.ne_of_lt n4
    all_goals first | (rw [e]; show @Ne Nat _ _; omega) | exact n6 q e
  clear F N
  intro h' oI' F N hI'
  refine assign3 rfl F N (.tail _ (.tail _ (.tail _ (.tail _ (.tail _ (.tail _ (.tail _ (.tail _ hb)))))))) rfl rfl rfl rfl rfl ?_
  clear F N
  intro h' tk F N
  replace F := Fr.cong eq_du F
  k_steps
  exact h _ _ _ _ _ _ _ (by assumption) (by assumption) hI' (by assumption)
theorem ArrAt.no {led : List (Addr × Obj)} {v : Array Value} {i : Nat} (h : ArrAt led (v.toList.drop i) []) : v[i]? = none := by
  cases hd : v.toList.drop i with
  | nil => exact Array.getElem?_eq_none (by simpa using List.drop_eq_nil_iff.mp hd)
  | cons y ys => rw [hd] at h; cases h
theorem du_inner {q1 q2 : Stmt} {it1 it2 tg1 : PySem.Expr} {a1 a2 a3 : Str} {pa pb pc tp : Pos} {kk : Nat} {bd rest : List Stmt} {p1 p2 : Pos} {A : Around} {env : Env}
    (hst : b933 = q1 :: q2 :: Stmt.For tg1 it1 [Stmt.For (.Tuple [.Name a1 pa, .Name a2 pb, .Name a3 pc] kk tp) it2 bd [] p2] [] p1 :: rest)
    (henv : env = envOfC (Str.ofString "_law_due") s933 L 933 (.ref 932))
    {I f pl ar : Addr} {oM oD oF oP : Obj} {plv acc : Array Value} {np nA nf : Nat} {tl : List (Addr × Obj)} {v0 v4 v5 v6 : Option Value} {c1 : Value} {Q : Flow → Shared → Prop} {E : Value → Shared → Prop} {s₀ : Shared}
    (B : Below A₀ base outer h₀) (X : (KF w.params).In h₀) (T : Top p loose mean mg mb h₀)
    (hA : A = (ktrTop dp un gd (Str.ofString "_law_due") s933 L 933 (.ref 932) (cellsFrom (L + 1) s933.names []) outer))
    (hoF : oF.data = .cell (some (.ref f)))
    (n1 : @LT.lt Nat _ (L + 1 + 1 + 1 + 1) f) (n2 : @LT.lt Nat _ pl L) (n3 : @LT.lt Nat _ ar L) (n4 : @LT.lt Nat _ f I) (n5 : ∀ q ∈ tl, q.1 ≠ f) (n6 : ∀ q ∈ tl, q.1 ≠ I)
    (hd : dp + 8 < recursionLimit) (hu : un + 60 < cLine) (hE : PassesOwn (model P0 w) A env E) :
    ∀ (as : List (Int × Int × Int)) (h : Heap) (tk : Nat) {oI : Obj} {i : Nat} {fvs : List Value} {far : List Int} {v1 v2 v3 : Option Value},
    Fr h₀ L h (duM v0 v1 v2 v3 v4 v5 v6 (.ref ar) c1) → News h₀ L h ((I, oI) :: duL L f fvs nf oM oD oF oP pl plv np ar acc nA tl) → IterAt oI ar i → IntsAre fvs far → far.length = 5 → ArrAt tl (acc.toList.drop i) as → (∀ a ∈ as, GoodArr a) →
    (∀ h' tk' fvs' u1 u2 u3, Fr h₀ L h' (duM v0 u1 u2 u3 v4 v5 v6 (.ref ar) c1) → News h₀ L h' (duL L f fvs' nf oM oD oF oP pl plv np ar acc nA tl) → IntsAre fvs' (as.foldl relax far) → Q .next { s₀ with heap := h', toks := tk' }) →
    ForV P0 w A E env (.Tuple [.Name a1 pa, .Name a2 pb, .Name a3 pc] kk tp) bd Q (.ref I) { s₀ with heap := h, toks := tk } := by
  intro as
  induction as with
  | nil =>
    intro h tk oI i fvs far v1 v2 v3 F N hI hfa hfl ha hg hQ
    refine for_end (ax := ar) (its := acc) (n := nA) (s := { s₀ with heap := h, toks := tk }) hE (by subst hA; rfl) F N hI (by simp) ?_ ha.no fun h' F' N' => hQ h' tk fvs v1 v2 v3 F' N' hfa
    intro q hq
    simp only [List.mem_cons] at hq
    rcases hq with e | e | e | e | e | e | e | e
    · rw [e]; exact Nat.ne_of_lt n4
    all_goals first | (rw [e]; show @Ne Nat _ _; omega) | exact n6 q e
  | cons a as ih =>
    intro h tk oI i fvs far v1 v2 v3 F N hI hfa hfl ha hg hQ
    obtain ⟨b, t1, t2, t3, hx, hb, ha'⟩ := ha.at
    obtain ⟨ga1, ga2, _⟩ := hg a (.head _)
    refine du_turn (s := { s₀ with heap := h, toks := tk }) (Nx := fun s' => ForV P0 w A E env (.Tuple [.Name a1 pa, .Name a2 pb, .Name a3 pc] kk tp) bd Q (.ref I) s') hst henv B F X T N hA hI hoF n1 n2 n3 n4 n5 n6 hd hu hE hfa hfl hb ga1.1 ga1.2 ga2.1 ga2.2 hx (fun _ q => q) ?_
    intro h' tk' oI' fvs' u1 u2 u3 F' N' hI' hfa'
    exact ih h' tk' F' N' hI' hfa' (relax_len.trans hfl) ha' (fun x hx => hg x (.tail _ hx)) hQ
end

end
section -- DueC
theorem row160 : True := by (k_with_none; trivial)
local macro_rules | `(tactic| k_all) => `(tactic| with_reducible assumption)
theorem fill_duc : (PySem.Challenge.rw_of0118_01.name = PySem.Challenge.rw_of0118_01.name) → (∀ P, KF P = KF P) := by
  k_fill
  intro _ _; rfl
theorem eq_duk {v0 v1 v2 v3 v4 v5 v6 : Option Value} {u c0 c1 : Value} : (fun y => if y = Str.ofString "k" then some u else duM v0 v1 v2 v3 v4 v5 v6 c0 c1 y) = duM (some u) v1 v2 v3 v4 v5 v6 c0 c1 := funext fun y => by rw [duM_k]
theorem News.du1 {h₀ h : Heap} {L : Addr} {a b c1 c2 c3 c4 c5 c6 c7 : Addr × Obj} {l : List (Addr × Obj)} (N : News h₀ L h (a :: b :: c1 :: c2 :: c3 :: c4 :: c5 :: c6 :: c7 :: l)) : News h₀ L h (a :: c1 :: c2 :: c3 :: c4 :: c5 :: c6 :: c7 :: b :: l) := News.consN (N _ (.head _)) (News.consN (N _ (.tail _ (.tail _ (.head _)))) (News.consN (N _ (.tail _ (.tail _ (.tail _ (.head _))))) (News.consN (N _ (.tail _ (.tail _ (.tail _ (.tail _ (.head _)))))) (News.consN (N _ (.tail _ (.tail _ (.tail _ (.tail _ (.tail _ (.head _))))))) (News.consN (N _ (.tail _ (.tail _ (.tail _ (.tail _ (.tail _ (.tail _ (.head _)))))))) (News.consN (N _ (.tail _ (.tail _ (.tail _ (.tail _ (.tail _ (.tail _ (.tail _ (.head _))))))))) (News.consN (N _ (.tail _ (.tail _ (.tail _ (.tail _ (.tail _ (.tail _ (.tail _ (.tail _ (.head _)))))))))) (News.consN (N _ (.tail _ (.head _))) (fun q hq => N q (.tail _ (.tail _ (.tail _ (.tail _ (.tail _ (.tail _ (.tail _ (.tail _ (.tail _ (hq)))))))))))))))))))
theorem News.du2 {h₀ h : Heap} {L : Addr} {c1 c2 c3 c4 c5 c6 c7 b : Addr × Obj} {l : List (Addr × Obj)} (N : News h₀ L h (c1 :: c2 :: c3 :: c4 :: c5 :: c6 :: c7 :: b :: l)) : News h₀ L h (b :: c1 :: c2 :: c3 :: c4 :: c5 :: c6 :: c7 :: l) := News.consN (N _ (.tail _ (.tail _ (.tail _ (.tail _ (.tail _ (.tail _ (.tail _ (.head _))))))))) (News.consN (N _ (.head _)) (News.consN (N _ (.tail _ (.head _))) (News.consN (N _ (.tail _ (.tail _ (.head _)))) (News.consN (N _ (.tail _ (.tail _ (.tail _ (.head _))))) (News.consN (N _ (.tail _ (.tail _ (.tail _ (.tail _ (.head _)))))) (News.consN (N _ (.tail _ (.tail _ (.tail _ (.tail _ (.tail _ (.head _))))))) (News.consN (N _ (.tail _ (.tail _ (.tail _ (.tail _ (.tail _ (.tail _ (.head _)))))))) (fun q hq => N q (.tail _ (.tail _ (.tail _ (.tail _ (.tail _ (.tail _ (.tail _ (.tail _ (hq)))))))))))))))))
section
variable {w : World} {p : Program} {loose : List Str} {mean : ExcName → Option Value} {mg mb : Str → Option Value} {A₀ : Around} {dp un : Nat} {gd : Option (List Code)} {outer : List Env} {base h₀ : Heap} {L : Addr} {s : Shared}
theorem row161 : True := by ((k_with "exec For" => ((k_here; k_dflt (refine for_begin ?_)))); trivial)
theorem row162 : True := by ((k_with "pyIter ref" => ((k_here; (with_reducible show wpAny _ _ (pyIter (Value.ref _)) (fun it s₂ => ForV _ _ _ _ _ _ _ _ it s₂) _ _); k_dflt (refine' for_iter ?F ?N ?l ?_; (case F => k_asm); (case N => assumption); (case l => k_mem)); intro zkI' zkoI' zkh' zkF' zkN' zkhI' zkl1; (try k_sweep)))); trivial)
theorem du_oturn {q1 q2 : Stmt} {it1 it2 : PySem.Expr} {nm0 : Str} {np0 : Pos} {a1 a2 a3 : Str} {pa pb pc tp : Pos} {kk : Nat} {bd rest : List Stmt} {p1 p2 : Pos} {A : Around} {env : Env}
    (hst : b933 = q1 :: q2 :: Stmt.For (.Name nm0 np0) it1 [Stmt.For (.Tuple [.Name a1 pa, .Name a2 pb, .Name a3 pc] kk tp) it2 bd [] p2] [] p1 :: rest)
    (henv : env = envOfC (Str.ofString "_law_due") s933 L 933 (.ref 932))
    {I f pl ar : Addr} {oM oD oF oP : Obj} {plv acc : Array Value} {np nA nf : Nat} {fvs : List Value} {far : List Int} {tl : List (Addr × Obj)} {v0 v1 v2 v3 v4 v5 v6 : Option Value} {c1 : Value} {as : List (Int × Int × Int)} {x left : Int} {Q : Flow → Shared → Prop} {E : Value → Shared → Prop} {Nx : Shared → Prop}
    (B : Below A₀ base outer h₀) (F : Fr h₀ L s.heap (duM v0 v1 v2 v3 v4 v5 v6 (.ref ar) c1)) (X : (KF w.params).In h₀) (T : Top p loose mean mg mb h₀)
    (N : News h₀ L s.heap ((I, rgO x left 1) :: duL L f fvs nf oM oD oF oP pl plv np ar acc nA tl))
    (hA : A = (ktrTop dp un gd (Str.ofString "_law_due") s933 L 933 (.ref 932) (cellsFrom (L + 1) s933.names []) outer))
    (hoF : oF.data = .cell (some (.ref f))) (hl : 0 < left)
    (n1 : @LT.lt Nat _ (L + 1 + 1 + 1 + 1) f) (n2 : @LT.lt Nat _ pl L) (n3 : @LT.lt Nat _ ar L) (n4 : @LT.lt Nat _ f I) (n5 : ∀ q ∈ tl, q.1 ≠ f) (n6 : ∀ q ∈ tl, q.1 ≠ I)
    (hd : dp + 8 < recursionLimit) (hu : un + 60 < cLine) (hE : PassesOwn (model P0 w) A env E)
    (hfa : IntsAre fvs far) (hfl : far.length = 5) (ha : ArrAt tl acc.toList as) (hg : ∀ a ∈ as, GoodArr a)
    (hN : ∀ s', Nx s' → ForV P0 w A E env (.Name nm0 np0) [Stmt.For (.Tuple [.Name a1 pa, .Name a2 pb, .Name a3 pc] kk tp) it2 bd [] p2] Q (.ref I) s')
    (h : ∀ h' tk' fvs' u0 u1 u2 u3, Fr h₀ L h' (duM u0 u1 u2 u3 v4 v5 v6 (.ref ar) c1) → News h₀ L h' ((I, rgO (x + 1) (left - 1) 1) :: duL L f fvs' nf oM oD oF oP pl plv np ar acc nA tl) → IntsAre fvs' (as.foldl relax far) → Nx { s with heap := h', toks := tk' }) :
    ForV P0 w A E env (.Name nm0 np0) [Stmt.For (.Tuple [.Name a1 pa, .Name a2 pb, .Name a3 pc] kk tp) it2 bd [] p2] Q (.ref I) s := by
  w_on
  have hst0 := hst
  cases hst
  have henv0 := henv
  subst henv
  subst hA
  refine for_turnR hE hN F N ?_ hl ?_
  · intro q hq
    simp only [List.mem_cons] at hq
    rcases hq with e | e | e | e | e | e | e | e
    · rw [e]; exact Nat.ne_of_lt n4
    all_goals first | (rw [e]; show @Ne Nat _ _; omega) | exact n6 q e
  clear F N
  intro h' F N
  k_steps
  have zkF' : True := trivial; have zkI' : True := trivial; have zkN' : True := trivial; have zkh' : True := trivial; have zkhI' : True := trivial; have zkl1 : True := trivial; have zkoI' : True := trivial
  rename_i I2 oI2 h2 F2 N2 hI2 l2
  have l2f : f < I2 := l2 (f, _) (.tail _ (.head _))
  have l2I : I < I2 := l2 (I, _) (.head _)
  refine' du_inner hst0 rfl ?wB ?wX ?wT rfl hoF n1 n2 n3 l2f ?n5 ?n6 ?hd ?hu hE as _ _ (Fr.cong eq_duk F2) (News.du1 N2) hI2 hfa hfl (ha.mono fun q hq => .tail _ hq) hg ?_
  case wB => assumption
  case wX => assumption
  case wT => assumption
  case hd => ktr_room
  case hu => ktr_units
  case n5 =>
    intro q hq
    rcases List.mem_cons.mp hq with e | hq
    · rw [e]; exact Nat.ne_of_gt n4
    · exact n5 q hq
  case n6 =>
    intro q hq
    rcases List.mem_cons.mp hq with e | hq
    · rw [e]; exact Nat.ne_of_lt l2I
    · exact Nat.ne_of_lt (l2 q (.tail _ (.tail _ (.tail _ (.tail _ (.tail _ (.tail _ (.tail _ (.tail _ hq)))))))))
  intro h3 tk3 fvs3 u1 u2 u3 F3 N3 hf3
  clear F2 N2
  k_steps
  exact h _ _ _ _ _ _ _ F3 (News.du2 N3) hf3
noncomputable def relaxN : Nat → List (Int × Int × Int) → List Int → List Int
  | 0, _, far => far
  | n + 1, as, far => relaxN n as (as.foldl relax far)
theorem foldl_relax_len {as : List (Int × Int × Int)} : ∀ {far : List Int}, (as.foldl relax far).length = far.length := by
  induction as with
  | nil => intro far; rfl
  | cons a as ih => intro far; rw [List.foldl_cons, ih, relax_len]
theorem relaxN_len : ∀ {n : Nat} {as : List (Int × Int × Int)} {far : List Int}, (relaxN n as far).length = far.length
  | 0, _, _ => rfl
  | n + 1, _, _ => (relaxN_len (n := n)).trans foldl_relax_len
theorem du_outer {q1 q2 : Stmt} {it1 it2 : PySem.Expr} {nm0 : Str} {np0 : Pos} {a1 a2 a3 : Str} {pa pb pc tp : Pos} {kk : Nat} {bd rest : List Stmt} {p1 p2 : Pos} {A : Around} {env : Env}
    (hst : b933 = q1 :: q2 :: Stmt.For (.Name nm0 np0) it1 [Stmt.For (.Tuple [.Name a1 pa, .Name a2 pb, .Name a3 pc] kk tp) it2 bd [] p2] [] p1 :: rest)
    (henv : env = envOfC (Str.ofString "_law_due") s933 L 933 (.ref 932))
    {I f pl ar : Addr} {oM oD oF oP : Obj} {plv acc : Array Value} {np nA nf : Nat} {tl : List (Addr × Obj)} {v4 v5 v6 : Option Value} {c1 : Value} {as : List (Int × Int × Int)} {Q : Flow → Shared → Prop} {E : Value → Shared → Prop} {s₀ : Shared}
    (B : Below A₀ base outer h₀) (X : (KF w.params).In h₀) (T : Top p loose mean mg mb h₀)
    (hA : A = (ktrTop dp un gd (Str.ofString "_law_due") s933 L 933 (.ref 932) (cellsFrom (L + 1) s933.names []) outer))
    (hoF : oF.data = .cell (some (.ref f)))
    (n1 : @LT.lt Nat _ (L + 1 + 1 + 1 + 1) f) (n2 : @LT.lt Nat _ pl L) (n3 : @LT.lt Nat _ ar L) (n4 : @LT.lt Nat _ f I) (n5 : ∀ q ∈ tl, q.1 ≠ f) (n6 : ∀ q ∈ tl, q.1 ≠ I)
    (hd : dp + 8 < recursionLimit) (hu : un + 60 < cLine) (hE : PassesOwn (model P0 w) A env E)
    (ha : ArrAt tl acc.toList as) (hg : ∀ a ∈ as, GoodArr a) :
    ∀ (n : Nat) (h : Heap) (tk : Nat) {x left : Int} {fvs : List Value} {far : List Int} {v0 v1 v2 v3 : Option Value}, left = n →
    Fr h₀ L h (duM v0 v1 v2 v3 v4 v5 v6 (.ref ar) c1) → News h₀ L h ((I, rgO x left 1) :: duL L f fvs nf oM oD oF oP pl plv np ar acc nA tl) → IntsAre fvs far → far.length = 5 →
    (∀ h' tk' fvs' u0 u1 u2 u3, Fr h₀ L h' (duM u0 u1 u2 u3 v4 v5 v6 (.ref ar) c1) → News h₀ L h' (duL L f fvs' nf oM oD oF oP pl plv np ar acc nA tl) → IntsAre fvs' (relaxN n as far) → Q .next { s₀ with heap := h', toks := tk' }) →
    ForV P0 w A E env (.Name nm0 np0) [Stmt.For (.Tuple [.Name a1 pa, .Name a2 pb, .Name a3 pc] kk tp) it2 bd [] p2] Q (.ref I) { s₀ with heap := h, toks := tk } := by
  intro n
  have hne : ∀ fvs, ∀ q ∈ duL L f fvs nf oM oD oF oP pl plv np ar acc nA tl, q.1 ≠ I := by
    intro fvs q hq
    simp only [List.mem_cons] at hq
    rcases hq with e | e | e | e | e | e | e | e
    · rw [e]; exact Nat.ne_of_lt n4
    all_goals first | (rw [e]; show @Ne Nat _ _; omega) | exact n6 q e
  induction n with
  | zero =>
    intro h tk x left fvs far v0 v1 v2 v3 e F N hfa hfl hQ
    exact for_endR (s := { s₀ with heap := h, toks := tk }) hE (by subst hA; rfl) F N (hne _) (by omega) fun h' F' N' => hQ h' tk fvs v0 v1 v2 v3 F' N' hfa
  | succ n ih =>
    intro h tk x left fvs far v0 v1 v2 v3 e F N hfa hfl hQ
    refine du_oturn (s := { s₀ with heap := h, toks := tk }) (Nx := fun s' => ForV P0 w A E env (.Name nm0 np0) [Stmt.For (.Tuple [.Name a1 pa, .Name a2 pb, .Name a3 pc] kk tp) it2 bd [] p2] Q (.ref I) s') hst henv B F X T N hA hoF (by omega) n1 n2 n3 n4 n5 n6 hd hu hE hfa hfl ha hg (fun _ q => q) ?_
    intro h' tk' fvs' u0 u1 u2 u3 F' N' hfa'
    exact ih h' tk' (by omega) F' N' hfa' (foldl_relax_len.trans hfl) hQ
end

end
section -- DueA3
section
variable {prog : Program} {w : World} {A : Around} {E : Value → Shared → Prop} {s : Shared} {env : Env} {R : Result → Shared → Prop} {h₀ : Heap} {L : Addr} {m : Str → Option Value} {news : List (Addr × Obj)}
/-- a tuple of three into three names of a block's own namespace -/
theorem assignC {cenv : Env} {a b c : Str} {pa pb pc tp : Pos} {kk : Nat} {T : Addr} {x y z : Value} {mC : Str → Option Value} {Q : Unit → Shared → Prop} (hh : A.handled = none) (hT : s.heap.IsTuple T #[x, y, z]) (hn : s.heap.Ns cenv.locals mC)
    (ha : cenv.kindOf a = some .local) (hb : cenv.kindOf b = some .local) (hc : cenv.kindOf c = some .local) (hp : (cenv.scope.kind == .class || (cenv.scope.kind == .module && cenv.locals != cenv.globals)) = false)
    (h : ∀ h' tk, h'.Ns cenv.locals (fun q => if q = c then some z else if q = b then some y else if q = a then some x else mC q) → (∀ d o, d ≠ cenv.locals → s.heap.get? d = some o → h'.get? d = some o) → Q () { s with heap := h', toks := tk }) :
    wpAny (model prog w) A (assign (.Tuple [.Name a pa, .Name b pb, .Name c pc] kk tp) cenv (.ref T)) Q E s := by
  refine wpAny_assign_Tuple hh hT rfl rfl fun h₁ e₁ => ?_
  have n₁ : h₁.Ns cenv.locals mC := hn.at' fun o e => e₁ _ o (Nat.ne_of_lt hn.lt) e
  refine assignInOrder_cons (wpAny_assign_Name (wpAny_storeName_local ha n₁ (fun h₂ n₂ s₂ => ?_) hp))
  refine assignInOrder_cons (wpAny_assign_Name (wpAny_storeName_local hb n₂ (fun h₃ n₃ s₃ => ?_) hp))
  refine assignInOrder_cons (wpAny_assign_Name (wpAny_storeName_local hc n₃ (fun h₄ n₄ s₄ => ?_) hp))
  exact assignInOrder_nil (h h₄ _ n₄ fun d o q e => s₄.extBut d o q (s₃.extBut d o q (s₂.extBut d o q (e₁ d o (Nat.ne_of_lt (Heap.lt_size e)) e))))
/-- all turns of [elt for a, b, c in xs if test], xs a list of triples of ints on the ledger -/
theorem cm3_loop {elt ct iter : PySem.Expr} {scope : Scope} {pos : Pos} {a b c : Str} {pa pb pc tp : Pos} {kk : Nat} {I C D ar : Addr} {acc : Array Value} {nA : Nat} {cenv : Env} {P : Int × Int × Int → Bool} {f : Int × Int × Int → Int} {s₀ : Shared}
    (hh : A.handled = none) (har : (ar, W.listOf acc nA) ∈ news) (hL : cenv.locals = C)
    (ha : cenv.kindOf a = some .local) (hb : cenv.kindOf b = some .local) (hc : cenv.kindOf c = some .local) (hp : (cenv.scope.kind == .class || (cenv.scope.kind == .module && cenv.locals != cenv.globals)) = false)
    (hab : ¬ a = b) (hac : ¬ a = c) (hbc : ¬ b = c) (off : ∀ q ∈ news, q.1 ≠ I ∧ q.1 ≠ C ∧ q.1 ≠ D) (nIC : @Ne Nat I C) (nID : @Ne Nat I D) (nCD : @Ne Nat C D) (hsz : acc.size ≤ 1000)
    (tv : ∀ v x y t1 t2 oI oC oD mC h tk (E' : Value → Shared → Prop) (K1 : Value → Shared → Prop) (K0 : Shared → Prop), GoodArr v → v.1 = x → v.2.1 = y → LCg.NsObj oC mC → mC a = some (.int x t1) → mC b = some (.int y t2) → Fr h₀ L h m → News h₀ L h ((I, oI) :: (C, oC) :: (D, oD) :: news) →
      (∀ h' tk' t, Fr h₀ L h' m → News h₀ L h' ((I, oI) :: (C, oC) :: (D, oD) :: news) → P v = true → K1 (.int (f v) t) { s₀ with heap := h', toks := tk' }) →
      (∀ h' tk', Fr h₀ L h' m → News h₀ L h' ((I, oI) :: (C, oC) :: (D, oD) :: news) → P v = false → K0 { s₀ with heap := h', toks := tk' }) →
      wpAny (model prog w) A (PySem.isTrue ct cenv (eval ct cenv)) (fun ok s' => if ok = true then wpAny (model prog w) A (eval elt cenv) K1 E' s' else K0 s') E' { s₀ with heap := h, toks := tk }) :
    ∀ (as : List (Int × Int × Int)) (h : Heap) (tk : Nat) {oI oC : Obj} {i : Nat} {ys : List Value} {mC : Str → Option Value}, Fr h₀ L h m → News h₀ L h ((I, oI) :: (C, oC) :: (D, LCg.lst ys) :: news) → IterAt oI ar i → LCg.NsObj oC mC → ArrAt news (acc.toList.drop i) as → (∀ v ∈ as, GoodArr v) → ys.length ≤ i →
    (∀ h' tk' oC' mC' zs, Fr h₀ L h' m → News h₀ L h' ((C, oC') :: (D, LCg.lst (ys ++ zs)) :: news) → LCg.NsObj oC' mC' → IntsAre zs ((as.filter P).map f) → R (.ok .next) { s₀ with heap := h', toks := tk' }) →
    codeAny (model prog w) A (.compLoop (.ListComp elt [⟨.Tuple [.Name a pa, .Name b pb, .Name c pc] kk tp, iter, [ct], 0⟩] scope pos) 0 (.ref I) (.ref D) cenv) R { s₀ with heap := h, toks := tk } := by
  subst hL
  intro as
  induction as with
  | nil =>
    intro h tk oI oC i ys mC F N hI hC hA hg hyl hQ
    have HI := N _ (.head _)
    have IL : h.IsList ar acc := PySem.IsL.isList (n := nA) (N _ (.tail _ (.tail _ (.tail _ har)))).1
    refine cm_step (Nx := fun _ => False) rfl (fun _ q => q.elim) (wpAny_pyNext_list_end hh ⟨oI, HI.1, hI.1, hI.2⟩ IL hA.no fun h' hk => ?_)
    refine hQ h' tk oC mC [] ⟨F.ns.at' fun o e => hk _ o (Ne.symm HI.2.1) e, fun b o e => hk b o (fun z => by rw [z, HI.2.2] at e; cases e) (F.keep b o e), F.above⟩ (fun q hq => ?_) hC .nil
    rw [List.append_nil] at hq
    refine ⟨hk _ _ ?_ (N q (.tail _ hq)).1, (N q (.tail _ hq)).2⟩
    rcases List.mem_cons.mp hq with e | hq
    · rw [e]; exact Ne.symm nIC
    · rcases List.mem_cons.mp hq with e | hq
      · rw [e]; exact Ne.symm nID
      · exact (off q hq).1
  | cons v as ih =>
    intro h tk oI oC i ys mC F N hI hC hA hg hyl hQ
    have HI := N _ (.head _)
    have HC := N _ (.tail _ (.head _))
    have IL : h.IsList ar acc := PySem.IsL.isList (n := nA) (N _ (.tail _ (.tail _ (.tail _ har)))).1
    obtain ⟨T, t1, t2, t3, hx, hT, hA'⟩ := hA.at
    refine cm_step (Nx := fun s' => codeAny (model prog w) A (.compLoop (.ListComp elt [⟨.Tuple [.Name a pa, .Name b pb, .Name c pc] kk tp, iter, [ct], 0⟩] scope pos) 0 (.ref I) (.ref D) cenv) R s') rfl (fun _ q => q) (wpAny_pyNext_list_item ⟨oI, HI.1, hI.1, hI.2⟩ IL hx fun h₁ hit sb => ?_)
    refine letGo_listiter (s' := { s₀ with heap := h₁, toks := tk }) hit ?_
    obtain ⟨oI₁, hoI₁, hcI₁, hdI₁⟩ := hit
    have hI₁ : IterAt oI₁ ar (i + 1) := ⟨hcI₁, hdI₁⟩
    have F₁ : Fr h₀ L h₁ m := F.change sb HI.2.1 HI.2.2
    have N₁ : News h₀ L h₁ ((I, oI₁) :: (cenv.locals, oC) :: (D, LCg.lst ys) :: news) := News.one N sb hoI₁ fun q hq => by
      rcases List.mem_cons.mp hq with e | hq
      · rw [e]; exact Ne.symm nIC
      · rcases List.mem_cons.mp hq with e | hq
        · rw [e]; exact Ne.symm nID
        · exact (off q hq).1
    refine assignC (s := { s₀ with heap := h₁, toks := tk }) hh ⟨_, (N₁ _ (.tail _ (.tail _ (.tail _ hT)))).1, rfl, _, rfl⟩ (hC.ns (N₁ _ (.tail _ (.head _))).1) ha hb hc hp fun h₂ tk₂ hn₂ k₂ => ?_
    obtain ⟨oC₂, eC₂, hC₂⟩ := LCg.ns_obj hn₂
    have F₂ : Fr h₀ L h₂ m := ⟨F₁.ns.at' fun o e => k₂ _ o (Ne.symm HC.2.1) e, fun d o e => k₂ d o (fun z => by rw [z, HC.2.2] at e; cases e) (F₁.keep d o e), F.above⟩
    have N₂ : News h₀ L h₂ ((I, oI₁) :: (cenv.locals, oC₂) :: (D, LCg.lst ys) :: news) := fun q hq => by
      rcases List.mem_cons.mp hq with e | hq
      · rw [e]; exact ⟨k₂ _ _ nIC hoI₁, HI.2⟩
      · rcases List.mem_cons.mp hq with e | hq
        · rw [e]; exact ⟨eC₂, HC.2⟩
        · refine ⟨k₂ _ _ ?_ (N₁ q (.tail _ (.tail _ hq))).1, (N₁ q (.tail _ (.tail _ hq))).2⟩
          rcases List.mem_cons.mp hq with e | hq
          · rw [e]; exact Ne.symm nCD
          · exact (off q hq).2.1
    refine tv v v.1 v.2.1 t1 t2 oI₁ oC₂ (LCg.lst ys) _ h₂ tk₂ _ _ _ (hg v (.head _)) rfl rfl hC₂ (by simp [hab, hac]) (by simp [hbc]) F₂ N₂ ?_ ?_
    · intro h₃ tk₃ t F₃ N₃ hP
      have HD := N₃ _ (.tail _ (.tail _ (.head _)))
      have zi : i < acc.size := (Array.getElem?_eq_some_iff.mp hx).1
      have zs : 1000 ≤ sizeLine := by decide
      refine append_at (s := { s₀ with heap := h₃, toks := tk₃ }) HD.1 (fun h₄ sb₄ hD₄ => ?_) (by show ys.toArray.size ≤ sizeLine; rw [List.size_toArray]; omega)
      have F₄ : Fr h₀ L h₄ m := F₃.change sb₄ HD.2.1 HD.2.2
      have N₄ : News h₀ L h₄ ((I, oI₁) :: (cenv.locals, oC₂) :: (D, LCg.lst (ys ++ [.int (f v) t])) :: news) := fun q hq => by
        rcases List.mem_cons.mp hq with e | hq
        · rw [e]; exact ⟨sb₄.extBut _ _ nID (N₃ _ (.head _)).1, HI.2⟩
        · rcases List.mem_cons.mp hq with e | hq
          · rw [e]; exact ⟨sb₄.extBut _ _ nCD (N₃ _ (.tail _ (.head _))).1, HC.2⟩
          · rcases List.mem_cons.mp hq with e | hq
            · rw [e]; exact ⟨hD₄.trans (congrArg some (LCg.lst_snoc ys _)), HD.2⟩
            · exact ⟨sb₄.extBut _ _ (off q hq).2.2 (N₃ q (.tail _ (.tail _ (.tail _ hq)))).1, (N₃ q (.tail _ (.tail _ (.tail _ hq)))).2⟩
      refine ih h₄ tk₃ F₄ N₄ hI₁ hC₂ hA' (fun x hx => hg x (.tail _ hx)) (by rw [List.length_append, List.length_singleton]; omega) ?_
      intro h₅ tk₅ oC₅ mC₅ zs F₅ N₅ hC₅ hz
      refine hQ h₅ tk₅ oC₅ mC₅ (.int (f v) t :: zs) F₅ (by rw [List.append_assoc] at N₅; exact N₅) hC₅ ?_
      rw [List.filter_cons_of_pos hP]
      exact .cons _ _ hz
    · intro h₃ tk₃ F₃ N₃ hP
      refine ih h₃ tk₃ F₃ N₃ hI₁ hC₂ hA' (fun x hx => hg x (.tail _ hx)) (by omega) ?_
      intro h₅ tk₅ oC₅ mC₅ zs F₅ N₅ hC₅ hz
      refine hQ h₅ tk₅ oC₅ mC₅ zs F₅ N₅ hC₅ ?_
      rw [List.filter_cons_of_neg (by rw [hP]; decide)]
      exact hz
/-- the whole of [elt for a, b, c in xs if test] -/
theorem cm3 {elt ct iter : PySem.Expr} {scope : Scope} {pos : Pos} {cl : List (Str × Addr)} {a b c : Str} {pa pb pc tp : Pos} {kk : Nat} {ar : Addr} {acc : Array Value} {nA : Nat} {as : List (Int × Int × Int)} {P : Int × Int × Int → Bool} {f : Int × Int × Int → Int} {Q : Value → Shared → Prop}
    (hh : A.handled = none) (F : Fr h₀ L s.heap m) (N : News h₀ L s.heap news) (har : (ar, W.listOf acc nA) ∈ news) (hit : ∀ Q' : Value → Shared → Prop, Q' (.ref ar) s → wpAny (model prog w) A (eval iter env) Q' E s)
    (hclos : closureFor scope env = pure cl) (hcell : ∀ y ∈ scope.names, y.2 ≠ .cell) (hkind : scope.kind = .function) (hnames : ∀ y ∈ scope.names, y.2 = .local → scope.names.lookup y.1 = some .local)
    (ha : scope.names.lookup a = some .local) (hb : scope.names.lookup b = some .local) (hc : scope.names.lookup c = some .local) (hab : ¬ a = b) (hac : ¬ a = c) (hbc : ¬ b = c) (hsz : acc.size ≤ 1000) (hA : ArrAt news acc.toList as) (hg : ∀ v ∈ as, GoodArr v)
    (tv : ∀ v x y t1 t2 I oI C oC D oD mC h tk (E' : Value → Shared → Prop) (K1 : Value → Shared → Prop) (K0 : Shared → Prop), GoodArr v → v.1 = x → v.2.1 = y → LCg.NsObj oC mC → mC a = some (.int x t1) → mC b = some (.int y t2) → Fr h₀ L h m → News h₀ L h ((I, oI) :: (C, oC) :: (D, oD) :: news) →
      (∀ h' tk' t, Fr h₀ L h' m → News h₀ L h' ((I, oI) :: (C, oC) :: (D, oD) :: news) → P v = true → K1 (.int (f v) t) { s with heap := h', toks := tk' }) →
      (∀ h' tk', Fr h₀ L h' m → News h₀ L h' ((I, oI) :: (C, oC) :: (D, oD) :: news) → P v = false → K0 { s with heap := h', toks := tk' }) →
      wpAny (model prog w) A (PySem.isTrue ct (compEnvC scope cl C env) (eval ct (compEnvC scope cl C env))) (fun ok s' => if ok = true then wpAny (model prog w) A (eval elt (compEnvC scope cl C env)) K1 E' s' else K0 s') E' { s with heap := h, toks := tk })
    (fin : ∀ h' tk' D ys, Fr h₀ L h' m → News h₀ L h' ((D, LCg.lst ys) :: news) → IntsAre ys ((as.filter P).map f) → (∀ q ∈ news, q.1 < D) → Q (.ref D) { s with heap := h', toks := tk' })
    (hs : ∀ x, foldedSetIterable iter env x = pure x := by intro _; rfl) :
    wpAny (model prog w) A (eval (.ListComp elt [⟨.Tuple [.Name a pa, .Name b pb, .Name c pc] kk tp, iter, [ct], 0⟩] scope pos) env) Q E s := by
  rw [eval_ListComp]
  refine wpAny_comprehension_free (use := none) rfl hs hclos hkind hnames (hit _ ?_)
  have IL : s.heap.IsList ar acc := PySem.IsL.isList (n := nA) (N _ har).1
  refine wpAny_pyIter_list IL ?_
  have F1 := F.push { cls := .type "list_iterator", data := .fields #[.ref ar, .int 0 0] }
  have N1 := N.push F { cls := .type "list_iterator", data := .fields #[.ref ar, .int 0 0] }
  have lt0 : ∀ q ∈ news, q.1 < s.heap.objs.size := fun q hq => Heap.lt_size (N q hq).1
  generalize hH1 : s.heap.push { cls := .type "list_iterator", data := .fields #[.ref ar, .int 0 0] } = H1 at F1 N1 ⊢
  have z1 : H1.objs.size = s.heap.objs.size + 1 := by rw [← hH1, Heap.size_push]
  refine wpAny_newObj_type (wpAny_newFunctionEnv hcell (by intro y hy; simp at hy) (fun h₁ hns₁ hsb₁ => ?_) hkind)
  dsimp only at hns₁ hsb₁ ⊢
  have F2 := F1.push { cls := .type "list", dict := none, data := .seq ([] : List Value).toArray }
  have N2 := N1.push F1 { cls := .type "list", dict := none, data := .seq ([] : List Value).toArray }
  generalize hH2 : H1.push { cls := .type "list", dict := none, data := .seq ([] : List Value).toArray } = H2 at F2 N2 hns₁ hsb₁ ⊢
  have z2 : H2.objs.size = s.heap.objs.size + 2 := by rw [← hH2, Heap.size_push, z1]
  obtain ⟨oC, eC, hC⟩ := LCg.ns_obj hns₁
  have lt2 : ∀ d o, H2.get? d = some o → d ≠ H2.objs.size := fun d o e => Nat.ne_of_lt (Heap.lt_size e)
  have old : ∀ d o, H2.get? d = some o → h₁.get? d = some o := fun d o e => hsb₁.extBut d o (lt2 d o e) (Heap.get?_push_of_some _ e)
  have F3 : Fr h₀ L h₁ m := F2.keeps old
  have hC0 : h₀.get? H2.objs.size = none := by
    cases q : h₀.get? H2.objs.size with
    | none => rfl
    | some o => exact absurd rfl (lt2 _ _ (F2.keep _ _ q))
  have hCL : H2.objs.size ≠ L := Ne.symm (Nat.ne_of_lt F2.ns.lt)
  have N3 : News h₀ L h₁ ((s.heap.objs.size, { cls := .type "list_iterator", data := .fields #[.ref ar, .int 0 0] }) :: (H2.objs.size, oC) :: (H1.objs.size, LCg.lst []) :: news) := fun q hq => by
    rcases List.mem_cons.mp hq with e | hq
    · rw [e]; exact ⟨old _ _ (N2 _ (.tail _ (.head _))).1, (N2 _ (.tail _ (.head _))).2⟩
    · rcases List.mem_cons.mp hq with e | hq
      · rw [e]; exact ⟨eC, hCL, hC0⟩
      · rcases List.mem_cons.mp hq with e | hq
        · rw [e]; exact ⟨old _ _ (N2 _ (.head _)).1, (N2 _ (.head _)).2⟩
        · exact ⟨old _ _ (N2 _ (.tail _ (.tail _ hq))).1, (N2 _ (.tail _ (.tail _ hq))).2⟩
  have go := cm3_loop (prog := prog) (w := w) (A := A) (R := compPost (model prog w) A E none Q (.ref H1.objs.size) H2.objs.size) (elt := elt) (ct := ct) (iter := iter) (scope := scope) (pos := pos) (pa := pa) (pb := pb) (pc := pc) (tp := tp) (kk := kk) (I := s.heap.objs.size) (C := H2.objs.size) (D := H1.objs.size) (cenv := compEnvC scope cl H2.objs.size env) (P := P) (f := f) (s₀ := s)
    hh har rfl (lookup_relabel_local ha) (lookup_relabel_local hb) (lookup_relabel_local hc) (by simp [compEnvC, relabel, hkind]) hab hac hbc
    (fun q hq => ⟨Nat.ne_of_lt (lt0 q hq), by have := lt0 q hq; rw [z2]; exact Nat.ne_of_lt (Nat.lt_of_lt_of_le this (Nat.le_add_right _ _)), by have := lt0 q hq; rw [z1]; exact Nat.ne_of_lt (Nat.lt_of_lt_of_le this (Nat.le_add_right _ _))⟩)
    (by rw [z2]; exact Nat.ne_of_lt (Nat.lt_add_of_pos_right (by decide))) (by rw [z1]; exact Nat.ne_of_lt (Nat.lt_succ_self _)) (by rw [z2, z1]; exact Nat.ne_of_gt (Nat.lt_succ_self _)) hsz
    (fun v x y t1 t2 oI oC oD mC h tk E' K1 K0 => tv v x y t1 t2 _ oI _ oC _ oD mC h tk E' K1 K0) as h₁ (s.toks + ([] : List (Str × Value)).length) F3 N3 ⟨rfl, rfl⟩ hC hA hg (Nat.le_refl _) ?_
  · refine codeAny_compStart_list go (wpAny_pyIter_listiter (l := ar) (i := 0) ⟨_, (N3 _ (.head _)).1, rfl, rfl⟩ go)
  · intro h' tk' oC' mC' zs F' N' hC' hz
    have HC := N' _ (.head _)
    refine ⟨mC', hC'.ns HC.1, fun h₂ sb => fin h₂ tk' H1.objs.size zs (F'.change sb HC.2.1 HC.2.2) (fun q hq => ?_) hz fun q hq => ?_⟩
    · refine ⟨sb.extBut _ _ ?_ (N' q (.tail _ hq)).1, (N' q (.tail _ hq)).2⟩
      rcases List.mem_cons.mp hq with e | hq
      · rw [e]; show H1.objs.size ≠ H2.objs.size; rw [z2, z1]; exact Nat.ne_of_lt (Nat.lt_succ_self _)
      · have := lt0 q hq; rw [z2]; exact Nat.ne_of_lt (Nat.lt_of_lt_of_le this (Nat.le_add_right _ _))
    · have := lt0 q hq; rw [z1]; exact Nat.lt_succ_of_lt this
end

end
section -- DueD
inductive Rel2 (W : Int → Value → Prop) : List Int → List Value → Prop
  | nil : Rel2 W [] []
  | cons {k y ks ys} : W k y → Rel2 W ks ys → Rel2 W (k :: ks) (y :: ys)
theorem Rel2.ints : ∀ {ks : List Int} {ys : List Value}, Rel2 (fun k y => ∃ t, y = .int k t) ks ys → IntsAre ys ks := fun h => by
  induction h with
  | nil => exact .nil
  | cons h _ ih => obtain ⟨t, rfl⟩ := h; exact .cons _ _ ih
theorem Rel2.strs {pt : Int → Str} : ∀ {ks : List Int} {ys : List Value}, Rel2 (fun k y => ∃ t, y = .str (pt k) t) ks ys → StrsOf (ks.map pt) ys := fun h => by
  induction h with
  | nil => exact .nil
  | cons h _ ih => exact .cons h ih
section
variable {prog : Program} {w : World} {A : Around} {s : Shared} {env : Env} {h₀ : Heap} {L : Addr} {m : Str → Option Value} {led : List (Addr × Obj)}
/-- the turns of a comprehension with one test over ints -/
theorem cr_ints {ct elt : PySem.Expr} {x : Str} {scope : Scope} {cl : List (Str × Addr)} {S : List (Addr × Obj) → Prop} {Pm : Nat → Value → Prop} {Fin : List Value → List (Addr × Obj) → Prop} (P : Int → Bool) (W : Int → Value → Prop) (G : Int → Prop) (ks : List Int)
    (hks : ∀ i v k, Pm i v → ks[i]? = some k → ∃ t, v = .int k t) (hG : ∀ k ∈ ks, G k) (hS : S led)
    (tv : ∀ k t I oI C oC D oD mC h tk (E' : Value → Shared → Prop) (K1 : Value → Shared → Prop) (K0 : Shared → Prop), G k → LCg.NsObj oC mC → mC x = some (.int k t) → Fr h₀ L h m → News h₀ L h ((I, oI) :: (C, oC) :: (D, oD) :: led) →
      (∀ h' tk' y, Fr h₀ L h' m → News h₀ L h' ((I, oI) :: (C, oC) :: (D, oD) :: led) → P k = true → W k y → K1 y { s with heap := h', toks := tk' }) →
      (∀ h' tk', Fr h₀ L h' m → News h₀ L h' ((I, oI) :: (C, oC) :: (D, oD) :: led) → P k = false → K0 { s with heap := h', toks := tk' }) →
      wpAny (model prog w) A (PySem.isTrue ct (compEnvC scope cl C env) (eval ct (compEnvC scope cl C env))) (fun ok s' => if ok = true then wpAny (model prog w) A (eval elt (compEnvC scope cl C env)) K1 E' s' else K0 s') E' { s with heap := h, toks := tk }) :
    ∀ (r : List Int) (i : Nat) (ys : List Value), ks.drop i = r → (∀ zs, Rel2 W (r.filter P) zs → Fin (ys ++ zs) led) →
    LCt.CompRestT prog w A h₀ L m env ct elt x scope cl s S Pm Fin r.length i ys led := by
  intro r
  induction r with
  | nil => intro i ys hi hF; exact LCt.CompRestT.zero (by simpa using hF [] .nil)
  | cons k r ih =>
    intro i ys hi hF
    refine LCt.CompRestT.succ ?_
    intro v I oI C oC D mC h tk E' hv hC hx F N off ne
    have hk : ks[i]? = some k := by
      have e1 : ks[i]? = (ks.drop i)[0]? := by simp
      rw [e1, hi]; rfl
    obtain ⟨t, rfl⟩ := hks i v k hv hk
    have hi' : ks.drop (i + 1) = r := by rw [← List.drop_drop, hi]; rfl
    refine tv k t I oI C oC D _ mC h tk E' _ _ (hG k (List.mem_of_getElem? hk)) hC hx F N ?_ ?_
    · intro h' tk' y F' N' hP hW
      refine LCg.CompEnd.intro F' N' led (fun q hq => hq) off hS (ih (i + 1) (ys ++ [y]) hi' ?_)
      intro zs hz
      rw [List.append_assoc]
      refine hF (y :: zs) ?_
      rw [List.filter_cons_of_pos hP]
      exact .cons hW hz
    · intro h' tk' F' N' hP
      refine LCg.CompEnd.intro F' N' led (fun q hq => hq) off hS (ih (i + 1) ys hi' ?_)
      intro zs hz
      refine hF zs ?_
      rw [List.filter_cons_of_neg (by rw [hP]; decide)]
      exact hz
end
theorem ints_at : ∀ {vs : List Value} {ns : List Int}, IntsAre vs ns → ∀ (i : Nat) (v : Value) (k : Int), vs[i]? = some v → ns[i]? = some k → ∃ t, v = .int k t
  | _, _, .nil, i, v, k, h, _ => by simp at h
  | _, _, .cons j t r, 0, v, k, h, h' => by
    simp at h h'
    subst h h'
    exact ⟨t, rfl⟩
  | _, _, .cons j t r, i + 1, v, k, h, h' => ints_at r i v k (by simpa using h) (by simpa using h')
theorem eq_dui {c0 c1 : Value} : (fun y => if y = Str.ofString "start" then some c1 else if y = Str.ofString "arrows" then some c0 else none) = duM none none none none none none none c0 c1 := by
  funext y
  have z : ∀ n ∈ ["k", "tail", "head", "loud", "told", "fresh", "idle"], ¬ (Str.ofString "start" = Str.ofString n) ∧ ¬ (Str.ofString "arrows" = Str.ofString n) := by decide +kernel
  have z1 : ¬ (Str.ofString "start" = Str.ofString "arrows") := by decide +kernel
  have z2 : ¬ (Str.ofString "arrows" = Str.ofString "start") := by decide +kernel
  simp only [List.forall_mem_cons] at z
  by_cases h0 : y = Str.ofString "start"
  · subst h0; simp [duM, z, z1]
  · by_cases h1 : y = Str.ofString "arrows"
    · subst h1; simp [duM, z, z2]
    · simp [duM, h0, h1]

end
section -- DueE
theorem row163 : True := by (k_with_none; trivial)
local macro_rules | `(tactic| k_all) => `(tactic| with_reducible assumption)
/-- holds the walk at a proposition -/
noncomputable def Hold (p : Prop) : Prop := p
theorem hold_in {p : Prop} (h : Hold p) : p := h
theorem hold_out {p : Prop} (h : p) : Hold p := h
theorem range5 : ∀ (i : Nat) (v : Value) (k : Int), (∃ t, v = .int (0 + (i : Int)) t) → ([0, 1, 2, 3, 4] : List Int)[i]? = some k → ∃ t, v = .int k t
  | 0, _, _, ⟨t, e⟩, h => ⟨t, e.trans (congrArg (fun x => Value.int x t) (Option.some.inj h))⟩
  | 1, _, _, ⟨t, e⟩, h => ⟨t, e.trans (congrArg (fun x => Value.int x t) (Option.some.inj h))⟩
  | 2, _, _, ⟨t, e⟩, h => ⟨t, e.trans (congrArg (fun x => Value.int x t) (Option.some.inj h))⟩
  | 3, _, _, ⟨t, e⟩, h => ⟨t, e.trans (congrArg (fun x => Value.int x t) (Option.some.inj h))⟩
  | 4, _, _, ⟨t, e⟩, h => ⟨t, e.trans (congrArg (fun x => Value.int x t) (Option.some.inj h))⟩
  | _ + 5, _, _, _, h => nomatch h
theorem in5 : ∀ k ∈ ([0, 1, 2, 3, 4] : List Int), inR k := show ∀ k ∈ ([0, 1, 2, 3, 4] : List Int), 0 ≤ k ∧ k < 5 from by decide
noncomputable def metOf (far : List Int) (as : List (Int × Int × Int)) (x : Int) : List Int := (as.filter (fun v => far.getD v.1.toNat 0 == x - 1)).map fun v => v.2.1
noncomputable def freshOf (far : List Int) (x : Int) : List Str := (([0, 1, 2, 3, 4] : List Int).filter fun v => far.getD v.toNat 0 == x).map plAt
noncomputable def idleOf (far : List Int) (as : List (Int × Int × Int)) (x : Int) : List Str := (([0, 1, 2, 3, 4] : List Int).filter fun v => decide (far.getD v.toNat 0 < x) && !(metOf far as x).any fun y => y == v).map plAt
noncomputable def Apart (a : Addr) (l : List Addr) : Prop := ∀ b ∈ l, a ≠ b
theorem Apart.mk4 {a b c d e : Addr} (h1 : @Ne Nat a b) (h2 : @Ne Nat a c) (h3 : @Ne Nat a d) (h4 : @Ne Nat a e) : Apart a [b, c, d, e] := by
  intro x hx
  simp only [List.mem_cons, List.not_mem_nil, or_false] at hx
  rcases hx with rfl | rfl | rfl | rfl <;> assumption
theorem eq_duf {v0 v1 v2 v3 v4 v5 v6 : Option Value} {u1 u2 c0 c1 : Value} : (fun y => if y = Str.ofString "idle" then some u2 else if y = Str.ofString "fresh" then some u1 else duM v0 v1 v2 v3 v4 v5 v6 c0 c1 y) = duM v0 v1 v2 v3 v4 (some u1) (some u2) c0 c1 := funext fun y => by rw [duM_fresh, duM_idle]
theorem News.du3 {h₀ h : Heap} {L : Addr} {t r u m i a f b1 b2 b3 b4 b5 b6 : Addr × Obj} {l : List (Addr × Obj)} (N : News h₀ L h (t :: r :: u :: m :: i :: a :: f :: b1 :: b2 :: b3 :: b4 :: b5 :: b6 :: l)) : News h₀ L h (i :: a :: f :: b1 :: b2 :: b3 :: b4 :: b5 :: b6 :: t :: r :: u :: m :: l) := News.consN (N _ (.tail _ (.tail _ (.tail _ (.tail _ (.head _)))))) (News.consN (N _ (.tail _ (.tail _ (.tail _ (.tail _ (.tail _ (.head _))))))) (News.consN (N _ (.tail _ (.tail _ (.tail _ (.tail _ (.tail _ (.tail _ (.head _)))))))) (News.consN (N _ (.tail _ (.tail _ (.tail _ (.tail _ (.tail _ (.tail _ (.tail _ (.head _))))))))) (News.consN (N _ (.tail _ (.tail _ (.tail _ (.tail _ (.tail _ (.tail _ (.tail _ (.tail _ (.head _)))))))))) (News.consN (N _ (.tail _ (.tail _ (.tail _ (.tail _ (.tail _ (.tail _ (.tail _ (.tail _ (.tail _ (.head _))))))))))) (News.consN (N _ (.tail _ (.tail _ (.tail _ (.tail _ (.tail _ (.tail _ (.tail _ (.tail _ (.tail _ (.tail _ (.head _)))))))))))) (News.consN (N _ (.tail _ (.tail _ (.tail _ (.tail _ (.tail _ (.tail _ (.tail _ (.tail _ (.tail _ (.tail _ (.tail _ (.head _))))))))))))) (News.consN (N _ (.tail _ (.tail _ (.tail _ (.tail _ (.tail _ (.tail _ (.tail _ (.tail _ (.tail _ (.tail _ (.tail _ (.tail _ (.head _)))))))))))))) (News.consN (N _ (.head _)) (News.consN (N _ (.tail _ (.head _))) (News.consN (N _ (.tail _ (.tail _ (.head _)))) (News.consN (N _ (.tail _ (.tail _ (.tail _ (.head _))))) (fun q hq => N q (.tail _ (.tail _ (.tail _ (.tail _ (.tail _ (.tail _ (.tail _ (.tail _ (.tail _ (.tail _ (.tail _ (.tail _ (.tail _ (hq)))))))))))))))))))))))))))
theorem idle_f1 {a : Prop} [Decidable a] {b : Bool} (h : b = true) : (decide a && !b) = false := by rw [h]; simp
theorem idle_f2 {a : Prop} [Decidable a] {b : Bool} (h : ¬ a) : (decide a && !b) = false := by rw [decide_eq_false h]; rfl
theorem idle_t {a : Prop} [Decidable a] {b : Bool} (h : a) (h2 : b = false) : (decide a && !b) = true := by rw [decide_eq_true h, h2]; rfl
theorem fill_due : (PySem.Challenge.rw_of0118_01.name = PySem.Challenge.rw_of0118_01.name) → (∀ P, KF P = KF P) := by
  k_fill
  intro _ _; rfl
section
variable {w : World} {p : Program} {loose : List Str} {mean : ExcName → Option Value} {mg mb : Str → Option Value} {A₀ : Around} {dp un : Nat} {gd : Option (List Code)} {outer : List Env} {base h₀ : Heap} {L : Addr} {s : Shared}
theorem row164 : True := by ((k_with "eval ListComp" => (fail "mine")); trivial)
theorem row165 : True := by ((k_with "exec Assign cons ListComp" => ((k_here; first | ((with_reducible (show wpAny _ _ (exec (Stmt.Assign _ (Expr.ListComp _ [⟨Expr.Name _ _, _, _, _⟩] _ _) _) _) _ _ _)); (k_dflt (refine LCt.Assign_ListComp_T (F₀ := by k_asm) (by rfl) (by with_unfolding_all rfl) (by with_unfolding_all rfl) (by decide) (by rfl) (by decide) (by rfl) (by rfl) (by rfl) ?_))) | (k_dflt (refine wpAny_Assign_Name ?_))))); trivial)
theorem row166 : True := by ((k_with "CompSrcT" => ((k_here; k_dflt (refine LCt.CompSrcT.range (n := 5) (by rfl) (by k_asm) (by k_asm) (by assumption) (by decide) (by rfl) (by decide) ?_); intro zkg'; refine hold_in ?_))); trivial)
theorem row167 : True := by ((k_with "subscriptTail" => ((k_here; (with_reducible show wpAny _ _ (subscriptTail _ _ (Value.ref _) (Value.int _ _)) _ _ _); k_dflt (refine' itemS ?N ?l ?h0 ?hi ?x ?_; (case N => k_asm); (case l => k_mem); (case h0 => omega); (case hi => omega); (case x => with_reducible assumption); k_whole)))); trivial)
theorem row168 : True := by ((k_with "subscriptTail" => ((k_here; (with_reducible show wpAny _ _ (subscriptTail _ _ (Value.ref _) (Value.int _ _)) _ _ _); k_dflt (refine' ksa_sub ?k1 ?k2 ?k3 ?k4 ?k5 ?k6 ?_ ?k7; (case k1 => k_asm); (case k2 => k_mem); (case k3 => with_reducible assumption); (case k4 => omega); (case k5 => omega); (case k6 => omega); (case k7 => with_unfolding_all rfl); k_whole); intro _))); trivial)
theorem row169 : True := by ((k_with "call builtin:list.append" => ((k_here; (try dsimp only [List.cons_append, List.nil_append]); k_dflt (refine' append_K ?k1 ?k2 ?k3 ?_ ?z; (case k1 => k_asm); (case k2 => k_asm); (case k3 => k_upd); (case z => exact Nat.le_trans (by assumption) (by decide : 100 ≤ sizeLine)); k_whole); intro zkh' zkF' zkN'; (try k_sweep)))); trivial)
theorem du_dturn {q1 q2 q3 q4 : Stmt} {it : PySem.Expr} {nm0 : Str} {np0 : Pos} {bd rest : List Stmt} {p1 : Pos} {A : Around} {env : Env}
    (hst : b933 = q1 :: q2 :: q3 :: q4 :: Stmt.For (.Name nm0 np0) it bd [] p1 :: rest)
    (henv : env = envOfC (Str.ofString "_law_due") s933 L 933 (.ref 932))
    {I to f pl ar : Addr} {oM oD oF oP : Obj} {cD cM : Option Value} {plv acc tov : Array Value} {np nA nf nt : Nat} {fvs : List Value} {far : List Int} {tl : List (Addr × Obj)} {v0 v1 v2 v3 v5 v6 : Option Value} {c1 : Value} {as : List (Int × Int × Int)} {x left : Int} {Q : Flow → Shared → Prop} {E : Value → Shared → Prop} {Nx : Shared → Prop}
    (B : Below A₀ base outer h₀) (F : Fr h₀ L s.heap (duM v0 v1 v2 v3 (some (.ref to)) v5 v6 (.ref ar) c1)) (X : (KF w.params).In h₀) (T : Top p loose mean mg mb h₀)
    (N : News h₀ L s.heap ((I, rgO x left 1) :: (to, W.listOf tov nt) :: duL L f fvs nf oM oD oF oP pl plv np ar acc nA tl))
    (hA : A = (ktrTop dp un gd (Str.ofString "_law_due") s933 L 933 (.ref 932) (cellsFrom (L + 1) s933.names []) outer))
    (hoF : oF.data = .cell (some (.ref f))) (hoP : oP.data = .cell (some (.ref pl))) (hoD : oD.data = .cell cD) (hoM : oM.data = .cell cM) (hl : 0 < left)
    (n1 : @LT.lt Nat _ (L + 1 + 1 + 1 + 1) f) (n2 : @LT.lt Nat _ pl L) (n3 : @LT.lt Nat _ ar L) (n4 : @LT.lt Nat _ f to) (n5 : @LT.lt Nat _ to I) (m1 : ∀ q ∈ tl, q.1 ≠ to) (m2 : ∀ q ∈ tl, q.1 ≠ I) (m3 : ∀ q ∈ tl, q.1 ≠ L + 1 + 1 + 1) (m4 : ∀ q ∈ tl, q.1 ≠ L + 1 + 1 + 1 + 1)
    (hd : dp + 8 < recursionLimit) (hu : un + 60 < cLine) (hE : PassesOwn (model P0 w) A env E)
    (hx0 : 1 ≤ x) (hx1 : x < 100) (hfa : IntsAre fvs far) (hfl : far.length = 5) (hpl : PlAt plv) (ha : ArrAt tl acc.toList as) (hg : ∀ a ∈ as, GoodArr a) (hsz : acc.size ≤ 1000) (htz : tov.size ≤ 100)
    (hN : ∀ s', Nx s' → ForV P0 w A E env (.Name nm0 np0) bd Q (.ref I) s')
    (h : ∀ h' tk' T2 U V M oM' oD' cM' cD' zs zs2 ys, Fr h₀ L h' (duM v0 v1 v2 v3 (some (.ref to)) (some (.ref U)) (some (.ref V)) (.ref ar) c1) →
      News h₀ L h' ((I, rgO (x + 1) (left - 1) 1) :: (to, W.listOf (tov.push (.ref T2)) (nt + 1)) :: duL L f fvs nf oM' oD' oF oP pl plv np ar acc nA ((T2, ({ cls := .type "tuple", data := .seq #[.ref U, .ref V] } : Obj)) :: (V, LCg.lst zs2) :: (U, LCg.lst zs) :: (M, LCg.lst ys) :: tl)) →
      oM'.data = .cell cM' → oD'.data = .cell cD' → StrsOf (freshOf far x) zs → StrsOf (idleOf far as x) zs2 →
      Apart T2 [to, I, L + 1 + 1 + 1, L + 1 + 1 + 1 + 1] → Apart U [to, I, L + 1 + 1 + 1, L + 1 + 1 + 1 + 1] → Apart V [to, I, L + 1 + 1 + 1, L + 1 + 1 + 1 + 1] → Apart M [to, I, L + 1 + 1 + 1, L + 1 + 1 + 1 + 1] → Nx { s with heap := h', toks := tk' }) :
    ForV P0 w A E env (.Name nm0 np0) bd Q (.ref I) s := by
  w_on
  cases hst
  subst henv
  subst hA
  refine for_turnR hE hN F N ?_ hl ?_
  · intro q hq
    simp only [List.mem_cons] at hq
    rcases hq with e | e | e | e | e | e | e | e | e
    · rw [e]; exact Nat.ne_of_lt n5
    · rw [e]; exact Nat.ne_of_lt (Nat.lt_trans n4 n5)
    all_goals first | (rw [e]; show @Ne Nat _ _; omega) | exact m2 q e
  clear F N
  intro h' F N
  iterate 5 (first | walk1 | (dsimp only; walk1))
  refine' cm3 (ar := ar) (acc := acc) (nA := nA) (as := as) (P := fun v => far.getD v.1.toNat 0 == x - 1) (f := fun v => v.2.1) rfl ?mF ?mN ?mA ?mI (by with_unfolding_all rfl) (by decide) (by rfl) (by decide) (by rfl) (by rfl) (by rfl) ?ab ?ac ?bc hsz ?mH hg ?mT ?mE
  case mF => assumption
  case mN => assumption
  case mA => k_mem
  case mI =>
    intro Q' h
    walk1
    exact h
  case ab => decide +kernel
  case ac => decide +kernel
  case bc => decide +kernel
  case mH => exact ha.mono fun q hq => by simp [hq]
  case mT =>
    intro v x0 y0 t1 t2 I' oI' C' oC' D' oD' mC h tk E' K1 K0 hgv e1 e2 hC ha' hb' F N k1 k0
    obtain ⟨⟨g1, g2⟩, ⟨g3, g4⟩, _⟩ := hgv
    subst e1 e2
    k_steps
    · exact k1 _ _ _ (by assumption) (by assumption) (beq_iff_eq.mpr (by assumption))
    · exact k0 _ _ (by assumption) (by assumption) (beq_eq_false_iff_ne.mpr (by assumption))
  intro h3 tk3 M ys3 F3 N3 hM l3
  have l3f : @LT.lt Nat _ f M := l3 (f, W.listOf fvs.toArray nf) (by k_mem)
  have l3I : @LT.lt Nat _ I M := l3 (I, _) (.head _)
  k_steps
  refine hold_out ?_
  refine' cr_ints (fun v => far.getD v.toNat 0 == x) (fun v y => ∃ t, y = .str (plAt v) t) inR [0, 1, 2, 3, 4] range5 in5 ?tS ?tT _ 0 [] rfl ?tE
  case tS => trivial
  case tT =>
    intro k t I' oI' C' oC' D' oD' mC h tk E' K1 K0 hk hC hx' F N k1 k0
    obtain ⟨tt, hpt⟩ := hpl k hk
    obtain ⟨g1, g2⟩ := hk
    k_steps
    · exact k1 _ _ _ (by assumption) (by assumption) (beq_iff_eq.mpr (by assumption)) ⟨_, rfl⟩
    · exact k0 _ _ (by assumption) (by assumption) (beq_eq_false_iff_ne.mpr (by assumption))
  intro zs hz
  have hfr := hz.strs
  clear hz
  rw [List.nil_append]
  k_steps
  refine hold_out ?_
  refine' cr_ints (fun v => decide (far.getD v.toNat 0 < x) && !(((as.filter (fun v => far.getD v.1.toNat 0 == x - 1)).map fun v => v.2.1).any fun y => y == v)) (fun v y => ∃ t, y = .str (plAt v) t) inR [0, 1, 2, 3, 4] range5 in5 ?uS ?uT _ 0 [] rfl ?uE
  case uS => trivial
  case uT =>
    intro k t I' oI' C' oC' D' oD' mC h tk E' K1 K0 hk hC hx' F N k1 k0
    obtain ⟨tt, hpt⟩ := hpl k hk
    obtain ⟨g1, g2⟩ := hk
    k_steps
    · exact k0 _ _ (by assumption) (by assumption) (idle_f1 (by assumption))
    · exact k1 _ _ _ (by assumption) (by assumption) (idle_t (by assumption) (by assumption)) ⟨_, rfl⟩
    · exact k0 _ _ (by assumption) (by assumption) (idle_f2 (by assumption))
  intro zs2 hz2
  have hid := hz2.strs
  clear hz2
  rw [List.nil_append]
  k_steps
  refine' h _ _ _ _ _ M _ _ _ _ zs zs2 ys3 (Fr.cong eq_duf ?yF) (News.du3 ?yN) ?yM ?yD hfr hid ?a1 ?a2 ?a3 ?a4
  case yF => assumption
  case yN => assumption
  case yM => assumption
  case yD => assumption
  case a1 => exact Apart.mk4 (by k_ne) (by k_ne) (by k_ne) (by k_ne)
  case a2 => exact Apart.mk4 (by k_ne) (by k_ne) (by k_ne) (by k_ne)
  case a3 => exact Apart.mk4 (by k_ne) (by k_ne) (by k_ne) (by k_ne)
  case a4 => exact Apart.mk4 (by k_ne) (by k_ne) (by k_ne) (by k_ne)
end

end
section -- DueG
noncomputable def dueFrom (far : List Int) (as : List (Int × Int × Int)) : Int → Nat → List (List Str × List Str)
  | _, 0 => []
  | x, n + 1 => (freshOf far x, idleOf far as x) :: dueFrom far as (x + 1) n
theorem Apart.one {a b : Addr} {l : List Addr} (h : Apart a l) (hb : b ∈ l) : a ≠ b := h b hb
section
variable {w : World} {p : Program} {loose : List Str} {mean : ExcName → Option Value} {mg mb : Str → Option Value} {A₀ : Around} {dp un : Nat} {gd : Option (List Code)} {outer : List Env} {base h₀ : Heap} {L : Addr} {s : Shared}
theorem du_dloop {q1 q2 q3 q4 : Stmt} {it : PySem.Expr} {nm0 : Str} {np0 : Pos} {bd rest : List Stmt} {p1 : Pos} {A : Around} {env : Env}
    (hst : b933 = q1 :: q2 :: q3 :: q4 :: Stmt.For (.Name nm0 np0) it bd [] p1 :: rest)
    (henv : env = envOfC (Str.ofString "_law_due") s933 L 933 (.ref 932))
    {I to f pl ar : Addr} {oF oP : Obj} {plv acc : Array Value} {np nA nf : Nat} {fvs : List Value} {far : List Int} {c1 : Value} {as : List (Int × Int × Int)} {Q : Flow → Shared → Prop} {E : Value → Shared → Prop} {s₀ : Shared}
    (B : Below A₀ base outer h₀) (X : (KF w.params).In h₀) (T : Top p loose mean mg mb h₀)
    (hA : A = (ktrTop dp un gd (Str.ofString "_law_due") s933 L 933 (.ref 932) (cellsFrom (L + 1) s933.names []) outer))
    (hoF : oF.data = .cell (some (.ref f))) (hoP : oP.data = .cell (some (.ref pl)))
    (n1 : @LT.lt Nat _ (L + 1 + 1 + 1 + 1) f) (n2 : @LT.lt Nat _ pl L) (n3 : @LT.lt Nat _ ar L) (n4 : @LT.lt Nat _ f to) (n5 : @LT.lt Nat _ to I)
    (hd : dp + 8 < recursionLimit) (hu : un + 60 < cLine) (hE : PassesOwn (model P0 w) A env E)
    (hfa : IntsAre fvs far) (hfl : far.length = 5) (hpl : PlAt plv) (hg : ∀ a ∈ as, GoodArr a) (hsz : acc.size ≤ 1000) :
    ∀ (n : Nat) (h : Heap) (tk : Nat) {x left : Int} {tov : Array Value} {nt : Nat} {oM oD : Obj} {cD cM : Option Value} {tl : List (Addr × Obj)} {v0 v1 v2 v3 v5 v6 : Option Value} {outs : List (List Str × List Str)}, left = n → 1 ≤ x → x + n < 90 → tov.size + n ≤ 100 →
    Fr h₀ L h (duM v0 v1 v2 v3 (some (.ref to)) v5 v6 (.ref ar) c1) → News h₀ L h ((I, rgO x left 1) :: (to, W.listOf tov nt) :: duL L f fvs nf oM oD oF oP pl plv np ar acc nA tl) →
    oD.data = .cell cD → oM.data = .cell cM → (∀ q ∈ tl, Apart q.1 [to, I, L + 1 + 1 + 1, L + 1 + 1 + 1 + 1]) → ArrAt tl acc.toList as → ToldAt tl tov.toList outs →
    (∀ h' tk' tov' nt' oM' oD' tl' u5 u6, Fr h₀ L h' (duM v0 v1 v2 v3 (some (.ref to)) u5 u6 (.ref ar) c1) → News h₀ L h' ((to, W.listOf tov' nt') :: duL L f fvs nf oM' oD' oF oP pl plv np ar acc nA tl') → (∀ q ∈ tl', Apart q.1 [to, I, L + 1 + 1 + 1, L + 1 + 1 + 1 + 1]) → ToldAt tl' tov'.toList (outs ++ dueFrom far as x n) → (∀ q ∈ tl, q ∈ tl') → Q .next { s₀ with heap := h', toks := tk' }) →
    ForV P0 w A E env (.Name nm0 np0) bd Q (.ref I) { s₀ with heap := h, toks := tk } := by
  intro n
  induction n with
  | zero =>
    intro h tk x left tov nt oM oD cD cM tl v0 v1 v2 v3 v5 v6 outs e hx hx1 hz F N hoD hoM mm ha ht hQ
    refine for_endR (s := { s₀ with heap := h, toks := tk }) hE (by subst hA; rfl) F N ?_ (by omega) fun h' F' N' => hQ h' tk tov nt oM oD tl v5 v6 F' N' mm (by show ToldAt tl tov.toList (outs ++ []); rw [List.append_nil]; exact ht) fun _ q => q
    intro q hq
    simp only [List.mem_cons] at hq
    rcases hq with e | e | e | e | e | e | e | e | e
    · rw [e]; exact Nat.ne_of_lt n5
    · rw [e]; exact Nat.ne_of_lt (Nat.lt_trans n4 n5)
    all_goals first | (rw [e]; show @Ne Nat _ _; omega) | exact (mm q e).one (by simp)
  | succ n ih =>
    intro h tk x left tov nt oM oD cD cM tl v0 v1 v2 v3 v5 v6 outs e hx hx1 hz F N hoD hoM mm ha ht hQ
    refine du_dturn (s := { s₀ with heap := h, toks := tk }) (Nx := fun s' => ForV P0 w A E env (.Name nm0 np0) bd Q (.ref I) s') hst henv B F X T N hA hoF hoP hoD hoM (by omega) n1 n2 n3 n4 n5 (fun q hq => (mm q hq).one (by simp)) (fun q hq => (mm q hq).one (by simp)) (fun q hq => (mm q hq).one (by simp)) (fun q hq => (mm q hq).one (by simp)) hd hu hE hx (by omega) hfa hfl hpl ha hg hsz (by omega) (fun _ q => q) ?_
    intro h' tk' T2 U V M oM' oD' cM' cD' zs zs2 ys F' N' hM' hD' hfr hid a1 a2 a3 a4
    refine ih h' tk' (outs := outs ++ [(freshOf far x, idleOf far as x)]) (by omega) (by omega) (by omega) (by rw [Array.size_push]; omega) F' N' hD' hM' ?_ ?_ ?_ ?_
    · intro q hq
      simp only [List.mem_cons] at hq
      rcases hq with e | e | e | e | e
      · rw [e]; exact a1
      · rw [e]; exact a3
      · rw [e]; exact a2
      · rw [e]; exact a4
      · exact mm q e
    · exact ha.mono fun q hq => .tail _ (.tail _ (.tail _ (.tail _ hq)))
    · rw [Array.toList_push]
      exact ToldAt.app (ht.mono fun q hq => .tail _ (.tail _ (.tail _ (.tail _ hq)))) (.cons (xs := zs.toArray) (ys := zs2.toArray) (nM := zs.length) (nU := zs2.length) (.head _) (.tail _ (.tail _ (.head _))) (.tail _ (.head _)) hfr hid .nil)
    · intro h2 tk2 tov2 nt2 oM2 oD2 tl2 u5 u6 F2 N2 m2 t2 s2
      exact hQ h2 tk2 tov2 nt2 oM2 oD2 tl2 u5 u6 F2 N2 m2 (by rw [List.append_assoc] at t2; exact t2) fun q hq => s2 q (.tail _ (.tail _ (.tail _ (.tail _ hq))))
end

end
section -- DueF
theorem row170 : True := by (k_with_none; trivial)
theorem row171 : True := by ((k_with "MINE enterC" => ((k_dflt (refine' cellsM ?k1 ?k2 ?k3 ?k4 ?k5 ?kA ?kF ?kK ?k6 ?k7 ?k8 ?k9 ?kB ?kD ?_ ?c2 ?c3 ?c4; (case kA => exact rfl); (case kF => exact rfl); (case kK => first | assumption | exact rfl); (case k1 => k_asm); (case k2 => k_asm); (case k3 => k_asm); (case k4 => assumption); (case k5 => k_asm); (case k6 => k_is); (case k7 => k_is); (case k8 => ktr_room); (case k9 => first | exact BindsTo.of_eq rfl | exact binds_K (by k_in) rfl (by k_is) rfl rfl rfl); (case kB => exact rfl); (case kD => decide +kernel); (case c2 => exact rfl); (case c3 => exact rfl); (case c4 => exact rfl); k_whole; intro zkg' zkL' zkh' zktk' zkcells' zkgk' zkFG' zkF' zkN' zkY' zkB' zkX' zkT' zkl1; (have zkl2 := zkl1); (try k_lt zkl1); k_cells zkY'; (try simp only [List.cons_append, List.nil_append] at zkN'); (try dsimp only); (try k_lift zkB'); (try k_fold))))); trivial)
local macro_rules | `(tactic| k_all) => `(tactic| (refine' tail_ne ?a ?b ?c; (case a => assumption); (case b => (intro p hp; repeat (first | exact hp | apply List.Mem.tail))); (case c => omega)))
theorem fill_duf : (PySem.Challenge.rw_of0118_01.name = PySem.Challenge.rw_of0118_01.name) → (∀ P, KF P = KF P) := by
  k_fill
  intro _ _; rfl
section
variable {w : World} {p : Program} {loose : List Str} {mean : ExcName → Option Value} {mg mb : Str → Option Value} {A₀ : Around} {dp un : Nat} {gd : Option (List Code)} {cn : Str} {cs : Scope} {ca : Addr} {ccd : Value} {cl : List (Str × Addr)} {outer : List Env} {base h₀ : Heap} {L : Addr} {m : Str → Option Value} {s : Shared} {news : List (Addr × Obj)} {R : Result → Shared → Prop}
theorem row172 : True := by ((k_with "setItem ref int" => ((k_here; (with_reducible show wpAny _ _ (setItem (Value.ref _) (Value.int _ _) (Value.int _ _)) _ _ _); k_dflt (refine' ksa_set ?k1 ?k2 ?k3 ?k4 ?k5 ?k6 ?k7 ?_; (case k1 => k_asm); (case k2 => k_asm); (case k3 => k_upd); (case k4 => exact .cons _ _ (.cons _ _ (.cons _ _ (.cons _ _ (.cons _ _ .nil))))); (case k5 => omega); (case k6 => (simp only [List.length_cons, List.length_nil]; omega)); (case k7 => omega); k_whole); intro zkh' zkF' zkN' zkhi' zkhl' zkhs'; (try k_sweep)))); trivial)
theorem row173 : True := by ((k_with "exec For Name Call cons nil" => ((k_here; k_dflt (refine for_begin ?_)))); trivial)
theorem row174 : True := by ((k_with "exec For" => ((k_here; k_dflt (refine for_begin ?_)))); trivial)
theorem row175 : True := by ((k_with "eval ListComp" => ((k_here; (k_dflt (refine LCt.ListComp_T (F₀ := by k_asm) (by with_unfolding_all rfl) (by decide) (by rfl) (by decide) (by rfl) ?_))))); trivial)
theorem row176 : True := by ((k_with "CompSrcT" => ((k_here; (k_dflt (refine LCt.CompSrcT.ledger (by rfl) (by k_asm) (by k_asm) (by k_mem) (by assumption) ?_)); intro zkg'; refine hold_in ?_))); trivial)
theorem row177 : True := by ((k_with "pyIter ref" => ((k_here; (with_reducible show wpAny _ _ (pyIter (Value.ref _)) (fun it s₂ => ForV _ _ _ _ _ _ _ _ it s₂) _ _); k_dflt (refine' for_iterQ ?F ?N ?l ?h0 ?h1 ?h2 ?_; (case F => k_asm); (case N => assumption); (case l => assumption); (case h0 => omega); (case h1 => omega); (case h2 => omega)); intro zkI' zkh' zkF' zkN' zkl1; (try k_sweep)))); trivial)
noncomputable def far0 (st : Int) : List Int := ([9, 9, 9, 9, 9] : List Int).set st.toNat 0
noncomputable def farOf (as : List (Int × Int × Int)) (st : Int) : List Int := relaxN 4 as (far0 st)
theorem relax_get {far : List Int} {a : Int × Int × Int} {i : Nat} : (relax far a).getD i 0 ≤ far.getD i 0 := by
  unfold relax
  rw [List.getD_eq_getElem?_getD, List.getD_eq_getElem?_getD, List.getElem?_set]
  split
  · rename_i h
    subst h
    split
    · simp only [Option.getD_some]
      rw [← List.getD_eq_getElem?_getD]
      split <;> omega
    · rename_i h2
      rw [List.getD_eq_getElem?_getD, List.getElem?_eq_none (by omega)]
      exact Int.le_refl _
  · exact Int.le_refl _
theorem relax_nn {far : List Int} {a : Int × Int × Int} (h : ∀ x ∈ far, 0 ≤ x) : ∀ x ∈ relax far a, 0 ≤ x := by
  have g : ∀ i : Nat, 0 ≤ far.getD i 0 := by
    intro i
    rw [List.getD_eq_getElem?_getD]
    cases e : far[i]? with
    | none => simp
    | some y => simpa using h y (List.mem_of_getElem? e)
  intro x hx
  unfold relax at hx
  rcases List.mem_or_eq_of_mem_set hx with hx | rfl
  · exact h x hx
  · have g1 := g a.1.toNat
    have g2 := g a.2.1.toNat
    split <;> omega
theorem fold_get {as : List (Int × Int × Int)} {i : Nat} : ∀ {far : List Int}, (as.foldl relax far).getD i 0 ≤ far.getD i 0 := by
  induction as with
  | nil => intro far; exact Int.le_refl _
  | cons a as ih => intro far; exact Int.le_trans ih relax_get
theorem fold_nn {as : List (Int × Int × Int)} : ∀ {far : List Int}, (∀ x ∈ far, 0 ≤ x) → ∀ x ∈ as.foldl relax far, 0 ≤ x := by
  induction as with
  | nil => intro far h; exact h
  | cons a as ih => intro far h; exact ih (relax_nn h)
theorem relaxN_get {as : List (Int × Int × Int)} {i : Nat} : ∀ {n : Nat} {far : List Int}, (relaxN n as far).getD i 0 ≤ far.getD i 0
  | 0, _ => Int.le_refl _
  | n + 1, _ => Int.le_trans (relaxN_get (n := n)) fold_get
theorem relaxN_nn {as : List (Int × Int × Int)} : ∀ {n : Nat} {far : List Int}, (∀ x ∈ far, 0 ≤ x) → ∀ x ∈ relaxN n as far, 0 ≤ x
  | 0, _, h => h
  | n + 1, _, h => relaxN_nn (n := n) (fold_nn h)
theorem far0_nn {st : Int} : ∀ x ∈ far0 st, 0 ≤ x := by
  intro x hx
  rcases List.mem_or_eq_of_mem_set hx with hx | rfl
  · simp at hx; omega
  · decide
theorem farOf_st {as : List (Int × Int × Int)} {st : Int} (h0 : 0 ≤ st) (h1 : st < 5) : 0 ∈ farOf as st := by
  have hl : (farOf as st).length = 5 := relaxN_len.trans (List.length_set ..)
  have h2 : (farOf as st).getD st.toNat 0 ≤ (far0 st).getD st.toNat 0 := relaxN_get
  have h3 : (far0 st).getD st.toNat 0 = 0 := by
    rcases (by omega : st = 0 ∨ st = 1 ∨ st = 2 ∨ st = 3 ∨ st = 4) with rfl | rfl | rfl | rfl | rfl <;> decide
  have hm : (farOf as st).getD st.toNat 0 ∈ farOf as st := by
    rw [List.getD_eq_getElem?_getD, List.getElem?_eq_getElem (by omega)]
    exact List.getElem_mem _
  have h4 := relaxN_nn far0_nn _ hm
  have h5 : (farOf as st).getD st.toNat 0 = 0 := by omega
  rw [h5] at hm
  exact hm
theorem mx_bds {as : List (Int × Int × Int)} {st M : Int} (h0 : 0 ≤ st) (h1 : st < 5) (hm : M ∈ (farOf as st).filter fun v => decide (v < 9)) (hb : ∀ a, a ∈ ((farOf as st).filter fun v => decide (v < 9)) → a ≤ M) : 0 ≤ M ∧ M < 9 :=
  ⟨hb 0 (List.mem_filter.mpr ⟨farOf_st h0 h1, rfl⟩), of_decide_eq_true (List.mem_filter.mp hm).2⟩
theorem eq_dut {v0 v1 v2 v3 v4 v5 v6 : Option Value} {u c0 c1 : Value} : (fun y => if y = Str.ofString "told" then some u else duM v0 v1 v2 v3 v4 v5 v6 c0 c1 y) = duM v0 v1 v2 v3 (some u) v5 v6 c0 c1 := funext fun y => by rw [duM_told]
theorem News.du4 {h₀ h : Heap} {L : Addr} {a b : Addr × Obj} {l : List (Addr × Obj)} (N : News h₀ L h (a :: b :: l)) : News h₀ L h (a :: l) := fun q hq => N q (by
  rcases List.mem_cons.mp hq with h | h
  · rw [h]; exact .head _
  · exact .tail _ (.tail _ h))
theorem row178 : True := by ((k_with "call builtin:max" => ((k_here; (with_reducible show wpAny _ _ (call (Value.builtin _) [Value.ref _]) _ _ _); (with_unfolding_all refine' kso_max (ns := List.filter _ _) ?k1 ?k2 ?k3 ?k4 ?k5 ?k6 ?_; (case k1 => k_asm); (case k2 => k_asm); (case k3 => kso_list); (case k4 => assumption); (case k5 => assumption); (case k6 => with_unfolding_all rfl); k_whole); intro zkh' zkM' zkt' zkk' zkF' zkN' zka' zkb'; (try k_sweep)))); trivial)
theorem due_c {pl ar : Addr} {plv acc : Array Value} {np nA : Nat} {as : List (Int × Int × Int)} {st : Int} {tst : Tok}
    (B : Below A₀ base outer h₀) (F : Fr h₀ L s.heap m) (X : (KF w.params).In h₀) (N : News h₀ L s.heap news) (T : Top p loose mean mg mb h₀) (hke : cs.kind = .function)
    (hpl : (pl, W.listOf plv np) ∈ news) (har : (ar, W.listOf acc nA) ∈ news) (hplv : PlAt plv) (ha : ArrAt news acc.toList as) (hz : acc.size ≤ 100) (hg : ∀ a ∈ as, GoodArr a)
    (hst0 : 0 ≤ st) (hst1 : st < 5)
    (hd : dp + 24 < recursionLimit) (hu : un + 140 < cLine)
    (hret : ∀ h' tk' to tov nt tl M, Fr h₀ L h' m → News h₀ L h' ((to, W.listOf tov nt) :: tl) → (M ∈ (farOf as st).filter fun v => decide (v < 9)) → (∀ a, a ∈ ((farOf as st).filter fun v => decide (v < 9)) → a ≤ M) → ToldAt tl tov.toList (dueFrom (farOf as st) as 1 (M + 1).toNat) → (∀ q ∈ news, q ∈ tl) → R (.ok (.ret (.ref to))) { s with heap := h', toks := tk' }) :
    codeAny (model P0 w) (ktrTop dp un gd cn cs L ca ccd cl outer) (.call (.ref 933) ⟨[.ref pl, .ref ar, .int st tst], []⟩) R s := by
  w_on
  have Nm : News h₀ L s.heap ((pl, W.listOf plv np) :: (ar, W.listOf acc nA) :: news) := fun q hq => by
    simp only [List.mem_cons] at hq
    rcases hq with e | e | e
    · rw [e]; exact N _ hpl
    · rw [e]; exact N _ har
    · exact N q e
  clear N
  walk_at "MINE enterC"
  have zkB' : True := trivial; have zkF' : True := trivial; have zkFG' : True := trivial; have zkI' : True := trivial; have zkL' : True := trivial; have zkM' : True := trivial; have zkN' : True := trivial; have zkT' : True := trivial; have zkX' : True := trivial; have zkY' : True := trivial; have zka' : True := trivial; have zkb' : True := trivial; have zkcells' : True := trivial; have zkg' : True := trivial; have zkgk' : True := trivial; have zkh' : True := trivial; have zkhi' : True := trivial; have zkhl' : True := trivial; have zkhs' : True := trivial; have zkk' : True := trivial; have zkl1 : True := trivial; have zkl2 : True := trivial; have zkt' : True := trivial; have zktk' : True := trivial
  rename_i g' L' h' tk' gk' FG' F' B' X' T' l2' l1' o1 o2 o3 o4 d1 d2 d3 d4 N'
  replace F' := Fr.cong (m' := duM none none none none none none none (.ref ar) (.int st tst)) (Eq.trans (by kernel_rfl) eq_dui) F'
  replace d1 : o1.data = .cell none := d1.trans (by kernel_rfl)
  replace d2 : o2.data = .cell none := d2.trans (by kernel_rfl)
  replace d3 : o3.data = .cell none := d3.trans (by kernel_rfl)
  replace d4 : o4.data = .cell (some (.ref pl)) := d4.trans (by kernel_rfl)
  obtain ⟨lpl, lar, _⟩ := l1'
  have ln : ∀ q ∈ news, @LT.lt Nat _ q.1 L' := fun q hq => l2' q (.tail _ (.tail _ hq))
  k_steps
  have zkB' : True := trivial; have zkF' : True := trivial; have zkFG' : True := trivial; have zkI' : True := trivial; have zkL' : True := trivial; have zkM' : True := trivial; have zkN' : True := trivial; have zkT' : True := trivial; have zkX' : True := trivial; have zkY' : True := trivial; have zka' : True := trivial; have zkb' : True := trivial; have zkcells' : True := trivial; have zkg' : True := trivial; have zkgk' : True := trivial; have zkh' : True := trivial; have zkhi' : True := trivial; have zkhl' : True := trivial; have zkhs' : True := trivial; have zkk' : True := trivial; have zkl1 : True := trivial; have zkl2 : True := trivial; have zkt' : True := trivial; have zktk' : True := trivial
  rename_i f h1 lf h2 oF dF h3 hfa hfl hsum hvl h4 tk4 t1 t2 t3 hR4 hk4 I h5 F5 N5 l5
  obtain ⟨lf1, lf2, lf3, lf4, lf5, lf6, _⟩ := lf
  have lI : @LT.lt Nat _ f I := l5 (f, _) (.head _)
  refine' du_outer rfl rfl ?wB ?wX ?wT rfl dF lf1 lpl lar lI ?n5 ?n6 ?hd ?hu ?hE ha hg 4 _ _ (by decide) F5 N5 hfa hfl ?_
  case wB => assumption
  case wX => assumption
  case wT => assumption
  case hd => ktr_room
  case hu => ktr_units
  case hE => first | passes_own | with_unfolding_all passes_own
  case n5 => intro q hq e; have := ln q hq; rw [e] at this; omega
  case n6 => intro q hq e; have := ln q hq; rw [e] at this; omega
  intro h6 tk6 fvs6 u0 u1 u2 u3 F6 N6 hf6
  have hfl6 : (farOf as st).length = 5 := relaxN_len.trans hfl
  have hfz6 : fvs6.toArray.size ≤ sizeLine := by
    have e1 := hf6.length
    have e2 : fvs6.length = 5 := e1.trans hfl6
    rw [List.size_toArray, e2]; decide
  clear F5 N5 l5
  k_steps
  refine hold_out ?_
  rw [show fvs6.toArray.size = (farOf as st).length by rw [List.size_toArray]; exact hf6.length]
  refine' cr_ints (fun v => decide (v < 9)) (fun k y => ∃ t, y = .int k t) (fun _ => True) (farOf as st) (fun i v k hv hk => ints_at hf6 i v k (by simpa using hv) hk) (fun _ _ => trivial) ?tS ?tT _ 0 [] rfl ?tE
  case tS => exact .inr ⟨_, by k_mem, rfl, _, rfl⟩
  case tT =>
    intro k t I' oI' C' oC' D' oD' mC h tk E' K1 K0 hk hC hx' F N k1 k0
    k_steps
    · exact k1 _ _ _ (by assumption) (by assumption) (decide_eq_true (by assumption)) ⟨_, rfl⟩
    · exact k0 _ _ (by assumption) (by assumption) (decide_eq_false (by assumption))
  intro zs hz7
  have hmx := hz7.ints
  clear hz7
  rw [List.nil_append]
  have hne7 : 0 < ((farOf as st).filter fun v => decide (v < 9)).length := List.length_pos_of_mem (List.mem_filter.mpr ⟨farOf_st hst0 hst1, rfl⟩)
  k_steps
  have zkB' : True := trivial; have zkF' : True := trivial; have zkFG' : True := trivial; have zkI' : True := trivial; have zkL' : True := trivial; have zkM' : True := trivial; have zkN' : True := trivial; have zkT' : True := trivial; have zkX' : True := trivial; have zkY' : True := trivial; have zka' : True := trivial; have zkb' : True := trivial; have zkcells' : True := trivial; have zkg' : True := trivial; have zkgk' : True := trivial; have zkh' : True := trivial; have zkhi' : True := trivial; have zkhl' : True := trivial; have zkhs' : True := trivial; have zkk' : True := trivial; have zkl1 : True := trivial; have zkl2 : True := trivial; have zkt' : True := trivial; have zktk' : True := trivial
  rename_i D8 h8 tk8 o18 h9 M t9 k9 F9 N9 aM bM e9 h10 tk10 r1 r2 r3 hR10 F10 N10 hk10
  obtain ⟨hM0, hM1⟩ := mx_bds hst0 hst1 aM bM
  k_steps
  have zkB' : True := trivial; have zkF' : True := trivial; have zkFG' : True := trivial; have zkI' : True := trivial; have zkL' : True := trivial; have zkM' : True := trivial; have zkN' : True := trivial; have zkT' : True := trivial; have zkX' : True := trivial; have zkY' : True := trivial; have zka' : True := trivial; have zkb' : True := trivial; have zkcells' : True := trivial; have zkg' : True := trivial; have zkgk' : True := trivial; have zkh' : True := trivial; have zkhi' : True := trivial; have zkhl' : True := trivial; have zkhs' : True := trivial; have zkk' : True := trivial; have zkl1 : True := trivial; have zkl2 : True := trivial; have zkt' : True := trivial; have zktk' : True := trivial
  rename_i I11 h11 F11 N11 l11
  refine' du_dloop rfl rfl ?wB ?wX ?wT rfl dF d4 lf1 lpl lar ?n4 ?n5 ?hd ?hu ?hE hf6 hfl6 hplv hg ?sz (M + 1).toNat _ _ ?x1 (Int.le_refl 1) ?x2 ?x3 (Fr.cong eq_dut F11) (News.du4 N11) d2 d1 ?mm ha .nil ?_
  case wB => assumption
  case wX => assumption
  case wT => assumption
  case hd => ktr_room
  case hu => ktr_units
  case hE => first | passes_own | with_unfolding_all passes_own
  case n4 => omega
  case n5 => exact l11 (_, W.listOf #[] 0) (.tail _ (.head _))
  case sz => omega
  case x1 => omega
  case x2 => omega
  case x3 => show 0 + (M + 1).toNat ≤ 100; omega
  case mm =>
    intro q hq
    have := ln q hq
    have h2 : @LT.lt Nat _ q.1 I11 := l11 q (.tail _ (.tail _ (.tail _ (.tail _ (.tail _ (.tail _ (.tail _ (.tail _ (.tail _ hq)))))))))
    exact Apart.mk4 (by omega) (by omega) (by omega) (by omega)
  intro h12 tk12 tov12 nt12 oM12 oD12 tl12 u5 u6 F12 N12 m12 t12 s12
  replace t12 : ToldAt tl12 tov12.toList (dueFrom (farOf as st) as 1 (M + 1).toNat) := t12
  clear F11 N11 l11
  k_steps
  refine' hret _ _ _ _ _ _ M ?zF ?zN aM bM (t12.mono fun q hq => ?zS) (fun q hq => ?zT)
  case zF => assumption
  case zN => assumption
  case zS => exact .tail _ (.tail _ (.tail _ (.tail _ (.tail _ (.tail _ (.tail _ hq))))))
  case zT => exact .tail _ (.tail _ (.tail _ (.tail _ (.tail _ (.tail _ (.tail _ (s12 q hq)))))))
end

end
section -- LawE
noncomputable def outDat (o : List Str × List Str) : Dat := Dat.tuple [Dat.list (o.1.map Dat.str), Dat.list (o.2.map Dat.str)]
theorem ToldAt.dat {tl : List (Addr × Obj)} : ∀ {vs : List Value} {outs : List (List Str × List Str)}, ToldAt tl vs outs → DatAll tl vs (outs.map outDat) := fun h => by
  induction h with
  | nil => exact .nil
  | @cons T M U xs ys nM nU ms us vs outs a b c d e f ih => exact .cons (DatIn.tuple (vs := [.ref M, .ref U]) a (.cons (DatIn.list (vs := xs.toList) (n := nM) b (StrsOf.dat d)) (.cons (DatIn.list (vs := ys.toList) (n := nU) c (StrsOf.dat e)) .nil))) ih
theorem outOk {o : List Str × List Str} (h1 : ∀ x ∈ o.1, PyData.strOk x = true) (h2 : ∀ x ∈ o.2, PyData.strOk x = true) : kqdOk 8 (outDat o) = true := by
  unfold outDat
  simp only [kqdOk, List.all_cons, List.all_nil, Bool.and_true, Bool.and_eq_true, List.all_eq_true, List.mem_map, forall_exists_index, and_imp, forall_apply_eq_imp_iff₂]
  exact ⟨h1, h2⟩
theorem toldEq {prog : Program} {w : World} {A : Around} {E : Value → Shared → Prop} {s : Shared} {h₀ : Heap} {L a b : Addr} {news n₁ n₂ : List (Addr × Obj)} {av bv : Array Value} {ka kb : Nat} {out : List (List Str × List Str)} {Q : Value → Shared → Prop}
    (N : News h₀ L s.heap news) (ma : (a, W.listOf av ka) ∈ news) (mb : (b, W.listOf bv kb) ∈ news) (ha : ToldAt n₁ av.toList out) (sa : ∀ q ∈ n₁, q ∈ news) (hb : ToldAt n₂ bv.toList out) (sb : ∀ q ∈ n₂, q ∈ news) (ho : ∀ o ∈ out, (∀ x ∈ o.1, PyData.strOk x = true) ∧ ∀ x ∈ o.2, PyData.strOk x = true) (hu : A.units + 64 < cLine)
    (h : Q (.bool true) s) : wpAny (model prog w) A (compareOp .Eq (.ref a) (.ref b)) Q E s := by
  have ok : ∀ d ∈ out.map outDat, kqdOk 8 d = true := fun d hd => by
    obtain ⟨o, hm, rfl⟩ := List.mem_map.mp hd
    exact outOk (ho o hm).1 (ho o hm).2
  refine kqd_eq (xs := av.toList) (ys := bv.toList) N ma rfl rfl ha.dat sa mb rfl rfl hb.dat sb ok ok hu ?_
  have e : ∀ i : Decidable (out.map outDat = out.map outDat), @decide _ i = true := fun i => decide_eq_true rfl
  rw [e]
  exact h
theorem plAt_lit {t0 t1 t2 t3 t4 : Tok} : PlAt #[.str (Str.ofString "") t0, .str (Str.ofString "#") t1, .str (Str.ofString "it's") t2, .str (Str.ofString "x y") t3, .str (Str.ofString "z") t4] := by
  intro i hi
  rcases inR_cases hi with rfl | rfl | rfl | rfl | rfl <;> exact ⟨_, rfl⟩
theorem IntsAre.of : ∀ {vs : List Value} {ns : List Int}, IntsAre vs ns → IntsOf ns vs := fun h => by
  induction h with
  | nil => exact .nil
  | cons i t _ ih => exact .cons ih
theorem good_arrowOf (x : Int) : GoodArr (arrowOf x) := by
  have h1 := Int.fmod_nonneg_of_pos x (b := 50) (by decide)
  have h2 := Int.fmod_lt_of_pos x (b := 50) (by decide)
  unfold arrowOf GoodArr inR
  generalize x.fmod 50 = r at h1 h2
  have e1 : r.fmod 5 = r % 5 := Int.fmod_eq_emod_of_nonneg _ (by decide)
  have e2 : r.fdiv 5 = r / 5 := Int.fdiv_eq_ediv_of_nonneg _ (by decide)
  have e3 : (r.fdiv 5).fmod 5 = (r / 5) % 5 := by rw [e2]; exact Int.fmod_eq_emod_of_nonneg _ (by decide)
  have e4 : r.fdiv 25 = r / 25 := Int.fdiv_eq_ediv_of_nonneg _ (by decide)
  simp only [e1, e3, e4]
  exact ⟨⟨Int.emod_nonneg _ (by decide), Int.emod_lt_of_pos _ (by decide)⟩, ⟨Int.emod_nonneg _ (by decide), Int.emod_lt_of_pos _ (by decide)⟩, by clear e1 e2 e3 e4; omega⟩
noncomputable def arrowsOf (ns : List Int) : List (Int × Int × Int) := [(0, 2, 0), (1, 0, 1), (2, 3, 0)] ++ (ns.take 8).map arrowOf
theorem good_arrows (ns : List Int) : ∀ a ∈ arrowsOf ns, GoodArr a := by
  intro a ha
  rcases List.mem_append.mp ha with ha | ha
  · simp only [List.mem_cons, List.not_mem_nil, or_false] at ha
    unfold GoodArr inR
    rcases ha with rfl | rfl | rfl <;> simp
  · obtain ⟨x, _, rfl⟩ := List.mem_map.mp ha
    exact good_arrowOf x
theorem len_arrows (ns : List Int) : (arrowsOf ns).length ≤ 11 := by
  unfold arrowsOf
  simp
  omega
theorem ok_plAt {i : Int} : PyData.strOk (plAt i) = true := by
  unfold plAt
  (repeat' split) <;> decide +kernel
theorem due_ok (far : List Int) (as : List (Int × Int × Int)) : ∀ (x : Int) (n : Nat), ∀ o ∈ dueFrom far as x n, (∀ y ∈ o.1, PyData.strOk y = true) ∧ ∀ y ∈ o.2, PyData.strOk y = true
  | _, 0, _, h => nomatch h
  | x, n + 1, o, h => by
    rcases List.mem_cons.mp h with rfl | h
    · constructor
      · intro y hy
        obtain ⟨i, _, rfl⟩ := List.mem_map.mp hy
        exact ok_plAt
      · intro y hy
        obtain ⟨i, _, rfl⟩ := List.mem_map.mp hy
        exact ok_plAt
    · exact due_ok far as (x + 1) n o h
theorem Fr.unturn {h₀ g h : Heap} {L : Addr} {m : Str → Option Value} (T : KtsTurn [] h₀ g) (F : Fr g L h m) : Fr h₀ L h m := ⟨F.ns, fun b o e => F.keep b o (T.other b o e (fun h => nomatch h)), by rw [← T.size]; exact F.above⟩

end
section -- PlainA
noncomputable def five : List Int := [0, 1, 2, 3, 4]
theorem mem_five {i : Int} : i ∈ five ↔ inR i := by
  unfold five inR
  simp only [List.mem_cons, List.not_mem_nil, or_false]
  omega
noncomputable def can (P : Int → Bool) : List Str := (five.filter P).map plAt
theorem pl_eq {i j : Int} (hi : inR i) (hj : inR j) (h : plAt i = plAt j) : i = j := by
  have := pl_inj hi hj
  rw [h] at this
  simpa using this.symm
theorem lt_pl {i j : Int} (hi : inR i) (hj : inR j) : Spec.ltCps (plAt i).cps.toList (plAt j).cps.toList = decide (i < j) := by
  rcases inR_cases hi with rfl | rfl | rfl | rfl | rfl <;> rcases inR_cases hj with rfl | rfl | rfl | rfl | rfl <;> decide +kernel
theorem lt_pl' {i j : Int} (hi : inR i) (hj : inR j) : ((plAt i).cps.toList < (plAt j).cps.toList) ↔ i < j := by
  have := lt_pl hi hj
  rw [ltCps_eq] at this
  exact decide_eq_decide.mp this
theorem rising_pw : ∀ {vs : List Int} {p : Int}, inR p → (∀ v ∈ vs, inR v) → risingS (plAt p) (vs.map plAt) = true → (p :: vs).Pairwise (· ≤ ·)
  | [], p, _, _, _ => List.pairwise_singleton ..
  | x :: r, p, hp, hv, h => by
    have hx := hv x (.head _)
    simp only [List.map_cons, risingS, Bool.and_eq_true, Bool.not_eq_true'] at h
    rw [lt_pl hx hp] at h
    have h1 : ¬ x < p := of_decide_eq_false h.1
    have ih := rising_pw hx (fun v q => hv v (.tail _ q)) h.2
    refine List.pairwise_cons.mpr ⟨fun y hy => ?_, ih⟩
    rcases List.mem_cons.mp hy with rfl | hy
    · omega
    · have := (List.pairwise_cons.mp ih).1 y hy
      omega
theorem sorted_pw {vs : List Int} (hv : ∀ v ∈ vs, inR v) (h : sortedS (vs.map plAt) = true) : vs.Pairwise (· ≤ ·) := by
  cases vs with
  | nil => exact .nil
  | cons p r => exact rising_pw (hv p (.head _)) (fun v q => hv v (.tail _ q)) h
theorem can_nodup (P : Int → Bool) : (can P).Nodup := by
  unfold can
  refine List.pairwise_map.mpr ?_
  have h1 : (five.filter P).Nodup := List.Nodup.sublist List.filter_sublist (by decide)
  refine List.Pairwise.imp_of_mem (fun ha hb hne e => hne (pl_eq (mem_five.mp (List.mem_filter.mp ha).1) (mem_five.mp (List.mem_filter.mp hb).1) e)) h1
theorem can_len (P : Int → Bool) : (can P).length ≤ 5 := by
  unfold can
  rw [List.length_map]
  exact Nat.le_trans (List.length_filter_le ..) (by decide)
theorem mem_can {P : Int → Bool} {y : Str} : y ∈ can P ↔ ∃ v, inR v ∧ P v = true ∧ y = plAt v := by
  unfold can
  rw [List.mem_map]
  constructor
  · rintro ⟨v, hv, rfl⟩
    exact ⟨v, mem_five.mp (List.mem_filter.mp hv).1, (List.mem_filter.mp hv).2, rfl⟩
  · rintro ⟨v, h1, h2, rfl⟩
    exact ⟨v, List.mem_filter.mpr ⟨mem_five.mpr h1, h2⟩, rfl⟩
theorem pl_list : ∀ {ss : List Str}, (∀ y ∈ ss, ∃ v, inR v ∧ y = plAt v) → ∃ vs : List Int, (∀ v ∈ vs, inR v) ∧ ss = vs.map plAt
  | [], _ => ⟨[], (fun _ h => by cases h), rfl⟩
  | y :: r, h => by
    obtain ⟨v, hv, rfl⟩ := h y (.head _)
    obtain ⟨vs, h1, rfl⟩ := pl_list fun z hz => h z (.tail _ hz)
    exact ⟨v :: vs, fun u hu => (List.mem_cons.mp hu).elim (fun e => e ▸ hv) (h1 u), rfl⟩
/-- a sorted list without repeats of the places within P is the written one -/
theorem canon {ss : List Str} {P : Int → Bool} (hs : sortedS ss = true) (hn : ss.Nodup) (hm : ∀ y, y ∈ ss ↔ y ∈ can P) : ss = can P := by
  obtain ⟨vs, h1, rfl⟩ := pl_list (ss := ss) fun y hy => by
    obtain ⟨v, a, _, b⟩ := mem_can.mp ((hm y).mp hy)
    exact ⟨v, a, b⟩
  have h2 : vs.Nodup := (List.pairwise_map.mp hn).imp fun {a b} (h : plAt a ≠ plAt b) (e : a = b) => h (congrArg plAt e)
  have h3 : vs.Perm (five.filter P) := (List.perm_ext_iff_of_nodup h2 (List.Nodup.sublist List.filter_sublist (by decide))).mpr fun v => by
    constructor
    · intro hv
      obtain ⟨u, a, b, c⟩ := mem_can.mp ((hm _).mp (List.mem_map_of_mem hv))
      rw [pl_eq (h1 v hv) a c]
      exact List.mem_filter.mpr ⟨mem_five.mpr a, b⟩
    · intro hv
      have a := mem_five.mp (List.mem_filter.mp hv).1
      obtain ⟨u, hu, e⟩ := List.mem_map.mp ((hm (plAt v)).mpr (mem_can.mpr ⟨v, a, (List.mem_filter.mp hv).2, rfl⟩))
      rw [← pl_eq (h1 u hu) a e]
      exact hu
  unfold can
  rw [List.Perm.eq_of_pairwise (le := (· ≤ ·)) (fun a b _ _ p q => Int.le_antisymm p q) (sorted_pw h1 hs) (List.Pairwise.sublist List.filter_sublist (by decide)) h3]
theorem sd_nilE {as m u : List Str} (h : SD [] as m u) : m = [] ∧ u = as := by
  cases h; exact ⟨rfl, rfl⟩
theorem sd_nilA {es m u : List Str} (h : SD es [] m u) : m = es ∧ u = [] := by
  cases h with
  | nilE => exact ⟨rfl, rfl⟩
  | nilA => exact ⟨rfl, rfl⟩
/-- what is told of two written lists -/
theorem sd_can (P K : Int → Bool) : ∀ (l : List Int), (∀ v ∈ l, inR v) → l.Pairwise (· < ·) → SD ((l.filter P).map plAt) ((l.filter K).map plAt) ((l.filter fun v => P v && !K v).map plAt) ((l.filter fun v => K v && !P v).map plAt)
  | [], _, _ => .nilE
  | v :: l, hv, hp => by
    have hv0 := hv v (.head _)
    obtain ⟨hp1, hp2⟩ := List.pairwise_cons.mp hp
    have ih := sd_can P K l (fun u hu => hv u (.tail _ hu)) hp2
    have lt : ∀ u ∈ l, (plAt v).cps.toList < (plAt u).cps.toList := fun u hu => (lt_pl' hv0 (hv u (.tail _ hu))).mpr (hp1 u hu)
    have irr : ¬ (plAt v).cps.toList < (plAt v).cps.toList := fun h => absurd ((lt_pl' hv0 hv0).mp h) (by omega)
    have asym : ∀ u ∈ l, ¬ (plAt u).cps.toList < (plAt v).cps.toList := fun u hu h => by
      have := (lt_pl' (hv u (.tail _ hu)) hv0).mp h
      have := hp1 u hu
      omega
    cases hP : P v <;> cases hK : K v
    · simpa [List.filter_cons, hP, hK] using ih
    · simp only [List.filter_cons, hP, hK, Bool.false_eq_true, if_false, if_true, Bool.not_false, Bool.not_true, Bool.and_true, Bool.and_false, Bool.false_and, List.map_cons]
      cases hl : (l.filter P).map plAt with
      | nil =>
        rw [hl] at ih
        obtain ⟨e1, e2⟩ := sd_nilE ih
        rw [e1, e2]
        exact .nilE
      | cons e es =>
        rw [hl] at ih
        obtain ⟨u, hu, rfl⟩ := List.mem_map.mp (show e ∈ (l.filter P).map plAt by rw [hl]; exact .head _)
        have hu' := (List.mem_filter.mp hu).1
        exact .gt (asym u hu') (lt u hu') ih
    · simp only [List.filter_cons, hP, hK, Bool.false_eq_true, if_false, if_true, Bool.not_false, Bool.not_true, Bool.and_true, Bool.and_false, Bool.false_and, List.map_cons]
      cases hl : (l.filter K).map plAt with
      | nil =>
        rw [hl] at ih
        obtain ⟨e1, e2⟩ := sd_nilA ih
        rw [e1, e2]
        exact .nilA
      | cons e es =>
        rw [hl] at ih
        obtain ⟨u, hu, rfl⟩ := List.mem_map.mp (show e ∈ (l.filter K).map plAt by rw [hl]; exact .head _)
        exact .lt (lt u (List.mem_filter.mp hu).1) ih
    · simp only [List.filter_cons, hP, hK, Bool.false_eq_true, if_false, if_true, Bool.not_true, Bool.and_false, List.map_cons]
      exact .eq irr irr ih
theorem foldAddW : ∀ (l fs : List Str), fs.Nodup → (l.foldl addW fs).Nodup ∧ ∀ y, y ∈ l.foldl addW fs ↔ y ∈ fs ∨ ∃ x ∈ l, Txt.lower x = y
  | [], fs, h => ⟨h, fun y => by simp⟩
  | x :: l, fs, h => by
    rw [List.foldl_cons]
    have h1 : (addW fs x).Nodup ∧ ∀ y, y ∈ addW fs x ↔ y ∈ fs ∨ Txt.lower x = y := by
      unfold addW
      split
      · rename_i e
        obtain ⟨z, hz, e⟩ := List.any_eq_true.mp e
        have e' : z = Txt.lower x := by simpa using e
        subst e'
        exact ⟨h, fun y => ⟨.inl, fun q => q.elim id fun e => e ▸ hz⟩⟩
      · rename_i e
        refine ⟨List.nodup_append.mpr ⟨h, by simp, fun a ha b hb e2 => e (List.any_eq_true.mpr ⟨a, ha, ?_⟩)⟩, fun y => by simp [eq_comm]⟩
        rw [List.mem_singleton] at hb
        subst hb e2
        simp
    obtain ⟨a, b⟩ := foldAddW l (addW fs x) h1.1
    refine ⟨a, fun y => (b y).trans ?_⟩
    rw [h1.2]
    simp only [List.mem_cons, exists_eq_or_imp, or_assoc]

end
section -- PlainB
section
variable (as : List (Int × Int × Int)) (st : Int)
/-- v is reached from st by k arrows -/
noncomputable def Reach : Nat → Int → Prop
  | 0, v => v = st
  | k + 1, v => ∃ a ∈ as, a.2.1 = v ∧ Reach k a.1
noncomputable def From : Nat → Int → Int → Prop
  | 0, u, v => u = v
  | m + 1, u, v => ∃ a ∈ as, a.2.1 = v ∧ From m u a.1
end
section
variable {as : List (Int × Int × Int)} {st : Int}
theorem reach_in (hg : ∀ a ∈ as, GoodArr a) (hs : inR st) : ∀ {k : Nat} {v : Int}, Reach as st k v → inR v
  | 0, _, h => by rw [show _ = st from h]; exact hs
  | k + 1, v, ⟨a, ha, e, _⟩ => e ▸ (hg a ha).2.1
theorem reach_glue : ∀ {m i : Nat} {u v : Int}, From as m u v → Reach as st i u → Reach as st (i + m) v
  | 0, _, _, _, h, r => by rw [← show _ = _ from h]; exact r
  | m + 1, i, u, v, ⟨a, ha, e, h⟩, r => ⟨a, ha, e, reach_glue h r⟩
theorem from_cut : ∀ {k : Nat} {v : Int}, Reach as st k v → ∀ j, j ≤ k → ∃ u, Reach as st (k - j) u ∧ From as j u v
  | k, v, h, 0, _ => ⟨v, h, rfl⟩
  | k + 1, v, ⟨a, ha, e, h⟩, j + 1, hj => by
    obtain ⟨u, h1, h2⟩ := from_cut h j (by omega)
    exact ⟨u, by rw [show k + 1 - (j + 1) = k - j by omega]; exact h1, a, ha, e, h2⟩
theorem pigeon : ∀ (n : Nat) (l : List Int), l.length ≤ n → ∀ f : Nat → Int, (∀ i, i ≤ n → f i ∈ l) → ∃ i j, i < j ∧ j ≤ n ∧ f i = f j
  | 0, l, hl, f, h => by
    have : l = [] := List.length_eq_zero_iff.mp (by omega)
    have h0 := h 0 (Nat.le_refl _)
    rw [this] at h0
    cases h0
  | n + 1, l, hl, f, h => by
    by_cases e : ∃ i, i ≤ n ∧ f i = f (n + 1)
    · obtain ⟨i, hi, e⟩ := e
      exact ⟨i, n + 1, by omega, Nat.le_refl _, e⟩
    · have hm := h (n + 1) (Nat.le_refl _)
      obtain ⟨i, j, h1, h2, h3⟩ := pigeon n (l.erase (f (n + 1))) (by rw [List.length_erase_of_mem hm]; omega) f fun i hi => (List.mem_erase_of_ne fun q => e ⟨i, hi, q⟩).mpr (h i (by omega))
      exact ⟨i, j, h1, by omega, h3⟩
/-- a place that is reached is reached by four arrows or fewer -/
theorem reach_short (hg : ∀ a ∈ as, GoodArr a) (hs : inR st) : ∀ (k : Nat) {v : Int}, Reach as st k v → ∃ k', k' ≤ 4 ∧ k' ≤ k ∧ Reach as st k' v := by
  intro k
  induction k using Nat.strongRecOn with
  | ind k ih =>
    intro v h
    by_cases hk : k ≤ 4
    · exact ⟨k, hk, Nat.le_refl _, h⟩
    · have ch : ∀ j, ∃ u, j ≤ k → Reach as st (k - j) u ∧ From as j u v := fun j => by
        by_cases hj : j ≤ k
        · obtain ⟨u, hu⟩ := from_cut h j hj
          exact ⟨u, fun _ => hu⟩
        · exact ⟨0, fun q => absurd q hj⟩
      let f : Nat → Int := fun j => Classical.choose (ch j)
      have hf : ∀ j, j ≤ k → Reach as st (k - j) (f j) ∧ From as j (f j) v := fun j => Classical.choose_spec (ch j)
      obtain ⟨i, j, h1, h2, h3⟩ := pigeon 5 five (by decide) f fun i hi => mem_five.mpr (reach_in hg hs (hf i (by omega)).1)
      have r := (hf j (by omega)).1
      rw [← h3] at r
      have r2 := reach_glue (hf i (by omega)).2 r
      obtain ⟨k', a, b, c⟩ := ih (k - j + i) (by omega) r2
      exact ⟨k', a, by omega, c⟩
noncomputable def gt' (far : List Int) (v : Int) : Int := far.getD v.toNat 0
theorem relax_at {far : List Int} {a : Int × Int × Int} {v : Int} (hl : far.length = 5) (hv : inR v) (ha : inR a.2.1) :
    gt' (relax far a) v = if v = a.2.1 then (if gt' far a.1 + 1 < gt' far a.2.1 then gt' far a.1 + 1 else gt' far a.2.1) else gt' far v := by
  unfold gt' relax inR at *
  rw [List.getD_eq_getElem?_getD, List.getElem?_set]
  by_cases e : v = a.2.1
  · subst e
    rw [if_pos rfl, if_pos (by omega), if_pos rfl]
    rfl
  · rw [if_neg (by omega), if_neg e, List.getD_eq_getElem?_getD]
theorem fold_at (hg : ∀ a ∈ as, GoodArr a) : ∀ {far : List Int} {v : Int}, gt' (as.foldl relax far) v ≤ gt' far v := fun {far} {v} => fold_get
/-- what every value below nine says -/
noncomputable def Tight (as : List (Int × Int × Int)) (st : Int) (far : List Int) : Prop := far.length = 5 ∧ ∀ v, inR v → 0 ≤ gt' far v ∧ (gt' far v < 9 → Reach as st (gt' far v).toNat v)
theorem tight_relax {far : List Int} {a : Int × Int × Int} (ha : a ∈ as) (hga : GoodArr a) (h : Tight as st far) : Tight as st (relax far a) := by
  obtain ⟨hl, ht⟩ := h
  refine ⟨relax_len.trans hl, fun v hv => ?_⟩
  rw [relax_at hl hv hga.2.1]
  have h1 := ht v hv
  have h2 := ht a.1 hga.1
  have h3 := ht a.2.1 hga.2.1
  split
  · rename_i e
    subst e
    split
    · refine ⟨by omega, fun h9 => ?_⟩
      rw [show (gt' far a.1 + 1).toNat = (gt' far a.1).toNat + 1 by omega]
      exact ⟨a, ha, rfl, h2.2 (by omega)⟩
    · exact h3
  · exact h1
theorem tight_fold : ∀ {bs : List (Int × Int × Int)} {far : List Int}, (∀ a ∈ bs, a ∈ as) → (∀ a ∈ bs, GoodArr a) → Tight as st far → Tight as st (bs.foldl relax far)
  | [], _, _, _, h => h
  | a :: bs, far, h1, h2, h => tight_fold (bs := bs) (fun b hb => h1 b (.tail _ hb)) (fun b hb => h2 b (.tail _ hb)) (tight_relax (h1 a (.head _)) (h2 a (.head _)) h)
theorem tight_N (hg : ∀ a ∈ as, GoodArr a) : ∀ {n : Nat} {far : List Int}, Tight as st far → Tight as st (relaxN n as far)
  | 0, _, h => h
  | n + 1, _, h => tight_N hg (n := n) (tight_fold (fun _ q => q) hg h)
noncomputable def Low (as : List (Int × Int × Int)) (st : Int) (i : Nat) (far : List Int) : Prop := ∀ k v, k ≤ i → inR v → Reach as st k v → gt' far v ≤ k
theorem low_fold (hg : ∀ a ∈ as, GoodArr a) (hs : inR st) {i : Nat} {far : List Int} (hl : far.length = 5) (h : Low as st i far) : Low as st (i + 1) (as.foldl relax far) := by
  intro k v hk hv hr
  cases k with
  | zero => exact Int.le_trans (fold_at hg) (h 0 v (Nat.zero_le _) hv hr)
  | succ k =>
    obtain ⟨a, ha, e, hr⟩ := hr
    obtain ⟨pre, post, rfl⟩ := List.append_of_mem ha
    rw [List.foldl_append, List.foldl_cons]
    have hga := hg a ha
    have h1 : gt' (pre.foldl relax far) a.1 ≤ gt' far a.1 := fold_get
    have h2 := h k a.1 (by omega) hga.1 hr
    have h3 := relax_at (far := pre.foldl relax far) (a := a) (v := v) (foldl_relax_len.trans hl) hv hga.2.1
    rw [if_pos e.symm] at h3
    have h4 : gt' (post.foldl relax (relax (pre.foldl relax far) a)) v ≤ gt' (relax (pre.foldl relax far) a) v := fold_get
    split at h3 <;> omega
theorem low_N (hg : ∀ a ∈ as, GoodArr a) (hs : inR st) : ∀ {n i : Nat} {far : List Int}, far.length = 5 → Low as st i far → Low as st (i + n) (relaxN n as far)
  | 0, _, _, _, h => h
  | n + 1, i, far, hl, h => by
    have := low_N hg hs (n := n) (foldl_relax_len.trans hl) (low_fold hg hs hl h)
    rw [show i + (n + 1) = i + 1 + n by omega]
    exact this
theorem far0_at (hs : inR st) {v : Int} (hv : inR v) : gt' (far0 st) v = if v = st then 0 else 9 := by
  rcases inR_cases hs with rfl | rfl | rfl | rfl | rfl <;> rcases inR_cases hv with rfl | rfl | rfl | rfl | rfl <;> decide
theorem tight_0 (hs : inR st) : Tight as st (far0 st) := ⟨List.length_set .., fun v hv => by
  rw [far0_at hs hv]
  split
  · exact ⟨by decide, fun _ => by assumption⟩
  · exact ⟨by decide, fun h => by omega⟩⟩
theorem low_0 (hs : inR st) : Low as st 0 (far0 st) := fun k v hk hv hr => by
  have : k = 0 := by omega
  subst this
  rw [far0_at hs hv, if_pos (show v = st from hr)]
  exact Int.le_refl _
theorem far_tight (hg : ∀ a ∈ as, GoodArr a) (hs : inR st) : Tight as st (farOf as st) := tight_N hg (tight_0 hs)
theorem far_low (hg : ∀ a ∈ as, GoodArr a) (hs : inR st) : Low as st 4 (farOf as st) := low_N hg hs (n := 4) (List.length_set ..) (low_0 hs)
theorem far_le (hg : ∀ a ∈ as, GoodArr a) (hs : inR st) {k : Nat} {v : Int} (h : Reach as st k v) : gt' (farOf as st) v ≤ k ∧ gt' (farOf as st) v ≤ 4 := by
  obtain ⟨k', a, b, c⟩ := reach_short hg hs k h
  have := far_low hg hs k' v a (reach_in hg hs h) c
  omega
/-- no arrow leads further than one -/
theorem far_step (hg : ∀ a ∈ as, GoodArr a) (hs : inR st) {a : Int × Int × Int} (ha : a ∈ as) (h9 : gt' (farOf as st) a.1 < 9) : gt' (farOf as st) a.2.1 ≤ gt' (farOf as st) a.1 + 1 := by
  have ht := (far_tight hg hs).2 a.1 (hg a ha).1
  have := (far_le hg hs (k := (gt' (farOf as st) a.1).toNat + 1) ⟨a, ha, rfl, ht.2 h9⟩).1
  omega
/-- what is d away has an arrow from what is d - 1 away -/
theorem far_pred (hg : ∀ a ∈ as, GoodArr a) (hs : inR st) {v : Int} (hv : inR v) (h0 : 0 < gt' (farOf as st) v) (h9 : gt' (farOf as st) v < 9) : ∃ a ∈ as, a.2.1 = v ∧ gt' (farOf as st) a.1 = gt' (farOf as st) v - 1 := by
  have ht := ((far_tight hg hs).2 v hv).2 h9
  obtain ⟨k, hk⟩ : ∃ k : Nat, (gt' (farOf as st) v).toNat = k + 1 := ⟨(gt' (farOf as st) v).toNat - 1, by omega⟩
  rw [hk] at ht
  obtain ⟨a, ha, e, hr⟩ := ht
  have h1 := (far_le hg hs hr).1
  have h2 := far_step hg hs ha (by omega)
  rw [e] at h2
  exact ⟨a, ha, e, by omega⟩
theorem far_zero (hg : ∀ a ∈ as, GoodArr a) (hs : inR st) {v : Int} (hv : inR v) : gt' (farOf as st) v = 0 ↔ v = st := by
  constructor
  · intro h
    have := ((far_tight hg hs).2 v hv).2 (by omega)
    rw [h] at this
    exact this
  · rintro rfl
    have := (far_le hg hs (k := 0) (v := v) rfl).1
    have := ((far_tight hg hs).2 v hv).1
    omega
theorem far_max (hg : ∀ a ∈ as, GoodArr a) (hs : inR st) {v : Int} (hv : inR v) (h9 : gt' (farOf as st) v < 9) : gt' (farOf as st) v ≤ 4 := (far_le hg hs (((far_tight hg hs).2 v hv).2 h9)).2
end

end
section -- Plain
noncomputable def wordsOf (rows : List ARow) (t : Int) : List (Int × Bool) := ((rows.filter fun r => decide (r.1.1 = t)).map (·.2)).flatten
theorem filter_keep {rows : List ARow} {u t : Int} (h : ¬ u = t) : (rows.filter fun r => !decide (r.1.1 = u)).filter (fun r => decide (r.1.1 = t)) = rows.filter fun r => decide (r.1.1 = t) := by
  rw [List.filter_filter]
  refine List.filter_congr fun r _ => ?_
  by_cases e : r.1.1 = t
  · simp [e, Ne.symm h]
  · simp [e]
theorem filter_drop {rows : List ARow} {t : Int} : (rows.filter fun r => !decide (r.1.1 = t)).filter (fun r => decide (r.1.1 = t)) = [] := by
  rw [List.filter_filter, List.filter_eq_nil_iff]
  intro r _
  by_cases e : r.1.1 = t <;> simp [e]
theorem words_step {rows : List ARow} {k : Int} {a : Int × Int × Int} {t : Int} : wordsOf (astep rows k a) t = wordsOf rows t ++ (if a.1 = t then [wdOf a] else []) := by
  unfold astep
  split
  · unfold wordsOf
    rw [List.filter_append, List.map_append, List.flatten_append]
    congr 1
    by_cases e : a.1 = t
    · simp [nmOf, e]
    · simp [nmOf, e]
  · unfold wordsOf
    rw [List.filter_append, List.map_append, List.flatten_append]
    by_cases e : a.1 = t
    · subst e
      rw [filter_drop]
      simp [nmOf]
    · rw [filter_keep e]
      simp [nmOf, e]
theorem words_run {t : Int} : ∀ {as : List (Int × Int × Int)} {k : Int} {rows : List ARow}, wordsOf (arun k as rows) t = wordsOf rows t ++ (as.filter fun a => decide (a.1 = t)).map wdOf
  | [], _, _ => by simp [arun]
  | a :: as, k, rows => by
    show wordsOf (arun (k + 1) as (astep rows k a)) t = _
    rw [words_run, words_step, List.append_assoc, List.filter_cons]
    by_cases e : a.1 = t <;> simp [e]
theorem good_run : ∀ {as : List (Int × Int × Int)} {k : Int} {rows : List ARow}, (∀ a ∈ as, GoodArr a) → (∀ r ∈ rows, GoodRow r) → ∀ r ∈ arun k as rows, GoodRow r
  | [], _, _, _, h => h
  | a :: as, k, rows, hg, h => good_run (as := as) (fun b hb => hg b (.tail _ hb)) (good_step h (hg a (.head _)))
theorem cnt_run : ∀ {as : List (Int × Int × Int)} {k : Int} {rows : List ARow}, wcnt (arun k as rows) = wcnt rows + as.length
  | [], _, _ => rfl
  | a :: as, k, rows => by
    show wcnt (arun (k + 1) as (astep rows k a)) = _
    rw [cnt_run, cnt_step, List.length_cons]
    omega
theorem cnt_mem : ∀ {rows : List ARow} {r : ARow}, r ∈ rows → r.2.length ≤ wcnt rows
  | a :: rows, r, h => by
    have e : wcnt (a :: rows) = a.2.length + wcnt rows := by simp [wcnt]
    rcases List.mem_cons.mp h with rfl | h
    · omega
    · have := cnt_mem h
      omega
noncomputable def lwOf (rows : List ARow) (nm : Str) : List (Str × List Str) := (rows.filter fun r => decide (plAt r.1.1 = nm)).map fun r => (line r.2, r.2.map txt)
theorem lw_filter {rows : List ARow} (h : ∀ r ∈ rows, GoodRow r) {t : Int} (ht : inR t) : (rows.filter fun r => decide (plAt r.1.1 = plAt t)) = rows.filter fun r => decide (r.1.1 = t) := by
  refine List.filter_congr fun r hr => ?_
  refine decide_eq_decide.mpr ⟨fun e => pl_eq (h r hr).1 ht e, fun e => by rw [e]⟩
theorem lw_words {rows : List ARow} (h : ∀ r ∈ rows, GoodRow r) {t : Int} (ht : inR t) : (lwOf rows (plAt t)).flatMap (·.2) = (wordsOf rows t).map txt := by
  unfold lwOf wordsOf
  rw [lw_filter h ht, List.flatMap_map, List.map_flatten, List.flatMap_def, List.map_map]
  rfl
theorem lw_ok {rows : List ARow} (h : ∀ r ∈ rows, GoodRow r) (hc : wcnt rows ≤ 60) {t : Int} (ht : inR t) : LwOk (rows.map conc) (plAt t) (lwOf rows (plAt t)) := by
  have e0 : txt (t, false) = plAt t := rfl
  have e1 : Txt.lower (plAt t) = plAt t := by rw [← e0]; exact lower_txt ht
  refine ⟨?_, ?_, by rw [e1]; exact ok_pl ht, by rw [e1, ← e0]; exact Nat.lt_trans (len_txt ht) (by decide), by rw [← e0]; exact Nat.lt_trans (len_txt ht) (by decide)⟩
  · have := filt_eq (b := false) ht h
    rw [e0] at this
    rw [this]
    unfold lwOf
    rw [lw_filter h ht, List.map_map, List.map_map]
    rfl
  · intro x hx
    obtain ⟨r, hr, rfl⟩ := List.mem_map.mp hx
    have hr' := (List.mem_filter.mp hr).1
    obtain ⟨_, g2, g3⟩ := h r hr'
    have h1 := cnt_mem hr'
    have h2 := len_line g3
    refine ⟨by show (line r.2).length < 1000; omega, words_line g2 g3, fun y hy => ?_⟩
    obtain ⟨w, hw, rfl⟩ := List.mem_map.mp hy
    exact Nat.lt_trans (len_txt (b := w.2) (g3 w hw)) (by decide)
theorem flat_le {α β : Type} {f : α → List β} {c : Nat} : ∀ {l : List α}, (∀ x ∈ l, (f x).length ≤ c) → (l.flatMap f).length ≤ l.length * c
  | [], _ => Nat.zero_le _
  | x :: l, h => by
    have h1 := h x (.head _)
    have h2 := flat_le (l := l) fun y hy => h y (.tail _ hy)
    rw [List.flatMap_cons, List.length_append, List.length_cons, Nat.succ_mul]
    omega
section
variable {as : List (Int × Int × Int)} {st : Int}
/-- what the lines of a level tell, in small letters -/
theorem found_mem (hg : ∀ a ∈ as, GoodArr a) {far : List Int} {d : Int} {y : Str} :
    (∃ x ∈ ((can fun v => gt' far v == d - 1).flatMap fun nm => (lwOf (arun 0 as []) nm).flatMap (·.2)), Txt.lower x = y) ↔ y ∈ can fun v => (metOf far as d).any fun z => z == v := by
  have gr : ∀ r ∈ arun 0 as [], GoodRow r := good_run hg fun _ h => nomatch h
  have mw : ∀ t w, w ∈ wordsOf (arun 0 as []) t ↔ ∃ a ∈ as, a.1 = t ∧ wdOf a = w := by
    intro t w
    rw [words_run]
    simp [wordsOf, and_assoc]
  rw [mem_can]
  constructor
  · rintro ⟨x, hx, rfl⟩
    obtain ⟨nm, hnm, hx⟩ := List.mem_flatMap.mp hx
    obtain ⟨t, ht, hd, rfl⟩ := mem_can.mp hnm
    rw [lw_words gr ht] at hx
    obtain ⟨w, hw, rfl⟩ := List.mem_map.mp hx
    obtain ⟨a, ha, e, rfl⟩ := (mw t w).mp hw
    have ga := hg a ha
    refine ⟨a.2.1, ga.2.1, ?_, lower_txt (b := decide (a.2.2 = 0)) ga.2.1⟩
    refine List.any_eq_true.mpr ⟨a.2.1, ?_, by simp⟩
    unfold metOf
    refine List.mem_map.mpr ⟨a, List.mem_filter.mpr ⟨ha, ?_⟩, rfl⟩
    rw [e]
    exact hd
  · rintro ⟨v, hv, hm, rfl⟩
    obtain ⟨z, hz, e⟩ := List.any_eq_true.mp hm
    have e' : z = v := by simpa using e
    subst e'
    unfold metOf at hz
    obtain ⟨a, ha, rfl⟩ := List.mem_map.mp hz
    obtain ⟨ha, hd⟩ := List.mem_filter.mp ha
    have ga := hg a ha
    refine ⟨txt (wdOf a), List.mem_flatMap.mpr ⟨plAt a.1, mem_can.mpr ⟨a.1, ga.1, hd, rfl⟩, ?_⟩, lower_txt (b := decide (a.2.2 = 0)) ga.2.1⟩
    rw [lw_words gr ga.1]
    exact List.mem_map_of_mem ((mw _ _).mpr ⟨a, ha, rfl, rfl⟩)
theorem rounds_go (hg : ∀ a ∈ as, GoodArr a) (hs : inR st) (hl : as.length ≤ 60) {M : Int} (hM0 : 0 ≤ M) (hM4 : M ≤ 4) (hlev : ∀ j, 0 ≤ j → j ≤ M → ∃ v, inR v ∧ gt' (farOf as st) v = j) (hMx : ∀ v, inR v → gt' (farOf as st) v < 9 → gt' (farOf as st) v ≤ M) :
    ∀ (n : Nat) (d : Int), d + n = M + 2 → 1 ≤ d → Rounds ((arun 0 as []).map conc) (lwOf (arun 0 as [])) (can fun v => gt' (farOf as st) v == d - 1) (can fun v => decide (gt' (farOf as st) v < d)) (d - 1).toNat (dueFrom (farOf as st) as d n) := by
  have gr : ∀ r ∈ arun 0 as [], GoodRow r := good_run hg fun _ h => nomatch h
  have hc : wcnt (arun 0 as []) ≤ 60 := by rw [cnt_run]; show 0 + as.length ≤ 60; omega
  intro n
  induction n with
  | zero =>
    intro d hd h1
    have e : (can fun v => gt' (farOf as st) v == d - 1) = [] := by
      refine List.eq_nil_iff_forall_not_mem.mpr fun y hy => ?_
      obtain ⟨v, hv, e, _⟩ := mem_can.mp hy
      have e' : gt' (farOf as st) v = d - 1 := by simpa using e
      have := hMx v hv (by omega)
      omega
    rw [e]
    exact .stop
  | succ n ih =>
    intro d hd h1
    have ih' := ih (d + 1) (by omega) (by omega)
    have hfn := foldAddW ((can fun v => gt' (farOf as st) v == d - 1).flatMap fun nm => (lwOf (arun 0 as []) nm).flatMap (·.2)) [] .nil
    have hfm : ∀ y, y ∈ (((can fun v => gt' (farOf as st) v == d - 1).flatMap fun nm => (lwOf (arun 0 as []) nm).flatMap (·.2)).foldl addW []) ↔ y ∈ can fun v => (metOf (farOf as st) as d).any fun z => z == v := fun y => (hfn.2 y).trans ⟨fun h => h.elim (fun h => nomatch h) (found_mem hg).mp, fun h => .inr ((found_mem hg).mpr h)⟩
    have hfl : (((can fun v => gt' (farOf as st) v == d - 1).flatMap fun nm => (lwOf (arun 0 as []) nm).flatMap (·.2)).foldl addW []).length ≤ 5 := by
      rw [((List.perm_ext_iff_of_nodup hfn.1 (can_nodup _)).mpr hfm).length_eq]
      exact can_len _
    have efresh : (can fun v => ((metOf (farOf as st) as d).any fun z => z == v) && !decide (gt' (farOf as st) v < d)) = freshOf (farOf as st) d := by
      show (five.filter _).map plAt = (five.filter _).map plAt
      congr 1
      refine List.filter_congr fun v hv => ?_
      have hv := mem_five.mp hv
      rw [Bool.eq_iff_iff]
      constructor
      · intro h
        obtain ⟨ha, hb⟩ := Bool.and_eq_true_iff.mp h
        obtain ⟨z, hz, e⟩ := List.any_eq_true.mp ha
        have e' : z = v := by simpa using e
        subst e'
        unfold metOf at hz
        obtain ⟨a, ha, e⟩ := List.mem_map.mp hz
        obtain ⟨ha, hq⟩ := List.mem_filter.mp ha
        have hq' : gt' (farOf as st) a.1 = d - 1 := beq_iff_eq.mp hq
        have hb' : ¬ gt' (farOf as st) z < d := by simpa using hb
        have h5 := far_step hg hs ha (by omega)
        rw [show a.2.1 = z from e] at h5
        have : gt' (farOf as st) z = d := by omega
        exact beq_iff_eq.mpr this
      · intro h
        have e : gt' (farOf as st) v = d := beq_iff_eq.mp h
        obtain ⟨a, ha, e1, e2⟩ := far_pred hg hs hv (by omega) (by omega)
        refine Bool.and_eq_true_iff.mpr ⟨List.any_eq_true.mpr ⟨v, ?_, by simp⟩, by simp; omega⟩
        unfold metOf
        refine List.mem_map.mpr ⟨a, List.mem_filter.mpr ⟨ha, ?_⟩, e1⟩
        rw [e] at e2
        exact beq_iff_eq.mpr e2
    refine .turn ?a1 ?a2 ?a3 (can_nodup _) (Nat.le_trans (can_len _) (by decide)) ?a4 ?a5 ?a6 (Nat.lt_of_le_of_lt hfl (by decide)) ?a7 ?a8
    case a1 =>
      obtain ⟨v, hv, e⟩ := hlev (d - 1) (by omega) (by omega)
      have hm : plAt v ∈ (can fun v => gt' (farOf as st) v == d - 1) := mem_can.mpr ⟨v, hv, by simpa using e, rfl⟩
      cases hq : (can fun v => gt' (farOf as st) v == d - 1) with
      | nil => rw [hq] at hm; cases hm
      | cons => rfl
    case a2 => omega
    case a3 =>
      intro x hx
      obtain ⟨v, _, _, rfl⟩ := mem_can.mp hx
      exact ok_plAt
    case a4 =>
      intro nm hnm
      obtain ⟨v, hv, _, rfl⟩ := mem_can.mp hnm
      exact lw_ok gr hc hv
    case a5 =>
      have := flat_le (f := fun nm => (lwOf (arun 0 as []) nm).flatMap (·.2)) (c := 60) (l := can fun v => gt' (farOf as st) v == d - 1) fun nm hnm => by
        obtain ⟨v, hv, _, rfl⟩ := mem_can.mp hnm
        rw [lw_words gr hv, words_run, List.length_map]
        show (([] : List (Int × Bool)) ++ _).length ≤ 60
        rw [List.nil_append, List.length_map]
        exact Nat.le_trans (List.length_filter_le ..) hl
      have h5 := can_len fun v => gt' (farOf as st) v == d - 1
      have : (can fun v => gt' (farOf as st) v == d - 1).length * 60 ≤ 5 * 60 := Nat.mul_le_mul_right _ h5
      omega
    case a6 =>
      intro ss hp hso
      have hn : ss.Nodup := hp.nodup_iff.mpr hfn.1
      have ess : ss = can fun v => (metOf (farOf as st) as d).any fun z => z == v := canon hso hn fun y => hp.mem_iff.trans (hfm y)
      refine ⟨?_, hn, by rw [hp.length_eq]; omega⟩
      rw [ess, ← efresh]
      exact sd_can (fun v => (metOf (farOf as st) as d).any fun z => z == v) (fun v => decide (gt' (farOf as st) v < d)) five (fun v hv => mem_five.mp hv) (by decide)
    case a7 =>
      have h5 := can_len fun v => decide (gt' (farOf as st) v < d)
      have h6 : (freshOf (farOf as st) d).length ≤ 5 := can_len fun v => gt' (farOf as st) v == d
      omega
    case a8 =>
      intro ss hp hso
      have h5 : ∀ y, y ∈ ss ↔ y ∈ can fun v => decide (gt' (farOf as st) v < d + 1) := by
        intro y
        rw [hp.mem_iff, List.mem_append, mem_can, mem_can]
        have h6 : y ∈ freshOf (farOf as st) d ↔ ∃ v, inR v ∧ (gt' (farOf as st) v == d) = true ∧ y = plAt v := mem_can (P := fun v => gt' (farOf as st) v == d)
        rw [h6]
        constructor
        · rintro (⟨v, a, b, c⟩ | ⟨v, a, b, c⟩)
          · exact ⟨v, a, by simp at b ⊢; omega, c⟩
          · exact ⟨v, a, by simp at b ⊢; omega, c⟩
        · rintro ⟨v, a, b, c⟩
          have b' : gt' (farOf as st) v < d + 1 := by simpa using b
          by_cases q : gt' (farOf as st) v < d
          · exact .inl ⟨v, a, by simpa using q, c⟩
          · exact .inr ⟨v, a, by simp; omega, c⟩
      have hn : ss.Nodup := by
        refine hp.nodup_iff.mpr (List.nodup_append.mpr ⟨can_nodup _, can_nodup (fun v => gt' (farOf as st) v == d), fun a ha b hb e => ?_⟩)
        obtain ⟨v, v1, v2, v3⟩ := mem_can.mp ha
        obtain ⟨u, u1, u2, u3⟩ := mem_can.mp hb
        rw [v3, u3] at e
        have e' := pl_eq v1 u1 e
        subst e'
        have v2' : gt' (farOf as st) v < d := of_decide_eq_true v2
        have u2' : gt' (farOf as st) v = d := beq_iff_eq.mp u2
        omega
      have e1 := canon hso hn h5
      have e2 : (d - 1).toNat + 1 = (d + 1 - 1).toNat := by omega
      have e3 : (can fun v => gt' (farOf as st) v == d + 1 - 1) = freshOf (farOf as st) d := by
        rw [show d + 1 - 1 = d by omega]; rfl
      rw [e1, e2, ← e3]
      exact ih'
end
theorem list_max : ∀ {l : List Int}, l ≠ [] → ∃ M, M ∈ l ∧ ∀ a, a ∈ l → a ≤ M
  | [], h => absurd rfl h
  | [x], _ => ⟨x, .head _, fun a ha => by rw [List.mem_singleton.mp ha]; exact Int.le_refl _⟩
  | x :: y :: r, _ => by
    obtain ⟨M, h1, h2⟩ := list_max (l := y :: r) (by simp)
    by_cases h : M ≤ x
    · exact ⟨x, .head _, fun a ha => (List.mem_cons.mp ha).elim (fun e => e ▸ Int.le_refl _) fun ha => Int.le_trans (h2 a ha) h⟩
    · exact ⟨M, .tail _ h1, fun a ha => (List.mem_cons.mp ha).elim (fun e => by rw [e]; omega) (h2 a)⟩
theorem far_mem {far : List Int} (hl : far.length = 5) {x : Int} : x ∈ far ↔ ∃ v, inR v ∧ gt' far v = x := by
  constructor
  · intro h
    obtain ⟨i, hi, e⟩ := List.mem_iff_getElem.mp h
    refine ⟨(i : Int), ⟨by omega, by omega⟩, ?_⟩
    unfold gt'
    rw [List.getD_eq_getElem?_getD, Int.toNat_natCast, List.getElem?_eq_getElem hi]
    exact e
  · rintro ⟨v, hv, rfl⟩
    unfold gt' inR at *
    rw [List.getD_eq_getElem?_getD, List.getElem?_eq_getElem (by omega)]
    exact List.getElem_mem _
theorem plain_law (as : List (Int × Int × Int)) (hg : ∀ a ∈ as, GoodArr a) (hl : as.length ≤ 60) (st : Int) (h0 : 0 ≤ st) (h1 : st < 5) :
    ∃ (M : Int) (lw : Str → List (Str × List Str)), (M ∈ (farOf as st).filter fun v => decide (v < 9)) ∧ (∀ a, a ∈ ((farOf as st).filter fun v => decide (v < 9)) → a ≤ M) ∧ Rounds ((arun 0 as []).map conc) lw [plAt st] [plAt st] 0 (dueFrom (farOf as st) as 1 (M + 1).toNat) := by
  have hs : inR st := ⟨h0, h1⟩
  have hlen := (far_tight hg hs).1
  obtain ⟨M, m1, m2⟩ := list_max (l := (farOf as st).filter fun v => decide (v < 9)) (List.ne_nil_of_mem (List.mem_filter.mpr ⟨farOf_st h0 h1, rfl⟩))
  obtain ⟨hM0, hM9⟩ := mx_bds h0 h1 m1 m2
  obtain ⟨vM, hvM, eM⟩ := (far_mem hlen).mp (List.mem_filter.mp m1).1
  have hM4 : M ≤ 4 := by
    have := far_max hg hs hvM (by omega)
    omega
  have hlev : ∀ i : Nat, ∀ j : Int, j = M - i → 0 ≤ j → ∃ v, inR v ∧ gt' (farOf as st) v = j := by
    intro i
    induction i with
    | zero => intro j e _; exact ⟨vM, hvM, by omega⟩
    | succ i ih =>
      intro j e hj
      obtain ⟨v, hv, ev⟩ := ih (j + 1) (by omega) (by omega)
      obtain ⟨a, ha, _, e2⟩ := far_pred hg hs hv (by omega) (by omega)
      exact ⟨a.1, (hg a ha).1, by omega⟩
  have go := rounds_go hg hs hl hM0 hM4 (fun j a b => hlev (M - j).toNat j (by omega) a) (fun v hv h9 => m2 _ (List.mem_filter.mpr ⟨(far_mem hlen).mpr ⟨v, hv, rfl⟩, by simpa using h9⟩)) (M + 1).toNat 1 (by omega) (by omega)
  have one : ∀ P : Int → Bool, (∀ v, inR v → (P v = true ↔ v = st)) → can P = [plAt st] := fun P hP => (canon (ss := [plAt st]) rfl (by simp) fun y => by
    rw [List.mem_singleton, mem_can]
    constructor
    · rintro rfl
      exact ⟨st, hs, (hP st hs).mpr rfl, rfl⟩
    · rintro ⟨v, a, b, rfl⟩
      rw [(hP v a).mp b]).symm
  rw [one (fun v => gt' (farOf as st) v == 1 - 1) fun v hv => (by simp : _ ↔ gt' (farOf as st) v = 0).trans (far_zero hg hs hv), one (fun v => decide (gt' (farOf as st) v < 1)) fun v hv => by
    rw [← far_zero hg hs hv]
    have := ((far_tight hg hs).2 v hv).1
    simp
    omega] at go
  exact ⟨M, lwOf (arun 0 as []), m1, m2, go⟩

end
section -- LawM
theorem row179 : True := by (k_with_none; trivial)
theorem fill_lm : (PySem.Challenge.rw_of0118_01.name = PySem.Challenge.rw_of0118_01.name) → (∀ P, KF P = KF P) := by
  k_fill
  intro _ _; rfl
theorem row180 : True := by ((k_with "call ref" => ((k_here; (first | (k_dflt show wpAny _ _ (call (Value.ref 914) _) _ _ _) | (k_dflt show wpAny _ _ (call (Value.ref 921) _) _ _ _) | (k_dflt show wpAny _ _ (call (Value.ref 928) _) _ _ _) | (k_dflt show wpAny _ _ (call (Value.ref 933) _) _ _ _)); refine hold_in ?_))); trivial)
theorem row181 : True := by ((k_with "subscriptTail" => ((k_here; (with_reducible show wpAny _ _ (subscriptTail _ _ (Value.ref _) (Value.int _ _)) _ _ _); k_dflt (refine' itemS ?N ?l ?h0 ?hi ?x ?_; (case N => k_asm); (case l => k_mem); (case h0 => omega); (case hi => omega); (case x => with_reducible assumption); k_whole)))); trivial)
theorem News.put2 {h₀ h : Heap} {L : Addr} {a b c p q : Addr × Obj} {l : List (Addr × Obj)} (N : News h₀ L h (a :: b :: c :: l)) (hp : p ∈ l) (hq : q ∈ l) : News h₀ L h (a :: b :: c :: p :: q :: l) := fun r hr => N r (by
  simp only [List.mem_cons] at hr ⊢
  rcases hr with h | h | h | h | h | h
  · simp [h]
  · simp [h]
  · simp [h]
  · rw [h]; exact .inr (.inr (.inr hp))
  · rw [h]; exact .inr (.inr (.inr hq))
  · simp [h])
theorem News.put2' {h₀ h : Heap} {L : Addr} {a p q : Addr × Obj} {l : List (Addr × Obj)} (N : News h₀ L h (a :: l)) (hp : p ∈ l) (hq : q ∈ l) : News h₀ L h (a :: p :: q :: l) := fun r hr => N r (by
  simp only [List.mem_cons] at hr ⊢
  rcases hr with h | h | h | h
  · simp [h]
  · rw [h]; exact .inr hp
  · rw [h]; exact .inr hq
  · simp [h])
theorem main_t : RL.Holds := by
  w_on
  refine head_of promised1 ?_
  k_fill
  intro w s₀ s₁ mg mb G Y fa o pm cd doc dV kV ho hd hcd hD hmg hg args vals as hpre hlay hrd hwl hlo
  have KX := kIn_of Y
  clear Y
  have X := (Ground.X G).1
  refine Ground.open G ?_
  intro T B D TE TW
  clear D
  obtain ⟨_, _, he, B0⟩ := based_of_top T rfl hmg ho hd
  have he' : cd = _ := he
  subst he'
  clear he hmg
  w_strict (wrow_args hpre hlay hrd hwl hlo)
  refine enter_call ?_
  refine codeAny_mono ?_ (fun _ _ g => GoodW.toG g)
  have K0 := below_caller (Top.heap T)
  w_strict (w_call any ho hd hcd hD T F)
  clear hd
  w_strict ((try k_fold); k_steps; all_goals skip)
  refine hold_out ?_
  rename_i pl h1 l1 h1b D ws h2 F2 N2 hI2 hC2 hL2 l2
  rename List Int => ns
  refine wpAny_call ?_
  refine' arrows_c (xs := List.take 8 ns) ?r1 ?r2 ?r3 ?r4 ?r5 rfl (.head _) (IntsAre.of hI2) ?r7 ?r8 ?r9 ?_
  case r1 => k_asm
  case r2 => k_asm
  case r3 => k_asm
  case r4 => k_asm
  case r5 => k_asm
  case r7 => omega
  case r8 => ktr_room
  case r9 => ktr_units
  intro h3 tk3 ar acc nA tl F3 N3 hA3 hz3
  clear F2 N2
  have hz4 : acc.size = (arrowsOf ns).length := by rw [hz3]; simp [arrowsOf]; omega
  replace hA3 : ArrAt tl acc.toList (arrowsOf ns) := hA3
  obtain ⟨plv, hplv, N4⟩ : ∃ plv, PlAt plv ∧ News _ _ h3 ((ar, W.listOf acc nA) :: (pl, W.listOf plv 0) :: tl) := ⟨_, plAt_lit, fun q hq => (List.mem_cons.mp hq).elim (fun h => h ▸ N3 _ (.head _)) fun hq => (List.mem_cons.mp hq).elim (fun h => h ▸ N3 _ (.tail _ (List.mem_append.mpr (.inr (.tail _ (.head _)))))) fun hq => N3 _ (.tail _ (List.mem_append.mpr (.inl hq)))⟩
  clear N3
  have hst0 : 0 ≤ (ns.length : Int).fmod 5 := Int.fmod_nonneg_of_pos _ (by decide)
  have hst1 : (ns.length : Int).fmod 5 < 5 := Int.fmod_lt_of_pos _ (by decide)
  k_steps
  refine hold_out ?_
  refine wpAny_call ?_
  refine' table_c ?t1 ?t2 ?t3 ?t4 ?t5 rfl ?t6 ?t7 hplv (hA3.mono fun q hq => ?tm) hz4 ?t8 (good_arrows ns) ?t9 ?t10 ?_
  case t1 => k_asm
  case t2 => k_asm
  case t3 => k_asm
  case t4 => k_asm
  case t5 => k_asm
  case t6 => k_mem
  case t7 => k_mem
  case tm => exact .tail _ (.tail _ hq)
  case t8 => exact Nat.le_trans (len_arrows ns) (by decide)
  case t9 => ktr_room
  case t10 => ktr_units
  intro h5 tk5 x dx l its n th tl5 F5 N5 hr5 hg5 hw5 hz5 s5
  obtain ⟨tt, hpt⟩ := hplv _ ⟨hst0, hst1⟩
  replace N5 := News.put2 N5 (s5 (pl, W.listOf plv 0) (.tail _ (.head _))) (s5 (ar, W.listOf acc nA) (.head _))
  obtain ⟨M, lw, hM, hMx, hR⟩ := plain_law (arrowsOf ns) (good_arrows ns) (Nat.le_trans (len_arrows ns) (by decide)) _ hst0 hst1
  k_steps
  refine hold_out ?_
  refine wpAny_call ?_
  refine' rounds_c ?u1 ?u2 (fun b hb => nomatch hb) ?u3 ?u4 ?u5 ?u6 ?u7 rfl (.tail _ (.head _)) (.tail _ (.tail _ (.head _))) (.head _) (hr5.mono fun q hq => ?um) ?u8 hR ?u9 ?u10 ?_
  case u1 => assumption
  case u2 => assumption
  case u3 => k_asm
  case u4 => k_asm
  case u5 => k_asm
  case u6 => exact N5
  case u7 => k_asm
  case um => exact .tail _ (.tail _ (.tail _ (.tail _ (.tail _ hq))))
  case u8 => exact Nat.le_trans hz5 (by decide)
  case u9 => ktr_room
  case u10 => ktr_units
  intro g h6 tk6 to tov nt tl6 hT6 F6 N6 gB gX gP gD ne6 ht6 s6
  clear F5 N5
  replace N6 := News.put2' N6 (s6 (pl, W.listOf plv 0) (.tail _ (.tail _ (.tail _ (.head _))))) (s6 (ar, W.listOf acc nA) (.tail _ (.tail _ (.tail _ (.tail _ (.head _))))))
  k_steps
  refine hold_out ?_
  refine wpAny_call ?_
  refine' due_c ?v1 ?v2 ?v3 ?v4 ?v5 rfl (.tail _ (.head _)) (.tail _ (.tail _ (.head _))) hplv (hA3.mono fun q hq => ?vm) ?v6 (good_arrows ns) hst0 hst1 ?v7 ?v8 ?_
  case v1 => k_asm
  case v2 => k_asm
  case v3 => k_asm
  case v4 => exact N6
  case v5 => k_asm
  case vm => exact .tail _ (.tail _ (.tail _ (s6 q (.tail _ (.tail _ (.tail _ (.tail _ (.tail _ (s5 q (.tail _ (.tail _ hq)))))))))))
  case v6 =>
    have := len_arrows ns
    omega
  case v7 => ktr_room
  case v8 => ktr_units
  intro h7 tk7 to2 tov2 nt2 tl7 M2 F7 N7 hM2 hMx2 ht7 s7
  have eM : M2 = M := Int.le_antisymm (hMx _ hM2) (hMx2 _ hM)
  subst eM
  clear F6 N6
  refine' toldEq N7 (.tail _ (s7 (to, W.listOf tov nt) (.head _))) (.head _) ht6 (fun q hq => .tail _ (s7 q (.tail _ (.tail _ (.tail _ hq))))) ht7 (fun q hq => .tail _ hq) (due_ok _ _ _ _) ?w1 ?_
  case w1 => ktr_units
  have F8 := Fr.unturn hT6 F7
  clear F7
  k_steps


end
end Mine
theorem PySem.Challenge.cw_of0118_01_holds : PySem.Challenge.rw_of0118_01.Holds :=
  Mine.main_t
