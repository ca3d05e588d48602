import PyProof.Rows.All
import Wide.All
import OpenK.AllK
import Wide.FinOn
import Lean
import PySem.Challenge.RW_ac0032_01
set_option Elab.async false
set_option maxRecDepth 100000
set_option maxHeartbeats 8000000
set_option pp.deepTerms false
set_option pp.maxSteps 5000
set_option linter.all false
set_option compiler.extract_closed false
set_option genInjectivity false
set_option genSizeOfSpec false
section
open PySem PySem.W PyProof.Rows PySem.Calls PySem.Spec
namespace Mine
noncomputable def finObs (p q : Program) (loose : List Str) (Xt : Shared → Bool) {α : Type} (Yf : Shared → α) (g0 : Bool) (w : World) (m₀ : Nat) (ann : Option Value) (n : Nat) (H₀ : Heap) (env : Env) (B : List Frame) (r : Flow × SharedT × Code × Pos) :=
  (r.1, r.2.2.1, (topRun treeTable p w m₀ ann n r.2.1.abs (restOf [] env r.2.2.1 r.2.2.2 B)).map fun s => (staticsOk (importedModules p.main.body) H₀ s.heap && namesBound p s.heap && gensDone s && laidKept H₀ s.heap, openSeen q loose (importedModules p.main.body) Xt g0 s, Yf s))
theorem LeftO.of_tree {p q : Program} {loose : List Str} {Xt : Shared → Bool} {α : Type} {Yf : Shared → α} {Ya : World → α} {N : Nat} {g0 : Bool} {H₀ Ha : Params → Heap} {gs₀ : Array GenState} {d₀ : Drawn} {k₀ ka m₀ nT n1 n2 n3 n4 : Nat} {ann : Option Value} {env : Env} {T : Params → BT} {P0 : Pos}
    (open_ : ∀ w : World, (fencedOpening treeTable p w N).map (fun s => (s.heap, s.gens, s.drawn, s.toks)) = some (H₀ w.params, gs₀, d₀, k₀))
    (size : ∀ w : World, ((H₀ w.params).isNs mainGlobals && gs₀.size == 0, (H₀ w.params).objs.size, (H₀ w.params).nsMap mainGlobals "__annotations__") = (true, m₀, ann))
    (pre : ∀ (w : World) (os : OsState), topGo treeTable p w m₀ ann n1 ⟨H₀ w.params, gs₀, d₀, k₀, os⟩ (topStub p) = some (⟨Ha w.params, #[], {}, ka, os⟩, ⟨denote treeTable (.body (behindTheImports p) env), .body (behindTheImports p) env, P0, [topFrame P0]⟩))
    (block : ∀ (w : World) (os : OsState), segRun treeTable p w m₀ ann 1 n2 ⟨Ha w.params, #[], {}, ka, os⟩ (blockOf (behindTheImports p) env (.body (behindTheImports p) env) P0 [topFrame P0]) = some (.next, (⟨T w.params, nT, {}, #[], {}, ka, os⟩ : SharedT).abs, .body (behindTheImports p) env, P0))
    (run : ∀ (w : World) (os : OsState), (segRunT treeTable p w m₀ ann 1 n3 ⟨T w.params, nT, {}, #[], {}, ka, os⟩ (piecesOf (behindTheImports p) env (.body (behindTheImports p) env) P0 [topFrame P0])).map (finObs p q loose Xt Yf g0 w m₀ ann n4 (H₀ w.params) env [topFrame P0]) = some (.next, .body (behindTheImports p) env, some (true, openGood q loose, Ya w)))
    (le : Nat.ble (n1 + (n2 + (n3 + n4))) N = true) : LeftO p q loose Xt Yf Ya N g0 := fun w => by
  obtain ⟨⟨h, gs, d, k, os⟩, e, e'⟩ := Option.map_eq_some_iff.mp (open_ w)
  obtain ⟨rfl, rfl, rfl, rfl⟩ : h = H₀ w.params ∧ gs = gs₀ ∧ d = d₀ ∧ k = k₀ := by simpa using e'
  obtain ⟨z1, z2, z3⟩ : _ ∧ _ ∧ _ := by simpa only [Prod.mk.injEq] using size w
  obtain ⟨⟨f, S, c, q'⟩, r1, r2⟩ := Option.map_eq_some_iff.mp (run w os)
  unfold finObs at r2
  obtain ⟨rfl, rfl, r5⟩ : f = .next ∧ c = .body (behindTheImports p) env ∧ _ := by simpa only [Prod.mk.injEq] using r2
  obtain ⟨s₁, k1, k2⟩ := Option.map_eq_some_iff.mp r5
  obtain ⟨l1, l2, l3⟩ : _ ∧ _ ∧ _ := by simpa only [Prod.mk.injEq] using k2
  have a1 := piece_app (rest := []) (segRun_of r1) k1
  rw [List.append_nil] at a1
  have a2 := piece_block (block w os) a1
  have a3 := go_top (pre w os) a2
  have hN := Nat.le_of_ble_eq_true le
  have a4 := topRun_mono (N - (n1 + (n2 + (n3 + n4)))) _ _ _ _ a3
  rw [show n1 + (n2 + (n3 + n4)) + (N - (n1 + (n2 + (n3 + n4)))) = N by omega] at a4
  have t : topFrom treeTable p w N ⟨H₀ w.params, gs, d, k, os⟩ = some s₁ := by
    unfold topFrom
    dsimp only
    rw [z1, z2, z3, a4]
    show (match staticsOk (importedModules p.main.body) (H₀ w.params) s₁.heap && namesBound p s₁.heap && gensDone s₁ && laidKept (H₀ w.params) s₁.heap with | true => _ | false => _) = _
    rw [l1]
  unfold openEnds
  rw [e]
  show (topFrom treeTable p w N _).map _ = _
  rw [t]
  exact congrArg some (Prod.ext l2 l3)
end Mine
end
section
open PySem PySem.W PyProof.Rows PySem.Calls PySem.Spec
namespace Mine

noncomputable def st (i : Nat) : Stmt := match PySem.Challenge.pw_ac0032_01.main.body[i]? with
  | some s => s
  | none => .Pass ⟨0, 0, 0, 0⟩
noncomputable def me (i j : Nat) : Stmt := match st i with
  | .ClassDef _ _ _ body .. => (match body[j]? with
    | some s => s
    | none => .Pass ⟨0, 0, 0, 0⟩)
  | s => s
noncomputable def aP : Stmt → Arguments
  | .FunctionDef _ a .. => a
  | _ => ⟨[], [], none, [], [], none, []⟩
noncomputable def bP : Stmt → List Stmt
  | .FunctionDef _ _ b .. => b
  | _ => []
noncomputable def sP : Stmt → Scope
  | .FunctionDef _ _ _ _ _ _ s .. => s
  | _ => { kind := .function, names := [], isGenerator := false, isCoroutine := false }
noncomputable abbrev s := Str.ofString
noncomputable abbrev e (P : Params) (n : String) (t : Nat) (v : Value) : DictEntry := { hash := PyData.keyHash P (s n), key := .str (s n) t, val := v }
noncomputable abbrev fo (n q : String) (a : Arguments) (b : List Stmt) (sc : Scope) (dV kV doc pm : Value) (an : Option Addr) (cd ct : Value) : Obj := { cls := .type "function", data := .func { name := s n, qualname := s q, params := a, body := .stmts b, scope := sc, globals := 3, closure := [], defaults := dV, kwdefaults := kV, doc := doc, pyModule := pm, annotations := an, code := cd, closureTuple := ct } }
noncomputable abbrev co (n q : String) (t t1 t2 : Nat) (l a f : Int) (r8 r11 : Addr) (v12 v13 v14 v15 : Value) (x : Int) (t18 : Nat) : Obj :=
  { cls := .type "code", data := .fields #[.str (s n) t, .str (s q) t1, .str (s "/claim/cut.py") t2, .int l 0, .int a 0, .int 0 0, .int 0 0, .int f 0, .ref r8, .bool true, .int 181 0, .ref r11, v12, v13, v14, v15, .int x 0, .int l 0, .str (s "/claim/cut.py") t18] }
noncomputable def K39 : Params → Frag := by
  refine fun P =>
  (nat_lit 2, ?o2) ::
  (nat_lit 3, { cls := .type "dict", data := .dict #[e P "__name__" 165 (.str (s "law_ac0032_01") 1208), e P "__doc__" 166 .none, e P "__package__" 167 .none, e P "__loader__" 168 (.builtin "__main__.__loader__#opaque"), e P "__spec__" 169 .none, e P "__annotations__" 170 (.ref 6), e P "__builtins__" 171 (.ref 4), e P "__file__" 173 (.str (s "/claim/cut.py") 172), e P "__cached__" 174 .none, e P "_wall" 193 (.ref 21), e P "WeakSet" 274 (.ref 83), e P "StringIO" 303 (.ref 104), e P "TransactionError" 325 (.ref 118), e P "TransactionFailedError" 341 (.ref 131), e P "DoomedTransaction" 357 (.ref 143), e P "NoTransaction" 373 (.ref 155), e P "AlreadyInTransaction" 389 (.ref 167), e P "_TB_BUFFER" 392 .none, e P "_makeTracebackBuffer" 398 (.ref 176), e P "Status" 428 (.ref 186), e P "_NoSynchronizers" 467 (.ref 210), e P "Transaction" 872 (.ref 542), e P "rm_key" 880 (.ref 553), e P "Savepoint" 930 (.ref 585), e P "AbortSavepoint" 968 (.ref 613), e P "NoRollbackSavepoint" 1004 (.ref 641), e P "text_or_warn" 1011 (.ref 652), e P "_new_transaction" 1022 (.ref 659), e P "TransactionManager" 1207 (.ref 814), e P "_law_world" 1216 (.ref 825), e P "_law_place" 1222 (.ref 830), e P "_law_put" 1230 (.ref 837), e P "_law_out" 1236 (.ref 842), e P "_law_walked" 1249 (.ref 849), e P "_law_is_borne" 1258 (.ref 856), e P "_law_ended" 1266 (.ref 863), e P "_law_one" 1277 (.ref 870), e P "law" 1283 (.ref 875)] 38 }) ::
  (nat_lit 34, co "__init__" "WeakSet.__init__" 208 209 210 7 1 3 29 30 .none (.ref 31) (.ref 32) (.ref 33) 212 213) ::
  (nat_lit 35, fo "__init__" "WeakSet.__init__" ?a2_0 ?b2_0 ?s2_0 .none .none .none (.str (s "transaction.weakset") 194) (none) (.ref 34) .none) ::
  (nat_lit 41, co "__len__" "WeakSet.__len__" 215 216 217 10 1 3 36 37 .none (.ref 38) (.ref 39) (.ref 40) 219 220) ::
  (nat_lit 42, fo "__len__" "WeakSet.__len__" ?a2_1 ?b2_1 ?s2_1 .none .none .none (.str (s "transaction.weakset") 194) (none) (.ref 41) .none) ::
  (nat_lit 46, co "__contains__" "WeakSet.__contains__" 222 223 224 13 2 3 43 44 .none .none .none (.ref 45) 225 226) ::
  (nat_lit 47, fo "__contains__" "WeakSet.__contains__" ?a2_2 ?b2_2 ?s2_2 .none .none .none (.str (s "transaction.weakset") 194) (none) (.ref 46) .none) ::
  (nat_lit 53, co "add" "WeakSet.add" 228 229 230 16 2 3 48 49 .none (.ref 50) (.ref 51) (.ref 52) 233 234) ::
  (nat_lit 54, fo "add" "WeakSet.add" ?a2_3 ?b2_3 ?s2_3 .none .none .none (.str (s "transaction.weakset") 194) (none) (.ref 53) .none) ::
  (nat_lit 58, co "remove" "WeakSet.remove" 236 237 238 20 2 3 55 56 .none .none .none (.ref 57) 239 240) ::
  (nat_lit 59, fo "remove" "WeakSet.remove" ?a2_4 ?b2_4 ?s2_4 .none .none .none (.str (s "transaction.weakset") 194) (none) (.ref 58) .none) ::
  (nat_lit 65, co "clear" "WeakSet.clear" 242 243 244 25 1 3 60 61 .none (.ref 62) (.ref 63) (.ref 64) 246 247) ::
  (nat_lit 66, fo "clear" "WeakSet.clear" ?a2_5 ?b2_5 ?s2_5 .none .none .none (.str (s "transaction.weakset") 194) (none) (.ref 65) .none) ::
  (nat_lit 72, co "map" "WeakSet.map" 249 250 251 28 2 3 67 68 .none (.ref 69) (.ref 70) (.ref 71) 256 257) ::
  (nat_lit 73, fo "map" "WeakSet.map" ?a2_6 ?b2_6 ?s2_6 .none .none .none (.str (s "transaction.weakset") 194) (none) (.ref 72) .none) ::
  (nat_lit 79, co "as_weakref_list" "WeakSet.as_weakref_list" 259 260 261 34 1 3 74 75 .none (.ref 76) (.ref 77) (.ref 78) 263 264) ::
  (nat_lit 80, fo "as_weakref_list" "WeakSet.as_weakref_list" ?a2_7 ?b2_7 ?s2_7 .none .none .none (.str (s "transaction.weakset") 194) (none) (.ref 79) .none) ::
  (nat_lit 82, { cls := .type "dict", data := .dict #[e P "__module__" 203 (.str (s "transaction.weakset") 194), e P "__firstlineno__" 207 (.int 5 206), e P "__init__" 214 (.ref 35), e P "__len__" 221 (.ref 42), e P "__contains__" 227 (.ref 47), e P "add" 235 (.ref 54), e P "remove" 241 (.ref 59), e P "clear" 248 (.ref 66), e P "map" 258 (.ref 73), e P "as_weakref_list" 265 (.ref 80), e P "__static_attributes__" 267 (.ref 81), e P "__dict__" 269 (.ref 84), e P "__weakref__" 271 (.ref 85), e P "__doc__" 272 .none] 4 }) ::
  (nat_lit 83, { cls := .type "type", data := .cls { name := s "WeakSet", bases := [.type "object"], mro := [.ref 83, .type "object"], ns := 82, qualname := s "WeakSet" }, slots := #[none, none, some (.str (s "WeakSet") 196), some (.str (s "WeakSet") 204), some (.builtin "object.__new__"), some (.bool true)] }) ::
  (nat_lit 84, { cls := .type "getset_descriptor", data := .fields #[.str (s "__dict__") 268, .ref 83, .builtin "function.__dict__", .builtin "function.__dict__#set"] }) ::
  (nat_lit 85, { cls := .type "getset_descriptor", data := .fields #[.str (s "__weakref__") 270, .ref 83, .builtin "ExceptionGroup.__weakref__", .none] }) ::
  (nat_lit 103, { cls := .type "dict", data := .dict #[e P "__module__" 284 (.str (s "transaction.outside") 275), e P "__firstlineno__" 288 (.int 37 287), e P "getvalue" 295 (.ref 101), e P "__static_attributes__" 296 (.ref 102), e P "__dict__" 298 (.ref 105), e P "__weakref__" 300 (.ref 106), e P "__doc__" 301 .none] 4 }) ::
  (nat_lit 104, { cls := .type "type", data := .cls { name := s "StringIO", bases := [.type "object"], mro := [.ref 104, .type "object"], ns := 103, qualname := s "StringIO" }, slots := #[none, none, some (.str (s "StringIO") 277), some (.str (s "StringIO") 285), some (.builtin "object.__new__"), some (.bool true)] }) ::
  (nat_lit 105, { cls := .type "getset_descriptor", data := .fields #[.str (s "__dict__") 297, .ref 104, .builtin "function.__dict__", .builtin "function.__dict__#set"] }) ::
  (nat_lit 106, { cls := .type "getset_descriptor", data := .fields #[.str (s "__weakref__") 299, .ref 104, .builtin "ExceptionGroup.__weakref__", .none] }) ::
  (nat_lit 117, { cls := .type "dict", data := .dict #[e P "__module__" 313 (.str (s "transaction.interfaces") 304), e P "__firstlineno__" 317 (.int 42 316), e P "__static_attributes__" 318 (.ref 116), e P "__weakref__" 320 (.ref 119), e P "__doc__" 321 .none] 3 }) ::
  (nat_lit 118, { cls := .type "type", data := .cls { name := s "TransactionError", bases := [.type "Exception"], mro := [.ref 118, .type "Exception", .type "BaseException", .type "object"], ns := 117, qualname := s "TransactionError", subclasses := [.ref 131, .ref 143, .ref 155, .ref 167] }, slots := #[some (.ref 109), none, some (.str (s "TransactionError") 306), some (.str (s "TransactionError") 314), some (.builtin "Exception.__new__"), some (.bool true)] }) ::
  (nat_lit 119, { cls := .type "getset_descriptor", data := .fields #[.str (s "__weakref__") 319, .ref 118, .builtin "ExceptionGroup.__weakref__", .none] }) ::
  (nat_lit 130, { cls := .type "dict", data := .dict #[e P "__module__" 333 (.str (s "transaction.interfaces") 304), e P "__firstlineno__" 337 (.int 44 336), e P "__static_attributes__" 338 (.ref 129), e P "__doc__" 339 .none] 2 }) ::
  (nat_lit 131, { cls := .type "type", data := .cls { name := s "TransactionFailedError", bases := [.ref 118], mro := [.ref 131, .ref 118, .type "Exception", .type "BaseException", .type "object"], ns := 130, qualname := s "TransactionFailedError" }, slots := #[some (.ref 122), none, some (.str (s "TransactionFailedError") 326), some (.str (s "TransactionFailedError") 334), some (.builtin "Exception.__new__"), some (.bool true)] }) ::
  (nat_lit 142, { cls := .type "dict", data := .dict #[e P "__module__" 349 (.str (s "transaction.interfaces") 304), e P "__firstlineno__" 353 (.int 46 352), e P "__static_attributes__" 354 (.ref 141), e P "__doc__" 355 .none] 2 }) ::
  (nat_lit 143, { cls := .type "type", data := .cls { name := s "DoomedTransaction", bases := [.ref 118], mro := [.ref 143, .ref 118, .type "Exception", .type "BaseException", .type "object"], ns := 142, qualname := s "DoomedTransaction" }, slots := #[some (.ref 134), none, some (.str (s "DoomedTransaction") 342), some (.str (s "DoomedTransaction") 350), some (.builtin "Exception.__new__"), some (.bool true)] }) ::
  (nat_lit 154, { cls := .type "dict", data := .dict #[e P "__module__" 365 (.str (s "transaction.interfaces") 304), e P "__firstlineno__" 369 (.int 48 368), e P "__static_attributes__" 370 (.ref 153), e P "__doc__" 371 .none] 2 }) ::
  (nat_lit 155, { cls := .type "type", data := .cls { name := s "NoTransaction", bases := [.ref 118], mro := [.ref 155, .ref 118, .type "Exception", .type "BaseException", .type "object"], ns := 154, qualname := s "NoTransaction" }, slots := #[some (.ref 146), none, some (.str (s "NoTransaction") 358), some (.str (s "NoTransaction") 366), some (.builtin "Exception.__new__"), some (.bool true)] }) ::
  (nat_lit 166, { cls := .type "dict", data := .dict #[e P "__module__" 381 (.str (s "transaction.interfaces") 304), e P "__firstlineno__" 385 (.int 50 384), e P "__static_attributes__" 386 (.ref 165), e P "__doc__" 387 .none] 2 }) ::
  (nat_lit 167, { cls := .type "type", data := .cls { name := s "AlreadyInTransaction", bases := [.ref 118], mro := [.ref 167, .ref 118, .type "Exception", .type "BaseException", .type "object"], ns := 166, qualname := s "AlreadyInTransaction" }, slots := #[some (.ref 158), none, some (.str (s "AlreadyInTransaction") 374), some (.str (s "AlreadyInTransaction") 382), some (.builtin "Exception.__new__"), some (.bool true)] }) ::
  (nat_lit 185, { cls := .type "dict", data := .dict #[e P "__module__" 406 (.str (s "transaction._transaction") 390), e P "__firstlineno__" 410 (.int 58 409), e P "ACTIVE" 412 (.str (s "Active") 411), e P "COMMITTING" 414 (.str (s "Committing") 413), e P "COMMITTED" 416 (.str (s "Committed") 415), e P "DOOMED" 418 (.str (s "Doomed") 417), e P "COMMITFAILED" 420 (.str (s "Commit failed") 419), e P "__static_attributes__" 421 (.ref 184), e P "__dict__" 423 (.ref 187), e P "__weakref__" 425 (.ref 188), e P "__doc__" 426 .none] 4 }) ::
  (nat_lit 186, { cls := .type "type", data := .cls { name := s "Status", bases := [.type "object"], mro := [.ref 186, .type "object"], ns := 185, qualname := s "Status" }, slots := #[none, none, some (.str (s "Status") 399), some (.str (s "Status") 407), some (.builtin "object.__new__"), some (.bool true)] }) ::
  (nat_lit 187, { cls := .type "getset_descriptor", data := .fields #[.str (s "__dict__") 422, .ref 186, .builtin "function.__dict__", .builtin "function.__dict__#set"] }) ::
  (nat_lit 188, { cls := .type "getset_descriptor", data := .fields #[.str (s "__weakref__") 424, .ref 186, .builtin "ExceptionGroup.__weakref__", .none] }) ::
  (nat_lit 205, { cls := .type "dict", data := .dict #[e P "__module__" 448 (.str (s "transaction._transaction") 390), e P "__name__" 451 (.str (s "map") 450), e P "__qualname__" 454 (.str (s "_NoSynchronizers.map") 453), e P "__doc__" 456 .none, e P "__annotations__" 458 (.ref 207)] 5 }) ::
  (nat_lit 206, { cls := .type "staticmethod", dict := some 205, data := .fields #[.ref 204, .bool false] }) ::
  (nat_lit 207, { cls := .type "dict", data := .dict #[] }) ::
  (nat_lit 209, { cls := .type "dict", data := .dict #[e P "__module__" 436 (.str (s "transaction._transaction") 390), e P "__firstlineno__" 440 (.int 64 439), e P "map" 459 (.ref 206), e P "__static_attributes__" 460 (.ref 208), e P "__dict__" 462 (.ref 211), e P "__weakref__" 464 (.ref 212), e P "__doc__" 465 .none] 4 }) ::
  (nat_lit 210, { cls := .type "type", data := .cls { name := s "_NoSynchronizers", bases := [.type "object"], mro := [.ref 210, .type "object"], ns := 209, qualname := s "_NoSynchronizers" }, slots := #[none, none, some (.str (s "_NoSynchronizers") 429), some (.str (s "_NoSynchronizers") 437), some (.builtin "object.__new__"), some (.bool true)] }) ::
  (nat_lit 211, { cls := .type "getset_descriptor", data := .fields #[.str (s "__dict__") 461, .ref 210, .builtin "function.__dict__", .builtin "function.__dict__#set"] }) ::
  (nat_lit 212, { cls := .type "getset_descriptor", data := .fields #[.str (s "__weakref__") 463, .ref 210, .builtin "ExceptionGroup.__weakref__", .none] }) ::
  (nat_lit 222, { cls := .type "tuple", data := .seq #[.none, .none] }) ::
  (nat_lit 228, co "__init__" "Transaction.__init__" 487 488 489 75 3 3 223 224 .none (.ref 225) (.ref 226) (.ref 227) 493 494) ::
  (nat_lit 229, fo "__init__" "Transaction.__init__" ?a16_4 ?b16_4 ?s16_4 (.ref 222) .none .none (.str (s "transaction._transaction") 390) (none) (.ref 228) .none) ::
  (nat_lit 246, { cls := .type "property", data := .fields #[.ref 236, .ref 245, .none, .none, .str (s "_extension") 503, .bool false] }) ::
  (nat_lit 263, { cls := .type "property", data := .fields #[.ref 253, .ref 262, .none, .none, .str (s "user") 521, .bool false] }) ::
  (nat_lit 280, { cls := .type "property", data := .fields #[.ref 270, .ref 279, .none, .none, .str (s "description") 539, .bool false] }) ::
  (nat_lit 357, co "commit" "Transaction.commit" 630 631 632 171 1 3 352 353 .none (.ref 354) (.ref 355) (.ref 356) 635 636) ::
  (nat_lit 358, fo "commit" "Transaction.commit" ?a16_21 ?b16_21 ?s16_21 .none .none .none (.str (s "transaction._transaction") 390) (none) (.ref 357) .none) ::
  (nat_lit 387, co "_callBeforeCommitHooks" "Transaction._callBeforeCommitHooks" 663 664 665 203 1 3 382 383 .none (.ref 384) (.ref 385) (.ref 386) 667 668) ::
  (nat_lit 388, fo "_callBeforeCommitHooks" "Transaction._callBeforeCommitHooks" ?a16_25 ?b16_25 ?s16_25 .none .none .none (.str (s "transaction._transaction") 390) (none) (.ref 387) .none) ::
  (nat_lit 405, { cls := .type "tuple", data := .seq #[.bool true] }) ::
  (nat_lit 411, co "_callAfterCommitHooks" "Transaction._callAfterCommitHooks" 687 688 689 212 2 3 406 407 .none (.ref 408) (.ref 409) (.ref 410) 692 693) ::
  (nat_lit 412, fo "_callAfterCommitHooks" "Transaction._callAfterCommitHooks" ?a16_28 ?b16_28 ?s16_28 (.ref 405) .none .none (.str (s "transaction._transaction") 390) (none) (.ref 411) .none) ::
  (nat_lit 414, { cls := .type "tuple", data := .seq #[.bool true, .bool false, .ref 413] }) ::
  (nat_lit 420, co "_call_hooks" "Transaction._call_hooks" 695 696 697 215 5 3 415 416 .none (.ref 417) (.ref 418) (.ref 419) 707 708) ::
  (nat_lit 421, fo "_call_hooks" "Transaction._call_hooks" ?a16_29 ?b16_29 ?s16_29 (.ref 414) .none .none (.str (s "transaction._transaction") 390) (none) (.ref 420) .none) ::
  (nat_lit 443, co "_callBeforeAbortHooks" "Transaction._callBeforeAbortHooks" 727 728 729 240 1 3 438 439 .none (.ref 440) (.ref 441) (.ref 442) 731 732) ::
  (nat_lit 444, fo "_callBeforeAbortHooks" "Transaction._callBeforeAbortHooks" ?a16_32 ?b16_32 ?s16_32 .none .none .none (.str (s "transaction._transaction") 390) (none) (.ref 443) .none) ::
  (nat_lit 466, co "_callAfterAbortHooks" "Transaction._callAfterAbortHooks" 751 752 753 249 1 3 461 462 .none (.ref 463) (.ref 464) (.ref 465) 755 756) ::
  (nat_lit 467, fo "_callAfterAbortHooks" "Transaction._callAfterAbortHooks" ?a16_35 ?b16_35 ?s16_35 .none .none .none (.str (s "transaction._transaction") 390) (none) (.ref 466) .none) ::
  (nat_lit 473, co "_commitResources" "Transaction._commitResources" 758 759 760 252 1 3 468 469 .none (.ref 470) (.ref 471) (.ref 472) 765 766) ::
  (nat_lit 474, fo "_commitResources" "Transaction._commitResources" ?a16_36 ?b16_36 ?s16_36 .none .none .none (.str (s "transaction._transaction") 390) (none) (.ref 473) .none) ::
  (nat_lit 485, co "_free_manager" "Transaction._free_manager" 774 775 776 288 1 3 480 481 .none (.ref 482) (.ref 483) (.ref 484) 778 779) ::
  (nat_lit 486, fo "_free_manager" "Transaction._free_manager" ?a16_38 ?b16_38 ?s16_38 .none .none .none (.str (s "transaction._transaction") 390) (none) (.ref 485) .none) ::
  (nat_lit 492, co "_free" "Transaction._free" 781 782 783 295 1 3 487 488 .none (.ref 489) (.ref 490) (.ref 491) 785 786) ::
  (nat_lit 493, fo "_free" "Transaction._free" ?a16_39 ?b16_39 ?s16_39 .none .none .none (.str (s "transaction._transaction") 390) (none) (.ref 492) .none) ::
  (nat_lit 497, co "data" "Transaction.data" 788 789 790 309 2 3 494 495 .none .none .none (.ref 496) 791 792) ::
  (nat_lit 498, fo "data" "Transaction.data" ?a16_40 ?b16_40 ?s16_40 .none .none .none (.str (s "transaction._transaction") 390) (none) (.ref 497) .none) ::
  (nat_lit 502, co "set_data" "Transaction.set_data" 794 795 796 319 3 3 499 500 .none .none .none (.ref 501) 797 798) ::
  (nat_lit 503, fo "set_data" "Transaction.set_data" ?a16_41 ?b16_41 ?s16_41 .none .none .none (.str (s "transaction._transaction") 390) (none) (.ref 502) .none) ::
  (nat_lit 509, co "abort" "Transaction.abort" 800 801 802 326 1 3 504 505 .none (.ref 506) (.ref 507) (.ref 508) 810 811) ::
  (nat_lit 510, fo "abort" "Transaction.abort" ?a16_42 ?b16_42 ?s16_42 .none .none .none (.str (s "transaction._transaction") 390) (none) (.ref 509) .none) ::
  (nat_lit 541, { cls := .type "dict", data := .dict #[e P "__module__" 475 (.str (s "transaction._transaction") 390), e P "__firstlineno__" 479 (.int 69 478), e P "_savepoint_index" 481 (.int 0 480), e P "_savepoint2index" 482 .none, e P "_user" 484 (.str (s "") 483), e P "_description" 486 (.str (s "") 485), e P "__init__" 495 (.ref 229), e P "_extension" 503 (.ref 246), e P "user" 521 (.ref 263), e P "description" 539 (.ref 280), e P "set_user" 557 (.ref 287), e P "set_description" 565 (.ref 294), e P "isDoomed" 572 (.ref 301), e P "doom" 579 (.ref 308), e P "_prior_operation_failed" 586 (.ref 315), e P "join" 596 (.ref 322), e P "_unjoin" 604 (.ref 329), e P "savepoint" 613 (.ref 337), e P "_remove_and_invalidate_after" 621 (.ref 344), e P "_invalidate_all_savepoints" 629 (.ref 351), e P "commit" 637 (.ref 358), e P "_saveAndGetCommitishError" 645 (.ref 365), e P "getBeforeCommitHooks" 652 (.ref 372), e P "addBeforeCommitHook" 662 (.ref 381), e P "_callBeforeCommitHooks" 669 (.ref 388), e P "getAfterCommitHooks" 676 (.ref 395), e P "addAfterCommitHook" 686 (.ref 404), e P "_callAfterCommitHooks" 694 (.ref 412), e P "_call_hooks" 709 (.ref 421), e P "getBeforeAbortHooks" 716 (.ref 428), e P "addBeforeAbortHook" 726 (.ref 437), e P "_callBeforeAbortHooks" 733 (.ref 444), e P "getAfterAbortHooks" 740 (.ref 451), e P "addAfterAbortHook" 750 (.ref 460), e P "_callAfterAbortHooks" 757 (.ref 467), e P "_commitResources" 767 (.ref 474), e P "_cleanup" 773 (.ref 479), e P "_free_manager" 780 (.ref 486), e P "_free" 787 (.ref 493), e P "data" 793 (.ref 498), e P "set_data" 799 (.ref 503), e P "abort" 812 (.ref 510), e P "note" 820 (.ref 517), e P "setUser" 830 (.ref 525), e P "setExtendedInfo" 839 (.ref 532), e P "isRetryableError" 847 (.ref 539), e P "__static_attributes__" 865 (.ref 540), e P "__dict__" 867 (.ref 543), e P "__weakref__" 869 (.ref 544), e P "__doc__" 870 .none] 4 }) ::
  (nat_lit 542, { cls := .type "type", data := .cls { name := s "Transaction", bases := [.type "object"], mro := [.ref 542, .type "object"], ns := 541, qualname := s "Transaction" }, slots := #[none, none, some (.str (s "Transaction") 468), some (.str (s "Transaction") 476), some (.builtin "object.__new__"), some (.bool true)] }) ::
  (nat_lit 543, { cls := .type "getset_descriptor", data := .fields #[.str (s "__dict__") 866, .ref 542, .builtin "function.__dict__", .builtin "function.__dict__#set"] }) ::
  (nat_lit 544, { cls := .type "getset_descriptor", data := .fields #[.str (s "__weakref__") 868, .ref 542, .builtin "ExceptionGroup.__weakref__", .none] }) ::
  (nat_lit 552, co "rm_key" "rm_key" 873 874 875 368 1 3 547 548 .none (.ref 549) (.ref 550) (.ref 551) 878 879) ::
  (nat_lit 553, fo "rm_key" "rm_key" ?a17 ?b17 ?s17 .none .none .none (.str (s "transaction._transaction") 390) (none) (.ref 552) .none) ::
  (nat_lit 575, { cls := .type "property", data := .fields #[.ref 574, .none, .none, .none, .str (s "valid") 913, .bool false] }) ::
  (nat_lit 584, { cls := .type "dict", data := .dict #[e P "__module__" 888 (.str (s "transaction._transaction") 390), e P "__firstlineno__" 892 (.int 372 891), e P "__init__" 905 (.ref 567), e P "valid" 913 (.ref 575), e P "rollback" 920 (.ref 582), e P "__static_attributes__" 923 (.ref 583), e P "__dict__" 925 (.ref 586), e P "__weakref__" 927 (.ref 587), e P "__doc__" 928 .none] 4 }) ::
  (nat_lit 585, { cls := .type "type", data := .cls { name := s "Savepoint", bases := [.type "object"], mro := [.ref 585, .type "object"], ns := 584, qualname := s "Savepoint" }, slots := #[none, none, some (.str (s "Savepoint") 881), some (.str (s "Savepoint") 889), some (.builtin "object.__new__"), some (.bool true)] }) ::
  (nat_lit 586, { cls := .type "getset_descriptor", data := .fields #[.str (s "__dict__") 924, .ref 585, .builtin "function.__dict__", .builtin "function.__dict__#set"] }) ::
  (nat_lit 587, { cls := .type "getset_descriptor", data := .fields #[.str (s "__weakref__") 926, .ref 585, .builtin "ExceptionGroup.__weakref__", .none] }) ::
  (nat_lit 612, { cls := .type "dict", data := .dict #[e P "__module__" 938 (.str (s "transaction._transaction") 390), e P "__firstlineno__" 942 (.int 394 941), e P "__init__" 951 (.ref 603), e P "rollback" 958 (.ref 610), e P "__static_attributes__" 961 (.ref 611), e P "__dict__" 963 (.ref 614), e P "__weakref__" 965 (.ref 615), e P "__doc__" 966 .none] 4 }) ::
  (nat_lit 613, { cls := .type "type", data := .cls { name := s "AbortSavepoint", bases := [.type "object"], mro := [.ref 613, .type "object"], ns := 612, qualname := s "AbortSavepoint" }, slots := #[none, none, some (.str (s "AbortSavepoint") 931), some (.str (s "AbortSavepoint") 939), some (.builtin "object.__new__"), some (.bool true)] }) ::
  (nat_lit 614, { cls := .type "getset_descriptor", data := .fields #[.str (s "__dict__") 962, .ref 613, .builtin "function.__dict__", .builtin "function.__dict__#set"] }) ::
  (nat_lit 615, { cls := .type "getset_descriptor", data := .fields #[.str (s "__weakref__") 964, .ref 613, .builtin "ExceptionGroup.__weakref__", .none] }) ::
  (nat_lit 640, { cls := .type "dict", data := .dict #[e P "__module__" 976 (.str (s "transaction._transaction") 390), e P "__firstlineno__" 980 (.int 402 979), e P "__init__" 988 (.ref 631), e P "rollback" 995 (.ref 638), e P "__static_attributes__" 997 (.ref 639), e P "__dict__" 999 (.ref 642), e P "__weakref__" 1001 (.ref 643), e P "__doc__" 1002 .none] 4 }) ::
  (nat_lit 641, { cls := .type "type", data := .cls { name := s "NoRollbackSavepoint", bases := [.type "object"], mro := [.ref 641, .type "object"], ns := 640, qualname := s "NoRollbackSavepoint" }, slots := #[none, none, some (.str (s "NoRollbackSavepoint") 969), some (.str (s "NoRollbackSavepoint") 977), some (.builtin "object.__new__"), some (.bool true)] }) ::
  (nat_lit 642, { cls := .type "getset_descriptor", data := .fields #[.str (s "__dict__") 998, .ref 641, .builtin "function.__dict__", .builtin "function.__dict__#set"] }) ::
  (nat_lit 643, { cls := .type "getset_descriptor", data := .fields #[.str (s "__weakref__") 1000, .ref 641, .builtin "ExceptionGroup.__weakref__", .none] }) ::
  (nat_lit 658, co "_new_transaction" "_new_transaction" 1014 1015 1016 417 2 3 653 654 .none (.ref 655) (.ref 656) (.ref 657) 1020 1021) ::
  (nat_lit 659, fo "_new_transaction" "_new_transaction" ?a23 ?b23 ?s23 .none .none .none (.str (s "transaction._manager") 1012) (none) (.ref 658) .none) ::
  (nat_lit 667, { cls := .type "tuple", data := .seq #[.bool false] }) ::
  (nat_lit 673, co "__init__" "TransactionManager.__init__" 1035 1036 1037 422 2 3 668 669 .none (.ref 670) (.ref 671) (.ref 672) 1040 1041) ::
  (nat_lit 674, fo "__init__" "TransactionManager.__init__" ?a24_0 ?b24_0 ?s24_0 (.ref 667) .none .none (.str (s "transaction._manager") 1012) (none) (.ref 673) .none) ::
  (nat_lit 680, co "begin" "TransactionManager.begin" 1043 1044 1045 427 1 3 675 676 .none (.ref 677) (.ref 678) (.ref 679) 1048 1049) ::
  (nat_lit 681, fo "begin" "TransactionManager.begin" ?a24_1 ?b24_1 ?s24_1 .none .none .none (.str (s "transaction._manager") 1012) (none) (.ref 680) .none) ::
  (nat_lit 694, co "get" "TransactionManager.get" 1058 1059 1060 439 1 3 689 690 .none (.ref 691) (.ref 692) (.ref 693) 1062 1063) ::
  (nat_lit 695, fo "get" "TransactionManager.get" ?a24_3 ?b24_3 ?s24_3 .none .none .none (.str (s "transaction._manager") 1012) (none) (.ref 694) .none) ::
  (nat_lit 701, co "free" "TransactionManager.free" 1065 1066 1067 446 2 3 696 697 .none (.ref 698) (.ref 699) (.ref 700) 1070 1071) ::
  (nat_lit 702, fo "free" "TransactionManager.free" ?a24_4 ?b24_4 ?s24_4 .none .none .none (.str (s "transaction._manager") 1012) (none) (.ref 701) .none) ::
  (nat_lit 750, co "commit" "TransactionManager.commit" 1117 1118 1119 469 1 3 745 746 .none (.ref 747) (.ref 748) (.ref 749) 1121 1122) ::
  (nat_lit 751, fo "commit" "TransactionManager.commit" ?a24_11 ?b24_11 ?s24_11 .none .none .none (.str (s "transaction._manager") 1012) (none) (.ref 750) .none) ::
  (nat_lit 757, co "abort" "TransactionManager.abort" 1124 1125 1126 472 1 3 752 753 .none (.ref 754) (.ref 755) (.ref 756) 1128 1129) ::
  (nat_lit 758, fo "abort" "TransactionManager.abort" ?a24_12 ?b24_12 ?s24_12 .none .none .none (.str (s "transaction._manager") 1012) (none) (.ref 757) .none) ::
  (nat_lit 813, { cls := .type "dict", data := .dict #[e P "__module__" 1030 (.str (s "transaction._manager") 1012), e P "__firstlineno__" 1034 (.int 420 1033), e P "__init__" 1042 (.ref 674), e P "begin" 1050 (.ref 681), e P "__enter__" 1057 (.ref 688), e P "get" 1064 (.ref 695), e P "free" 1072 (.ref 702), e P "registerSynch" 1080 (.ref 709), e P "unregisterSynch" 1088 (.ref 716), e P "clearSynchs" 1095 (.ref 723), e P "registeredSynchs" 1102 (.ref 730), e P "isDoomed" 1109 (.ref 737), e P "doom" 1116 (.ref 744), e P "commit" 1123 (.ref 751), e P "abort" 1130 (.ref 758), e P "__exit__" 1140 (.ref 765), e P "enter" 1147 (.ref 772), e P "leave" 1155 (.ref 779), e P "savepoint" 1163 (.ref 787), e P "attempts" 1172 (.ref 795), e P "_retryable" 1181 (.ref 802), e P "run_no_func_types" 1182 (.ref 803), e P "run" 1196 (.ref 811), e P "__static_attributes__" 1200 (.ref 812), e P "__dict__" 1202 (.ref 815), e P "__weakref__" 1204 (.ref 816), e P "__doc__" 1205 .none] 4 }) ::
  (nat_lit 814, { cls := .type "type", data := .cls { name := s "TransactionManager", bases := [.type "object"], mro := [.ref 814, .type "object"], ns := 813, qualname := s "TransactionManager" }, slots := #[none, none, some (.str (s "TransactionManager") 1023), some (.str (s "TransactionManager") 1031), some (.builtin "object.__new__"), some (.bool true)] }) ::
  (nat_lit 815, { cls := .type "getset_descriptor", data := .fields #[.str (s "__dict__") 1201, .ref 814, .builtin "function.__dict__", .builtin "function.__dict__#set"] }) ::
  (nat_lit 816, { cls := .type "getset_descriptor", data := .fields #[.str (s "__weakref__") 1203, .ref 814, .builtin "ExceptionGroup.__weakref__", .none] }) ::
  (nat_lit 824, co "_law_world" "_law_world" 1210 1211 1212 500 0 3 819 820 .none (.ref 821) (.ref 822) (.ref 823) 1214 1215) ::
  (nat_lit 825, fo "_law_world" "_law_world" ?a26 ?b26 ?s26 .none .none .none (.str (s "law_ac0032_01") 1208) (none) (.ref 824) .none) ::
  (nat_lit 829, co "_law_place" "_law_place" 1217 1218 1219 503 2 3 826 827 .none .none .none (.ref 828) 1220 1221) ::
  (nat_lit 830, fo "_law_place" "_law_place" ?a27 ?b27 ?s27 .none .none .none (.str (s "law_ac0032_01") 1208) (none) (.ref 829) .none) ::
  (nat_lit 836, co "_law_put" "_law_put" 1223 1224 1225 506 2 3 831 832 .none (.ref 833) (.ref 834) (.ref 835) 1228 1229) ::
  (nat_lit 837, fo "_law_put" "_law_put" ?a28 ?b28 ?s28 .none .none .none (.str (s "law_ac0032_01") 1208) (none) (.ref 836) .none) ::
  (nat_lit 841, co "_law_out" "_law_out" 1231 1232 1233 510 2 3 838 839 .none .none .none (.ref 840) 1234 1235) ::
  (nat_lit 842, fo "_law_out" "_law_out" ?a29 ?b29 ?s29 .none .none .none (.str (s "law_ac0032_01") 1208) (none) (.ref 841) .none) ::
  (nat_lit 848, co "_law_walked" "_law_walked" 1237 1238 1239 518 2 3 843 844 .none (.ref 845) (.ref 846) (.ref 847) 1247 1248) ::
  (nat_lit 849, fo "_law_walked" "_law_walked" ?a30 ?b30 ?s30 .none .none .none (.str (s "law_ac0032_01") 1208) (none) (.ref 848) .none) ::
  (nat_lit 855, co "_law_is_borne" "_law_is_borne" 1250 1251 1252 534 2 3 850 851 .none (.ref 852) (.ref 853) (.ref 854) 1256 1257) ::
  (nat_lit 856, fo "_law_is_borne" "_law_is_borne" ?a31 ?b31 ?s31 .none .none .none (.str (s "law_ac0032_01") 1208) (none) (.ref 855) .none) ::
  (nat_lit 862, co "_law_ended" "_law_ended" 1259 1260 1261 540 2 3 857 858 .none (.ref 859) (.ref 860) (.ref 861) 1264 1265) ::
  (nat_lit 863, fo "_law_ended" "_law_ended" ?a32 ?b32 ?s32 .none .none .none (.str (s "law_ac0032_01") 1208) (none) (.ref 862) .none) ::
  (nat_lit 869, co "_law_one" "_law_one" 1267 1268 1269 548 2 3 864 865 .none (.ref 866) (.ref 867) (.ref 868) 1275 1276) ::
  (nat_lit 870, fo "_law_one" "_law_one" ?a33 ?b33 ?s33 .none .none .none (.str (s "law_ac0032_01") 1208) (none) (.ref 869) .none) ::
  (nat_lit 874, co "law" "law" 1278 1279 1280 568 1 3 871 872 .none .none .none (.ref 873) 1281 1282) ::
  (nat_lit 875, fo "law" "law" ?a34 ?b34 ?s34 .none .none .none (.str (s "law_ac0032_01") 1208) (none) (.ref 874) .none) :: []
  case o2 =>
    have h16_21 : (aP (me 16 21), bP (me 16 21), sP (me 16 21)) = (?a16_21, ?b16_21, ?s16_21) := by
      conv => lhs; (conv => arg 1; whnf); arg 2; (conv => arg 1; whnf); (conv => arg 2; whnf)
    have h16_25 : (aP (me 16 25), bP (me 16 25), sP (me 16 25)) = (?a16_25, ?b16_25, ?s16_25) := by
      conv => lhs; (conv => arg 1; whnf); arg 2; (conv => arg 1; whnf); (conv => arg 2; whnf)
    have h16_28 : (aP (me 16 28), bP (me 16 28), sP (me 16 28)) = (?a16_28, ?b16_28, ?s16_28) := by
      conv => lhs; (conv => arg 1; whnf); arg 2; (conv => arg 1; whnf); (conv => arg 2; whnf)
    have h16_29 : (aP (me 16 29), bP (me 16 29), sP (me 16 29)) = (?a16_29, ?b16_29, ?s16_29) := by
      conv => lhs; (conv => arg 1; whnf); arg 2; (conv => arg 1; whnf); (conv => arg 2; whnf)
    have h16_32 : (aP (me 16 32), bP (me 16 32), sP (me 16 32)) = (?a16_32, ?b16_32, ?s16_32) := by
      conv => lhs; (conv => arg 1; whnf); arg 2; (conv => arg 1; whnf); (conv => arg 2; whnf)
    have h16_35 : (aP (me 16 35), bP (me 16 35), sP (me 16 35)) = (?a16_35, ?b16_35, ?s16_35) := by
      conv => lhs; (conv => arg 1; whnf); arg 2; (conv => arg 1; whnf); (conv => arg 2; whnf)
    have h16_36 : (aP (me 16 36), bP (me 16 36), sP (me 16 36)) = (?a16_36, ?b16_36, ?s16_36) := by
      conv => lhs; (conv => arg 1; whnf); arg 2; (conv => arg 1; whnf); (conv => arg 2; whnf)
    have h16_38 : (aP (me 16 38), bP (me 16 38), sP (me 16 38)) = (?a16_38, ?b16_38, ?s16_38) := by
      conv => lhs; (conv => arg 1; whnf); arg 2; (conv => arg 1; whnf); (conv => arg 2; whnf)
    have h16_39 : (aP (me 16 39), bP (me 16 39), sP (me 16 39)) = (?a16_39, ?b16_39, ?s16_39) := by
      conv => lhs; (conv => arg 1; whnf); arg 2; (conv => arg 1; whnf); (conv => arg 2; whnf)
    have h16_4 : (aP (me 16 4), bP (me 16 4), sP (me 16 4)) = (?a16_4, ?b16_4, ?s16_4) := by
      conv => lhs; (conv => arg 1; whnf); arg 2; (conv => arg 1; whnf); (conv => arg 2; whnf)
    have h16_40 : (aP (me 16 40), bP (me 16 40), sP (me 16 40)) = (?a16_40, ?b16_40, ?s16_40) := by
      conv => lhs; (conv => arg 1; whnf); arg 2; (conv => arg 1; whnf); (conv => arg 2; whnf)
    have h16_41 : (aP (me 16 41), bP (me 16 41), sP (me 16 41)) = (?a16_41, ?b16_41, ?s16_41) := by
      conv => lhs; (conv => arg 1; whnf); arg 2; (conv => arg 1; whnf); (conv => arg 2; whnf)
    have h16_42 : (aP (me 16 42), bP (me 16 42), sP (me 16 42)) = (?a16_42, ?b16_42, ?s16_42) := by
      conv => lhs; (conv => arg 1; whnf); arg 2; (conv => arg 1; whnf); (conv => arg 2; whnf)
    have h17 : (aP (st 17), bP (st 17), sP (st 17)) = (?a17, ?b17, ?s17) := by
      conv => lhs; (conv => arg 1; whnf); arg 2; (conv => arg 1; whnf); (conv => arg 2; whnf)
    have h23 : (aP (st 23), bP (st 23), sP (st 23)) = (?a23, ?b23, ?s23) := by
      conv => lhs; (conv => arg 1; whnf); arg 2; (conv => arg 1; whnf); (conv => arg 2; whnf)
    have h24_0 : (aP (me 24 0), bP (me 24 0), sP (me 24 0)) = (?a24_0, ?b24_0, ?s24_0) := by
      conv => lhs; (conv => arg 1; whnf); arg 2; (conv => arg 1; whnf); (conv => arg 2; whnf)
    have h24_1 : (aP (me 24 1), bP (me 24 1), sP (me 24 1)) = (?a24_1, ?b24_1, ?s24_1) := by
      conv => lhs; (conv => arg 1; whnf); arg 2; (conv => arg 1; whnf); (conv => arg 2; whnf)
    have h24_11 : (aP (me 24 11), bP (me 24 11), sP (me 24 11)) = (?a24_11, ?b24_11, ?s24_11) := by
      conv => lhs; (conv => arg 1; whnf); arg 2; (conv => arg 1; whnf); (conv => arg 2; whnf)
    have h24_12 : (aP (me 24 12), bP (me 24 12), sP (me 24 12)) = (?a24_12, ?b24_12, ?s24_12) := by
      conv => lhs; (conv => arg 1; whnf); arg 2; (conv => arg 1; whnf); (conv => arg 2; whnf)
    have h24_3 : (aP (me 24 3), bP (me 24 3), sP (me 24 3)) = (?a24_3, ?b24_3, ?s24_3) := by
      conv => lhs; (conv => arg 1; whnf); arg 2; (conv => arg 1; whnf); (conv => arg 2; whnf)
    have h24_4 : (aP (me 24 4), bP (me 24 4), sP (me 24 4)) = (?a24_4, ?b24_4, ?s24_4) := by
      conv => lhs; (conv => arg 1; whnf); arg 2; (conv => arg 1; whnf); (conv => arg 2; whnf)
    have h26 : (aP (st 26), bP (st 26), sP (st 26)) = (?a26, ?b26, ?s26) := by
      conv => lhs; (conv => arg 1; whnf); arg 2; (conv => arg 1; whnf); (conv => arg 2; whnf)
    have h27 : (aP (st 27), bP (st 27), sP (st 27)) = (?a27, ?b27, ?s27) := by
      conv => lhs; (conv => arg 1; whnf); arg 2; (conv => arg 1; whnf); (conv => arg 2; whnf)
    have h28 : (aP (st 28), bP (st 28), sP (st 28)) = (?a28, ?b28, ?s28) := by
      conv => lhs; (conv => arg 1; whnf); arg 2; (conv => arg 1; whnf); (conv => arg 2; whnf)
    have h29 : (aP (st 29), bP (st 29), sP (st 29)) = (?a29, ?b29, ?s29) := by
      conv => lhs; (conv => arg 1; whnf); arg 2; (conv => arg 1; whnf); (conv => arg 2; whnf)
    have h2_0 : (aP (me 2 0), bP (me 2 0), sP (me 2 0)) = (?a2_0, ?b2_0, ?s2_0) := by
      conv => lhs; (conv => arg 1; whnf); arg 2; (conv => arg 1; whnf); (conv => arg 2; whnf)
    have h2_1 : (aP (me 2 1), bP (me 2 1), sP (me 2 1)) = (?a2_1, ?b2_1, ?s2_1) := by
      conv => lhs; (conv => arg 1; whnf); arg 2; (conv => arg 1; whnf); (conv => arg 2; whnf)
    have h2_2 : (aP (me 2 2), bP (me 2 2), sP (me 2 2)) = (?a2_2, ?b2_2, ?s2_2) := by
      conv => lhs; (conv => arg 1; whnf); arg 2; (conv => arg 1; whnf); (conv => arg 2; whnf)
    have h2_3 : (aP (me 2 3), bP (me 2 3), sP (me 2 3)) = (?a2_3, ?b2_3, ?s2_3) := by
      conv => lhs; (conv => arg 1; whnf); arg 2; (conv => arg 1; whnf); (conv => arg 2; whnf)
    have h2_4 : (aP (me 2 4), bP (me 2 4), sP (me 2 4)) = (?a2_4, ?b2_4, ?s2_4) := by
      conv => lhs; (conv => arg 1; whnf); arg 2; (conv => arg 1; whnf); (conv => arg 2; whnf)
    have h2_5 : (aP (me 2 5), bP (me 2 5), sP (me 2 5)) = (?a2_5, ?b2_5, ?s2_5) := by
      conv => lhs; (conv => arg 1; whnf); arg 2; (conv => arg 1; whnf); (conv => arg 2; whnf)
    have h2_6 : (aP (me 2 6), bP (me 2 6), sP (me 2 6)) = (?a2_6, ?b2_6, ?s2_6) := by
      conv => lhs; (conv => arg 1; whnf); arg 2; (conv => arg 1; whnf); (conv => arg 2; whnf)
    have h2_7 : (aP (me 2 7), bP (me 2 7), sP (me 2 7)) = (?a2_7, ?b2_7, ?s2_7) := by
      conv => lhs; (conv => arg 1; whnf); arg 2; (conv => arg 1; whnf); (conv => arg 2; whnf)
    have h30 : (aP (st 30), bP (st 30), sP (st 30)) = (?a30, ?b30, ?s30) := by
      conv => lhs; (conv => arg 1; whnf); arg 2; (conv => arg 1; whnf); (conv => arg 2; whnf)
    have h31 : (aP (st 31), bP (st 31), sP (st 31)) = (?a31, ?b31, ?s31) := by
      conv => lhs; (conv => arg 1; whnf); arg 2; (conv => arg 1; whnf); (conv => arg 2; whnf)
    have h32 : (aP (st 32), bP (st 32), sP (st 32)) = (?a32, ?b32, ?s32) := by
      conv => lhs; (conv => arg 1; whnf); arg 2; (conv => arg 1; whnf); (conv => arg 2; whnf)
    have h33 : (aP (st 33), bP (st 33), sP (st 33)) = (?a33, ?b33, ?s33) := by
      conv => lhs; (conv => arg 1; whnf); arg 2; (conv => arg 1; whnf); (conv => arg 2; whnf)
    have h34 : (aP (st 34), bP (st 34), sP (st 34)) = (?a34, ?b34, ?s34) := by
      conv => lhs; (conv => arg 1; whnf); arg 2; (conv => arg 1; whnf); (conv => arg 2; whnf)
    exact { cls := .none, data := .dict #[e P "type.__subclasses__.Exception.0" 322 (.int 118 0), e P "type.__subclasses__.Exception.n" 323 (.int 1 0)] 2 }
noncomputable def as39 : List Addr := nat_lit 2 :: nat_lit 3 :: nat_lit 34 :: nat_lit 35 :: nat_lit 41 :: nat_lit 42 :: nat_lit 46 :: nat_lit 47 :: nat_lit 53 :: nat_lit 54 :: nat_lit 58 :: nat_lit 59 :: nat_lit 65 :: nat_lit 66 :: nat_lit 72 :: nat_lit 73 :: nat_lit 79 :: nat_lit 80 :: nat_lit 82 :: nat_lit 83 :: nat_lit 84 :: nat_lit 85 :: nat_lit 103 :: nat_lit 104 :: nat_lit 105 :: nat_lit 106 :: nat_lit 117 :: nat_lit 118 :: nat_lit 119 :: nat_lit 130 :: nat_lit 131 :: nat_lit 142 :: nat_lit 143 :: nat_lit 154 :: nat_lit 155 :: nat_lit 166 :: nat_lit 167 :: nat_lit 185 :: nat_lit 186 :: nat_lit 187 :: nat_lit 188 :: nat_lit 205 :: nat_lit 206 :: nat_lit 207 :: nat_lit 209 :: nat_lit 210 :: nat_lit 211 :: nat_lit 212 :: nat_lit 222 :: nat_lit 228 :: nat_lit 229 :: nat_lit 246 :: nat_lit 263 :: nat_lit 280 :: nat_lit 357 :: nat_lit 358 :: nat_lit 387 :: nat_lit 388 :: nat_lit 405 :: nat_lit 411 :: nat_lit 412 :: nat_lit 414 :: nat_lit 420 :: nat_lit 421 :: nat_lit 443 :: nat_lit 444 :: nat_lit 466 :: nat_lit 467 :: nat_lit 473 :: nat_lit 474 :: nat_lit 485 :: nat_lit 486 :: nat_lit 492 :: nat_lit 493 :: nat_lit 497 :: nat_lit 498 :: nat_lit 502 :: nat_lit 503 :: nat_lit 509 :: nat_lit 510 :: nat_lit 541 :: nat_lit 542 :: nat_lit 543 :: nat_lit 544 :: nat_lit 552 :: nat_lit 553 :: nat_lit 575 :: nat_lit 584 :: nat_lit 585 :: nat_lit 586 :: nat_lit 587 :: nat_lit 612 :: nat_lit 613 :: nat_lit 614 :: nat_lit 615 :: nat_lit 640 :: nat_lit 641 :: nat_lit 642 :: nat_lit 643 :: nat_lit 658 :: nat_lit 659 :: nat_lit 667 :: nat_lit 673 :: nat_lit 674 :: nat_lit 680 :: nat_lit 681 :: nat_lit 694 :: nat_lit 695 :: nat_lit 701 :: nat_lit 702 :: nat_lit 750 :: nat_lit 751 :: nat_lit 757 :: nat_lit 758 :: nat_lit 813 :: nat_lit 814 :: nat_lit 815 :: nat_lit 816 :: nat_lit 824 :: nat_lit 825 :: nat_lit 829 :: nat_lit 830 :: nat_lit 836 :: nat_lit 837 :: nat_lit 841 :: nat_lit 842 :: nat_lit 848 :: nat_lit 849 :: nat_lit 855 :: nat_lit 856 :: nat_lit 862 :: nat_lit 863 :: nat_lit 869 :: nat_lit 870 :: nat_lit 874 :: nat_lit 875 :: []

end Mine
end
section
open PySem PySem.W PyProof.Rows PySem.Calls PySem.Spec
namespace Mine
noncomputable def q39 : Program := view PySem.Challenge.pw_ac0032_01 [0, 2, 4, 6, 7, 8, 9, 10, 12, 13, 14, 15, 16, 17, 18, 19, 20, 21, 23, 24, 26, 27, 28, 29, 30, 31, 32, 33, 34]
noncomputable abbrev loose39 : List Str := [Str.ofString "Status", Str.ofString "_NoSynchronizers", Str.ofString "Transaction", Str.ofString "Savepoint", Str.ofString "TransactionManager"]
noncomputable def env41 : Env := { scope := PySem.Challenge.rw_ac0032_01.row.prog.main.scope, locals := mainNs, globals := mainNs, cells := [], code := .ref 13, frame := some 14 }
noncomputable def oc45 : Obj := { cls := .type "code", data := .fields #[.str (s "<module>") 182, .str (s "<module>") 183, .str (s "/claim/cut.py") 184, .int 1 0, .int 0 0, .int 0 0, .int 0 0, .int 0 0, .ref 11, .bool false, .int 181 0, .ref 12, .none, .none, .none, .none, .int 185 0, .int 1 0, .str (s "/claim/cut.py") 186] }
noncomputable def of46 : Obj := { cls := .type "frame", slots := #[some (.ref 13), some (.ref 3), some (.ref 3), none, some (.str (s "__main__") 164), none, some (.ref 0)] }
noncomputable def ot43 : Obj := { cls := .type "tuple", data := .seq #[] }
noncomputable def ot44 : Obj := { cls := .none, data := .fields #[] }
noncomputable def heap46 : Params → Heap := fun P => { objs := Array.mk [boot_o_0 P, boot_o_1 P, boot_o_2 P, boot_o_3 P, boot_o_4 P, boot_o_5 P, boot_o_6 P, boot_o_7 P, boot_o_8 P, boot_o_9 P, boot_o_10 P, ot43, ot44, oc45, of46] }
noncomputable def tree47 : Params → BT := fun P =>
  .node (boot_o_0 P) (.node (boot_o_1 P) (.node (boot_o_3 P) (.node (boot_o_7 P) .nil .nil) (.node ot43 .nil .nil)) (.node (boot_o_5 P) (.node (boot_o_9 P) .nil .nil) (.node oc45 .nil .nil)))
    (.node (boot_o_2 P) (.node (boot_o_4 P) (.node (boot_o_8 P) .nil .nil) (.node ot44 .nil .nil)) (.node (boot_o_6 P) (.node (boot_o_10 P) .nil .nil) (.node of46 .nil .nil)))
theorem keys39 : ∀ P, as39 = (K39 P).map (·.1) := fun _ => by kernel_rfl
noncomputable abbrev hook39 : Hook := kmHook K39 as39 keys39 [844, 654, 505, 469, 353]
theorem left39 : LeftO PySem.Challenge.rw_ac0032_01.row.prog q39 loose39 (fun s => xlAt q39 [] s && recOk PySem.Challenge.rw_ac0032_01.row.records s) hook39.obs hook39.val 13224 := by
  refine LeftO.of_tree (H₀ := boot_heap) (Ha := heap46) (gs₀ := Array.mk []) (d₀ := boot_drawn) (k₀ := boot_toks) (ka := 187) (m₀ := 11) (nT := 15) (n1 := 12) (n2 := 1) (n3 := 7000) (n4 := 2) (ann := some (.ref 6)) (env := env41) (T := tree47) (P0 := ⟨0, 0, 0, 0⟩) ?_ ?_ ?_ ?_ ?_ (by decide)
  · exact boot_open (by kernel_rfl) (by decide) (fun s => by kernel_rfl)
  · intro w; kernel_rfl
  · intro w os; kernel_rfl
  · intro w os; kernel_rfl
  · intro w os
    unfold finObs
    rw [PySem.W.Fast.te10110043849684766642, PySem.W.Fast.te14364793385576792824, PySem.W.Fast.te14082659384304107361, PySem.W.Fast.te4187177175401517315]
    kernel_rfl
end Mine
end
section
open PySem PySem.W PyProof.Rows PySem.Calls PySem.Spec
namespace Mine
theorem hd {d : DefRec} {kwd : List (Str × Expr)} (hdef : defOf q39 PySem.Challenge.rw_ac0032_01.row.name = some (d, kwd)) (hp : PySem.Challenge.rw_ac0032_01.row.prog.theDef PySem.Challenge.rw_ac0032_01.row.name = some (d.params, d.body, d.scope)) (hk : kwWritten? d.params.kwonlyargs d.params.kw_defaults = some kwd)
    (walk : WalkO q39 loose39 (XL q39 []) (kmHook K39 as39 keys39 [844, 654, 505, 469, 353]).says PySem.Challenge.rw_ac0032_01.row.toRowW d kwd fun f vs => PySem.call f vs) : PySem.Challenge.rw_ac0032_01.Holds := by
  refine holds_law (by rw [PySem.W.Fast.te9446332074065402090]; kernel_rfl) fun said => holds_open left39 (Hook.of hook39) (Hook.keeps hook39) (fun s e => xl_of s (Bool.and_eq_true_iff.mp e).1) XL.keeps hdef hp hk (fun s e => recFacts_of (Bool.and_eq_true_iff.mp e).2) rfl said (by kernel_rfl) ⟨rfl, rfl, rfl, rfl, rfl, by decide +kernel⟩ ?_ walk
  w_witness2
end Mine
end
section
open PySem PySem.W PyProof.Rows PySem.Calls PySem.Spec
namespace Mine
theorem wpAny_hide {α : Type} {M : Model} {A : Around} {E : Value → Shared → Prop} {t : Sem α} {Q : α → Shared → Prop} {s : Shared} (H : ∀ Q' E', (∀ a s, Q a s → Q' a s) → (∀ e s, E e s → E' e s) → wpAny M A t Q' E' s) : wpAny M A t Q E s := H Q E (fun _ _ h => h) (fun _ _ h => h)
theorem fa1 {α : Type} {p : α → Prop} {a1 : α} (h1 : p a1) : ∀ x ∈ [a1], p x := List.forall_mem_cons.mpr ⟨h1, List.forall_mem_nil _⟩
theorem fa2 {α : Type} {p : α → Prop} {a1 a2 : α} (h1 : p a1) (h2 : p a2) : ∀ x ∈ [a1, a2], p x := List.forall_mem_cons.mpr ⟨h1, fa1 h2⟩
theorem fa3 {α : Type} {p : α → Prop} {a1 a2 a3 : α} (h1 : p a1) (h2 : p a2) (h3 : p a3) : ∀ x ∈ [a1, a2, a3], p x := List.forall_mem_cons.mpr ⟨h1, fa2 h2 h3⟩
theorem fa4 {α : Type} {p : α → Prop} {a1 a2 a3 a4 : α} (h1 : p a1) (h2 : p a2) (h3 : p a3) (h4 : p a4) : ∀ x ∈ [a1, a2, a3, a4], p x := List.forall_mem_cons.mpr ⟨h1, fa3 h2 h3 h4⟩
theorem fa5 {α : Type} {p : α → Prop} {a1 a2 a3 a4 a5 : α} (h1 : p a1) (h2 : p a2) (h3 : p a3) (h4 : p a4) (h5 : p a5) : ∀ x ∈ [a1, a2, a3, a4, a5], p x := List.forall_mem_cons.mpr ⟨h1, fa4 h2 h3 h4 h5⟩
theorem fa6 {α : Type} {p : α → Prop} {a1 a2 a3 a4 a5 a6 : α} (h1 : p a1) (h2 : p a2) (h3 : p a3) (h4 : p a4) (h5 : p a5) (h6 : p a6) : ∀ x ∈ [a1, a2, a3, a4, a5, a6], p x := List.forall_mem_cons.mpr ⟨h1, fa5 h2 h3 h4 h5 h6⟩
theorem fa7 {α : Type} {p : α → Prop} {a1 a2 a3 a4 a5 a6 a7 : α} (h1 : p a1) (h2 : p a2) (h3 : p a3) (h4 : p a4) (h5 : p a5) (h6 : p a6) (h7 : p a7) : ∀ x ∈ [a1, a2, a3, a4, a5, a6, a7], p x := List.forall_mem_cons.mpr ⟨h1, fa6 h2 h3 h4 h5 h6 h7⟩
theorem fa8 {α : Type} {p : α → Prop} {a1 a2 a3 a4 a5 a6 a7 a8 : α} (h1 : p a1) (h2 : p a2) (h3 : p a3) (h4 : p a4) (h5 : p a5) (h6 : p a6) (h7 : p a7) (h8 : p a8) : ∀ x ∈ [a1, a2, a3, a4, a5, a6, a7, a8], p x := List.forall_mem_cons.mpr ⟨h1, fa7 h2 h3 h4 h5 h6 h7 h8⟩
theorem fa9 {α : Type} {p : α → Prop} {a1 a2 a3 a4 a5 a6 a7 a8 a9 : α} (h1 : p a1) (h2 : p a2) (h3 : p a3) (h4 : p a4) (h5 : p a5) (h6 : p a6) (h7 : p a7) (h8 : p a8) (h9 : p a9) : ∀ x ∈ [a1, a2, a3, a4, a5, a6, a7, a8, a9], p x := List.forall_mem_cons.mpr ⟨h1, fa8 h2 h3 h4 h5 h6 h7 h8 h9⟩
theorem fa10 {α : Type} {p : α → Prop} {a1 a2 a3 a4 a5 a6 a7 a8 a9 a10 : α} (h1 : p a1) (h2 : p a2) (h3 : p a3) (h4 : p a4) (h5 : p a5) (h6 : p a6) (h7 : p a7) (h8 : p a8) (h9 : p a9) (h10 : p a10) : ∀ x ∈ [a1, a2, a3, a4, a5, a6, a7, a8, a9, a10], p x := List.forall_mem_cons.mpr ⟨h1, fa9 h2 h3 h4 h5 h6 h7 h8 h9 h10⟩
theorem fa11 {α : Type} {p : α → Prop} {a1 a2 a3 a4 a5 a6 a7 a8 a9 a10 a11 : α} (h1 : p a1) (h2 : p a2) (h3 : p a3) (h4 : p a4) (h5 : p a5) (h6 : p a6) (h7 : p a7) (h8 : p a8) (h9 : p a9) (h10 : p a10) (h11 : p a11) : ∀ x ∈ [a1, a2, a3, a4, a5, a6, a7, a8, a9, a10, a11], p x := List.forall_mem_cons.mpr ⟨h1, fa10 h2 h3 h4 h5 h6 h7 h8 h9 h10 h11⟩
theorem fa12 {α : Type} {p : α → Prop} {a1 a2 a3 a4 a5 a6 a7 a8 a9 a10 a11 a12 : α} (h1 : p a1) (h2 : p a2) (h3 : p a3) (h4 : p a4) (h5 : p a5) (h6 : p a6) (h7 : p a7) (h8 : p a8) (h9 : p a9) (h10 : p a10) (h11 : p a11) (h12 : p a12) : ∀ x ∈ [a1, a2, a3, a4, a5, a6, a7, a8, a9, a10, a11, a12], p x := List.forall_mem_cons.mpr ⟨h1, fa11 h2 h3 h4 h5 h6 h7 h8 h9 h10 h11 h12⟩
theorem fa13 {α : Type} {p : α → Prop} {a1 a2 a3 a4 a5 a6 a7 a8 a9 a10 a11 a12 a13 : α} (h1 : p a1) (h2 : p a2) (h3 : p a3) (h4 : p a4) (h5 : p a5) (h6 : p a6) (h7 : p a7) (h8 : p a8) (h9 : p a9) (h10 : p a10) (h11 : p a11) (h12 : p a12) (h13 : p a13) : ∀ x ∈ [a1, a2, a3, a4, a5, a6, a7, a8, a9, a10, a11, a12, a13], p x := List.forall_mem_cons.mpr ⟨h1, fa12 h2 h3 h4 h5 h6 h7 h8 h9 h10 h11 h12 h13⟩
theorem fa14 {α : Type} {p : α → Prop} {a1 a2 a3 a4 a5 a6 a7 a8 a9 a10 a11 a12 a13 a14 : α} (h1 : p a1) (h2 : p a2) (h3 : p a3) (h4 : p a4) (h5 : p a5) (h6 : p a6) (h7 : p a7) (h8 : p a8) (h9 : p a9) (h10 : p a10) (h11 : p a11) (h12 : p a12) (h13 : p a13) (h14 : p a14) : ∀ x ∈ [a1, a2, a3, a4, a5, a6, a7, a8, a9, a10, a11, a12, a13, a14], p x := List.forall_mem_cons.mpr ⟨h1, fa13 h2 h3 h4 h5 h6 h7 h8 h9 h10 h11 h12 h13 h14⟩
theorem fa15 {α : Type} {p : α → Prop} {a1 a2 a3 a4 a5 a6 a7 a8 a9 a10 a11 a12 a13 a14 a15 : α} (h1 : p a1) (h2 : p a2) (h3 : p a3) (h4 : p a4) (h5 : p a5) (h6 : p a6) (h7 : p a7) (h8 : p a8) (h9 : p a9) (h10 : p a10) (h11 : p a11) (h12 : p a12) (h13 : p a13) (h14 : p a14) (h15 : p a15) : ∀ x ∈ [a1, a2, a3, a4, a5, a6, a7, a8, a9, a10, a11, a12, a13, a14, a15], p x := List.forall_mem_cons.mpr ⟨h1, fa14 h2 h3 h4 h5 h6 h7 h8 h9 h10 h11 h12 h13 h14 h15⟩
theorem fa16 {α : Type} {p : α → Prop} {a1 a2 a3 a4 a5 a6 a7 a8 a9 a10 a11 a12 a13 a14 a15 a16 : α} (h1 : p a1) (h2 : p a2) (h3 : p a3) (h4 : p a4) (h5 : p a5) (h6 : p a6) (h7 : p a7) (h8 : p a8) (h9 : p a9) (h10 : p a10) (h11 : p a11) (h12 : p a12) (h13 : p a13) (h14 : p a14) (h15 : p a15) (h16 : p a16) : ∀ x ∈ [a1, a2, a3, a4, a5, a6, a7, a8, a9, a10, a11, a12, a13, a14, a15, a16], p x := List.forall_mem_cons.mpr ⟨h1, fa15 h2 h3 h4 h5 h6 h7 h8 h9 h10 h11 h12 h13 h14 h15 h16⟩
theorem fa17 {α : Type} {p : α → Prop} {a1 a2 a3 a4 a5 a6 a7 a8 a9 a10 a11 a12 a13 a14 a15 a16 a17 : α} (h1 : p a1) (h2 : p a2) (h3 : p a3) (h4 : p a4) (h5 : p a5) (h6 : p a6) (h7 : p a7) (h8 : p a8) (h9 : p a9) (h10 : p a10) (h11 : p a11) (h12 : p a12) (h13 : p a13) (h14 : p a14) (h15 : p a15) (h16 : p a16) (h17 : p a17) : ∀ x ∈ [a1, a2, a3, a4, a5, a6, a7, a8, a9, a10, a11, a12, a13, a14, a15, a16, a17], p x := List.forall_mem_cons.mpr ⟨h1, fa16 h2 h3 h4 h5 h6 h7 h8 h9 h10 h11 h12 h13 h14 h15 h16 h17⟩
theorem fa18 {α : Type} {p : α → Prop} {a1 a2 a3 a4 a5 a6 a7 a8 a9 a10 a11 a12 a13 a14 a15 a16 a17 a18 : α} (h1 : p a1) (h2 : p a2) (h3 : p a3) (h4 : p a4) (h5 : p a5) (h6 : p a6) (h7 : p a7) (h8 : p a8) (h9 : p a9) (h10 : p a10) (h11 : p a11) (h12 : p a12) (h13 : p a13) (h14 : p a14) (h15 : p a15) (h16 : p a16) (h17 : p a17) (h18 : p a18) : ∀ x ∈ [a1, a2, a3, a4, a5, a6, a7, a8, a9, a10, a11, a12, a13, a14, a15, a16, a17, a18], p x := List.forall_mem_cons.mpr ⟨h1, fa17 h2 h3 h4 h5 h6 h7 h8 h9 h10 h11 h12 h13 h14 h15 h16 h17 h18⟩
theorem fa19 {α : Type} {p : α → Prop} {a1 a2 a3 a4 a5 a6 a7 a8 a9 a10 a11 a12 a13 a14 a15 a16 a17 a18 a19 : α} (h1 : p a1) (h2 : p a2) (h3 : p a3) (h4 : p a4) (h5 : p a5) (h6 : p a6) (h7 : p a7) (h8 : p a8) (h9 : p a9) (h10 : p a10) (h11 : p a11) (h12 : p a12) (h13 : p a13) (h14 : p a14) (h15 : p a15) (h16 : p a16) (h17 : p a17) (h18 : p a18) (h19 : p a19) : ∀ x ∈ [a1, a2, a3, a4, a5, a6, a7, a8, a9, a10, a11, a12, a13, a14, a15, a16, a17, a18, a19], p x := List.forall_mem_cons.mpr ⟨h1, fa18 h2 h3 h4 h5 h6 h7 h8 h9 h10 h11 h12 h13 h14 h15 h16 h17 h18 h19⟩
theorem fa20 {α : Type} {p : α → Prop} {a1 a2 a3 a4 a5 a6 a7 a8 a9 a10 a11 a12 a13 a14 a15 a16 a17 a18 a19 a20 : α} (h1 : p a1) (h2 : p a2) (h3 : p a3) (h4 : p a4) (h5 : p a5) (h6 : p a6) (h7 : p a7) (h8 : p a8) (h9 : p a9) (h10 : p a10) (h11 : p a11) (h12 : p a12) (h13 : p a13) (h14 : p a14) (h15 : p a15) (h16 : p a16) (h17 : p a17) (h18 : p a18) (h19 : p a19) (h20 : p a20) : ∀ x ∈ [a1, a2, a3, a4, a5, a6, a7, a8, a9, a10, a11, a12, a13, a14, a15, a16, a17, a18, a19, a20], p x := List.forall_mem_cons.mpr ⟨h1, fa19 h2 h3 h4 h5 h6 h7 h8 h9 h10 h11 h12 h13 h14 h15 h16 h17 h18 h19 h20⟩
theorem fa21 {α : Type} {p : α → Prop} {a1 a2 a3 a4 a5 a6 a7 a8 a9 a10 a11 a12 a13 a14 a15 a16 a17 a18 a19 a20 a21 : α} (h1 : p a1) (h2 : p a2) (h3 : p a3) (h4 : p a4) (h5 : p a5) (h6 : p a6) (h7 : p a7) (h8 : p a8) (h9 : p a9) (h10 : p a10) (h11 : p a11) (h12 : p a12) (h13 : p a13) (h14 : p a14) (h15 : p a15) (h16 : p a16) (h17 : p a17) (h18 : p a18) (h19 : p a19) (h20 : p a20) (h21 : p a21) : ∀ x ∈ [a1, a2, a3, a4, a5, a6, a7, a8, a9, a10, a11, a12, a13, a14, a15, a16, a17, a18, a19, a20, a21], p x := List.forall_mem_cons.mpr ⟨h1, fa20 h2 h3 h4 h5 h6 h7 h8 h9 h10 h11 h12 h13 h14 h15 h16 h17 h18 h19 h20 h21⟩
theorem fa22 {α : Type} {p : α → Prop} {a1 a2 a3 a4 a5 a6 a7 a8 a9 a10 a11 a12 a13 a14 a15 a16 a17 a18 a19 a20 a21 a22 : α} (h1 : p a1) (h2 : p a2) (h3 : p a3) (h4 : p a4) (h5 : p a5) (h6 : p a6) (h7 : p a7) (h8 : p a8) (h9 : p a9) (h10 : p a10) (h11 : p a11) (h12 : p a12) (h13 : p a13) (h14 : p a14) (h15 : p a15) (h16 : p a16) (h17 : p a17) (h18 : p a18) (h19 : p a19) (h20 : p a20) (h21 : p a21) (h22 : p a22) : ∀ x ∈ [a1, a2, a3, a4, a5, a6, a7, a8, a9, a10, a11, a12, a13, a14, a15, a16, a17, a18, a19, a20, a21, a22], p x := List.forall_mem_cons.mpr ⟨h1, fa21 h2 h3 h4 h5 h6 h7 h8 h9 h10 h11 h12 h13 h14 h15 h16 h17 h18 h19 h20 h21 h22⟩
theorem in0 {α : Type} {x : α} {r : List α} : x ∈ x :: r := .head _
theorem in1 {α : Type} {a1 x : α} {r : List α} : x ∈ a1 :: x :: r := .tail _ in0
theorem in2 {α : Type} {a1 a2 x : α} {r : List α} : x ∈ a1 :: a2 :: x :: r := .tail _ in1
theorem in3 {α : Type} {a1 a2 a3 x : α} {r : List α} : x ∈ a1 :: a2 :: a3 :: x :: r := .tail _ in2
theorem in4 {α : Type} {a1 a2 a3 a4 x : α} {r : List α} : x ∈ a1 :: a2 :: a3 :: a4 :: x :: r := .tail _ in3
theorem in5 {α : Type} {a1 a2 a3 a4 a5 x : α} {r : List α} : x ∈ a1 :: a2 :: a3 :: a4 :: a5 :: x :: r := .tail _ in4
theorem in6 {α : Type} {a1 a2 a3 a4 a5 a6 x : α} {r : List α} : x ∈ a1 :: a2 :: a3 :: a4 :: a5 :: a6 :: x :: r := .tail _ in5
theorem in7 {α : Type} {a1 a2 a3 a4 a5 a6 a7 x : α} {r : List α} : x ∈ a1 :: a2 :: a3 :: a4 :: a5 :: a6 :: a7 :: x :: r := .tail _ in6
theorem in8 {α : Type} {a1 a2 a3 a4 a5 a6 a7 a8 x : α} {r : List α} : x ∈ a1 :: a2 :: a3 :: a4 :: a5 :: a6 :: a7 :: a8 :: x :: r := .tail _ in7
theorem in9 {α : Type} {a1 a2 a3 a4 a5 a6 a7 a8 a9 x : α} {r : List α} : x ∈ a1 :: a2 :: a3 :: a4 :: a5 :: a6 :: a7 :: a8 :: a9 :: x :: r := .tail _ in8
theorem in10 {α : Type} {a1 a2 a3 a4 a5 a6 a7 a8 a9 a10 x : α} {r : List α} : x ∈ a1 :: a2 :: a3 :: a4 :: a5 :: a6 :: a7 :: a8 :: a9 :: a10 :: x :: r := .tail _ in9
theorem in11 {α : Type} {a1 a2 a3 a4 a5 a6 a7 a8 a9 a10 a11 x : α} {r : List α} : x ∈ a1 :: a2 :: a3 :: a4 :: a5 :: a6 :: a7 :: a8 :: a9 :: a10 :: a11 :: x :: r := .tail _ in10
theorem in12 {α : Type} {a1 a2 a3 a4 a5 a6 a7 a8 a9 a10 a11 a12 x : α} {r : List α} : x ∈ a1 :: a2 :: a3 :: a4 :: a5 :: a6 :: a7 :: a8 :: a9 :: a10 :: a11 :: a12 :: x :: r := .tail _ in11
theorem in13 {α : Type} {a1 a2 a3 a4 a5 a6 a7 a8 a9 a10 a11 a12 a13 x : α} {r : List α} : x ∈ a1 :: a2 :: a3 :: a4 :: a5 :: a6 :: a7 :: a8 :: a9 :: a10 :: a11 :: a12 :: a13 :: x :: r := .tail _ in12
theorem in14 {α : Type} {a1 a2 a3 a4 a5 a6 a7 a8 a9 a10 a11 a12 a13 a14 x : α} {r : List α} : x ∈ a1 :: a2 :: a3 :: a4 :: a5 :: a6 :: a7 :: a8 :: a9 :: a10 :: a11 :: a12 :: a13 :: a14 :: x :: r := .tail _ in13
theorem in15 {α : Type} {a1 a2 a3 a4 a5 a6 a7 a8 a9 a10 a11 a12 a13 a14 a15 x : α} {r : List α} : x ∈ a1 :: a2 :: a3 :: a4 :: a5 :: a6 :: a7 :: a8 :: a9 :: a10 :: a11 :: a12 :: a13 :: a14 :: a15 :: x :: r := .tail _ in14
theorem in16 {α : Type} {a1 a2 a3 a4 a5 a6 a7 a8 a9 a10 a11 a12 a13 a14 a15 a16 x : α} {r : List α} : x ∈ a1 :: a2 :: a3 :: a4 :: a5 :: a6 :: a7 :: a8 :: a9 :: a10 :: a11 :: a12 :: a13 :: a14 :: a15 :: a16 :: x :: r := .tail _ in15
theorem in17 {α : Type} {a1 a2 a3 a4 a5 a6 a7 a8 a9 a10 a11 a12 a13 a14 a15 a16 a17 x : α} {r : List α} : x ∈ a1 :: a2 :: a3 :: a4 :: a5 :: a6 :: a7 :: a8 :: a9 :: a10 :: a11 :: a12 :: a13 :: a14 :: a15 :: a16 :: a17 :: x :: r := .tail _ in16
theorem in18 {α : Type} {a1 a2 a3 a4 a5 a6 a7 a8 a9 a10 a11 a12 a13 a14 a15 a16 a17 a18 x : α} {r : List α} : x ∈ a1 :: a2 :: a3 :: a4 :: a5 :: a6 :: a7 :: a8 :: a9 :: a10 :: a11 :: a12 :: a13 :: a14 :: a15 :: a16 :: a17 :: a18 :: x :: r := .tail _ in17
theorem in19 {α : Type} {a1 a2 a3 a4 a5 a6 a7 a8 a9 a10 a11 a12 a13 a14 a15 a16 a17 a18 a19 x : α} {r : List α} : x ∈ a1 :: a2 :: a3 :: a4 :: a5 :: a6 :: a7 :: a8 :: a9 :: a10 :: a11 :: a12 :: a13 :: a14 :: a15 :: a16 :: a17 :: a18 :: a19 :: x :: r := .tail _ in18
theorem in20 {α : Type} {a1 a2 a3 a4 a5 a6 a7 a8 a9 a10 a11 a12 a13 a14 a15 a16 a17 a18 a19 a20 x : α} {r : List α} : x ∈ a1 :: a2 :: a3 :: a4 :: a5 :: a6 :: a7 :: a8 :: a9 :: a10 :: a11 :: a12 :: a13 :: a14 :: a15 :: a16 :: a17 :: a18 :: a19 :: a20 :: x :: r := .tail _ in19
theorem in21 {α : Type} {a1 a2 a3 a4 a5 a6 a7 a8 a9 a10 a11 a12 a13 a14 a15 a16 a17 a18 a19 a20 a21 x : α} {r : List α} : x ∈ a1 :: a2 :: a3 :: a4 :: a5 :: a6 :: a7 :: a8 :: a9 :: a10 :: a11 :: a12 :: a13 :: a14 :: a15 :: a16 :: a17 :: a18 :: a19 :: a20 :: a21 :: x :: r := .tail _ in20
theorem in22 {α : Type} {a1 a2 a3 a4 a5 a6 a7 a8 a9 a10 a11 a12 a13 a14 a15 a16 a17 a18 a19 a20 a21 a22 x : α} {r : List α} : x ∈ a1 :: a2 :: a3 :: a4 :: a5 :: a6 :: a7 :: a8 :: a9 :: a10 :: a11 :: a12 :: a13 :: a14 :: a15 :: a16 :: a17 :: a18 :: a19 :: a20 :: a21 :: a22 :: x :: r := .tail _ in21
theorem room {a b c L : Nat} (h : a + b < L) (hc : c ≤ b) : a + c < L := Nat.lt_of_le_of_lt (Nat.add_le_add_left hc a) h
theorem room2 {a b c d L : Nat} (h : a + b < L) (hc : c + d ≤ b) : a + c + d < L := by rw [Nat.add_assoc]; exact room h hc
theorem room3 {a b c d e L : Nat} (h : a + b < L) (hc : c + d + e ≤ b) : a + c + d + e < L := by rw [Nat.add_assoc, Nat.add_assoc, ← Nat.add_assoc c]; exact room h hc
theorem lt8 {j : Nat} (h : j < 8) : j = 0 ∨ j = 1 ∨ j = 2 ∨ j = 3 ∨ j = 4 ∨ j = 5 ∨ j = 6 ∨ j = 7 := by omega
theorem lt8i {j : Int} (h0 : 0 ≤ j) (h : j < 8) : j = 0 ∨ j = 1 ∨ j = 2 ∨ j = 3 ∨ j = 4 ∨ j = 5 ∨ j = 6 ∨ j = 7 := by omega
end Mine
end
section
open PySem PySem.W PyProof.Rows PySem.Calls PySem.Spec
namespace Mine


theorem enter_plain {prog : Program} {w : World} {A A₀ : Around} {s : Shared} {K : Frag} {base h₀ : Heap} {outer : List Env} {L : Addr} {m mg mb : Str → Option Value} {env : Env} {news : List (Addr × Obj)}
    {p : Program} {loose : List Str} {mean : ExcName → Option Value} {R : Result → Shared → Prop} {name qual : Str} {params : Arguments} {body : List Stmt} {scope : Scope} {dV kV doc pm cdv ct oc : Value} {an od : Option Addr}
    {osl : Array (Option Value)} {f : Addr} {args : Args} {binds : List (Str × Value)}
    (B : Below A₀ base outer h₀) (F : Fr h₀ L s.heap m) (X : K.In h₀) (N : News h₀ L s.heap news) (T : Top p loose mean mg mb h₀)
    (hA : A.frames = some (env :: outer)) (hf : env.frame = some L) (hke : env.scope.kind = .function)
    (ho : K.lookup f = some ⟨oc, od, .func (fnOf name qual params body scope dV kV doc pm an cdv ct), osl⟩) (hcd : codeIn K cdv qual = true) (hroom : A.depth < recursionLimit)
    (hbind : BindsTo s (fnOf name qual params body scope dV kV doc pm an cdv ct) args binds) (hloc : ∀ y ∈ binds, scope.names.lookup y.1 = some .local)
    (h : ∀ g L' h₁, (∀ b o, s.heap.get? b = some o → b ∉ news.map (·.1) → g.get? b = some o) → (∀ b o, s.heap.get? b = some o → h₁.get? b = some o) → (∀ p ∈ news, p.1 < L') → Fr h₀ L g m →
      Fr g L' h₁ (fun y => binds.reverse.lookup y) → News g L' h₁ news → Below A base (env :: outer) g → K.In g → Top p loose mean mg mb g →
      wpAny (model prog w) (A.deeper (envOf qual scope L' f cdv)) (execs body (envOf qual scope L' f cdv))
        (fun fl s' => LeaveK h₀ L m g R (match fl with | .ret v => v | _ => .none) s')
        (fun e s' => wpAny (model prog w) (A.deeper (envOf qual scope L' f cdv)) (leaving (envOf qual scope L' f cdv) e) (fun _ s'' => R (.error e) s'') (fun e' s'' => R (.error e') s'') s')
        { s with heap := h₁, toks := s.toks + binds.length })
    (hco : scope.isCoroutine = false) (hgen : scope.isGenerator = false) (hk : scope.kind = .function) (hcell : ∀ x ∈ scope.names, x.2 ≠ .cell) :
    codeAny (model prog w) A (.call (.ref f) args) R s := by
  obtain ⟨FG, BG, st, lv⟩ := groundX (R := R) B F N hA hf hke
  refine codeAny_call_def (fd := fnOf name qual params body scope dV kV doc pm an cdv ct) (body := body) (binds := binds) hroom ((X.keeps F.keep) _ _ ho) rfl (T.nolimit.keeps F.keep)
    (codeRec_of (X.keeps F.keep) hcd) rfl hbind hcell hloc (fun h₁ hns hk₁ => ?_) hco hgen hk
  refine wpAny_mono (h _ s.heap.objs.size h₁ (fun b o e hb => hideAll_get _ e hb) hk₁ (fun q hq => Heap.lt_size (N q hq).1) FG
    ⟨hns, fun b o e => hk₁ b o (of_hideAll _ e), Nat.le_of_eq (hideAll_size _ _)⟩ (fun q hq => ⟨hk₁ _ _ (N q hq).1, Nat.ne_of_lt (Heap.lt_size (N q hq).1), hideAll_none _ (List.mem_map_of_mem hq)⟩)
    BG (X.keeps st) (T.keeps st)) (fun fl s' hl => lv _ _ hl) fun _ _ y => y

theorem enter_cells {prog : Program} {w : World} {A A₀ : Around} {s : Shared} {K : Frag} {base h₀ : Heap} {outer : List Env} {L : Addr} {m mg mb : Str → Option Value} {env : Env} {news : List (Addr × Obj)}
    {p : Program} {loose : List Str} {mean : ExcName → Option Value} {R : Result → Shared → Prop} {name qual : Str} {params : Arguments} {body : List Stmt} {scope : Scope} {dV kV doc pm cdv ct oc : Value} {an od : Option Addr}
    {osl : Array (Option Value)} {f : Addr} {args : Args} {binds : List (Str × Value)}
    (B : Below A₀ base outer h₀) (F : Fr h₀ L s.heap m) (X : K.In h₀) (N : News h₀ L s.heap news) (T : Top p loose mean mg mb h₀)
    (hA : A.frames = some (env :: outer)) (hf : env.frame = some L) (hke : env.scope.kind = .function)
    (ho : K.lookup f = some ⟨oc, od, .func (fnOf name qual params body scope dV kV doc pm an cdv ct), osl⟩) (hcd : codeIn K cdv qual = true) (hroom : A.depth < recursionLimit)
    (hbind : BindsTo s (fnOf name qual params body scope dV kV doc pm an cdv ct) args binds)
    (hkind : (binds.all fun y => scope.names.lookup y.1 == some .local || scope.names.lookup y.1 == some .cell) = true) (hnd : ((cellsFrom 0 scope.names []).map (·.1)).Nodup)
    (h : ∀ g L' h₁ tk cells, (∀ b o, s.heap.get? b = some o → b ∉ news.map (·.1) → g.get? b = some o) → (∀ b o, s.heap.get? b = some o → h₁.get? b = some o) → (∀ p ∈ news, p.1 < L') → Fr h₀ L g m →
      Fr g L' h₁ (bindL (envOfC qual scope L' f cdv).kindOf binds fun _ => none) → News g L' h₁ (cells ++ news) →
      CellsAre (bindC (envOfC qual scope L' f cdv).kindOf binds fun _ => none) (cellsFrom (L' + 1) scope.names []) cells → Below A base (env :: outer) g → K.In g → Top p loose mean mg mb g →
      wpAny (model prog w) (A.deeper (envOfC qual scope L' f cdv)) (execs body (envOfC qual scope L' f cdv))
        (fun fl s' => LeaveK h₀ L m g R (match fl with | .ret v => v | _ => .none) s')
        (fun e s' => wpAny (model prog w) (A.deeper (envOfC qual scope L' f cdv)) (leaving (envOfC qual scope L' f cdv) e) (fun _ s'' => R (.error e) s'') (fun e' s'' => R (.error e') s'') s')
        { s with heap := h₁, toks := tk })
    (hco : scope.isCoroutine = false) (hgen : scope.isGenerator = false) (hk : scope.kind = .function) :
    codeAny (model prog w) A (.call (.ref f) args) R s := by
  obtain ⟨FG, BG, st, lv⟩ := groundX (R := R) B F N hA hf hke
  refine codeAny_call_function hroom ((X.keeps F.keep) _ _ ho) rfl hco hgen rfl (codeRec_of (X.keeps F.keep) hcd) (hbind _ _ _ _ ?_)
  refine wpAny_newFunctionEnv_cells hk (kindsX hkind _) fun env' he s' x => ?_
  subst he
  refine ⟨(T.nolimit.keeps F.keep).keeps x.toInCall.keep, codeAny_func ?_⟩
  obtain ⟨h₁, tk, rfl, _⟩ := x.done
  have hk₁ := x.toInCall.keep
  obtain ⟨cells, NC, Y⟩ := Cl.news (h₀ := s.heap) (Nat.le_refl _) fun n c hm => ⟨x.cell n c (lookup_of_mem_nodup (cellsFrom_names scope.names 0 (s.heap.objs.size + 1) [] [] rfl ▸ hnd) hm), x.above n c hm⟩
  refine wpAny_mono (h _ s.heap.objs.size h₁ tk cells (fun b o e hb => hideAll_get _ e hb) hk₁ (fun q hq => Heap.lt_size (N q hq).1) FG
    ⟨x.toInCall.ns, fun b o e => hk₁ b o (of_hideAll _ e), Nat.le_of_eq (hideAll_size _ _)⟩ (fun q hq => ?_) Y BG (X.keeps st) (T.keeps st)) (fun fl s' hl => lv _ _ hl) fun _ _ y => y
  rcases List.mem_append.mp hq with hq | hq
  · refine ⟨(NC q hq).1, (NC q hq).2.1, ?_⟩
    cases z : (hideAll s.heap (news.map (·.1))).get? q.1 with
    | none => rfl
    | some o => have := of_hideAll _ z; rw [(NC q hq).2.2] at this; cases this
  · exact ⟨hk₁ _ _ (N q hq).1, Nat.ne_of_lt (Heap.lt_size (N q hq).1), hideAll_none _ (List.mem_map_of_mem hq)⟩
end Mine
end
section
open PySem PySem.W PyProof.Rows PySem.Calls PySem.Spec
namespace Mine

noncomputable def Hold (P : Prop) : Prop := P
theorem hold {P : Prop} (h : Hold P) : P := h
theorem Hold.out {P : Prop} (h : P) : Hold P := h

theorem paired_map {f : Value → Value} : ∀ {l₁ l₂ : List Value}, Paired (fun v y => y = f v) l₁ l₂ → l₂ = l₁.map f
  | _, _, .nil => rfl
  | _, _, .cons h t => by rw [h, paired_map t]; rfl

theorem lc_S {prog : Program} {w : World} {A : Around} {E : Value → Shared → Prop} {s : Shared} {env : Env} {l : Addr} {vs : List Value} {x : Str} {ifs : List Expr} {elt : Expr} {scope : Scope} {cl : List (Str × Addr)}
    {p : Value → Bool} {f : Value → Value} {Q : Shared → Addr → Heap → Nat → Prop} (hh : A.handled = none) (hl : s.heap.IsList l vs.toArray) (hsz : vs.length ≤ sizeLine)
    (ht : ∀ C v s₃ m₃ E', v ∈ vs → s₃.heap.Ns C m₃ → m₃ x = some v → (∀ b o, s.heap.get? b = some o → s₃.heap.get? b = some o) →
      wpAny (model prog w) A (forIn ifs true fun c r => if r = true then do let ok ← isTrue c (compEnvC scope cl C env) (eval c (compEnvC scope cl C env)); pure (ForInStep.yield ok) else pure (ForInStep.yield r))
        (fun ok s₄ => ok = p v ∧ Keeps s₃ s₄) E' s₃)
    (he : ∀ C v s₃ m₃ E', v ∈ vs → p v = true → s₃.heap.Ns C m₃ → m₃ x = some v → (∀ b o, s.heap.get? b = some o → s₃.heap.get? b = some o) →
      wpAny (model prog w) A (eval elt (compEnvC scope cl C env)) (fun y s₄ => y = f v ∧ Keeps s₃ s₄) E' s₃)
    (hQ : ∀ D h' tk, s.heap.get? D = none → (∀ b o, s.heap.get? b = some o → h'.get? b = some o) → h'.PlainList D ((vs.filter p).map f).toArray → Q { s with heap := s.heap.push { cls := .type "list_iterator", data := .fields #[.ref l, .int 0 0] } } D h' tk) :
    wpAny (model prog w) A (pyIter (.ref l)) (fun it s₂ => ∃ I fp wr n P St, it = .ref I ∧ Walks prog w A I fp wr n P St ∧ n ≤ sizeLine ∧ St 0 s₂.heap ∧ (∀ b ∈ fp, b < s₂.heap.objs.size) ∧
      QuietOnC prog w A env scope cl x ifs elt wr P p (fun v y => y = f v) s₂ ∧
      (∀ D h' tk ys (vs : List Value), s₂.heap.get? D = none → h'.IsList D ys → h'.PlainList D ys → vs.length = n → (∀ j v, vs[j]? = some v → P j v) → Paired (fun v y => y = f v) (vs.filter p) ys.toList →
        (∀ b o, b ∉ wr → s₂.heap.get? b = some o → h'.get? b = some o) → Q s₂ D h' tk)) E s := by
  refine wpAny_pyIter_list hl ?_
  have hlt : l < s.heap.objs.size := by obtain ⟨_, e, _⟩ := hl; exact Heap.lt_size e
  have up : ∀ b o, s.heap.get? b = some o → (s.heap.push { cls := .type "list_iterator", data := .fields #[.ref l, .int 0 0] }).get? b = some o := fun b o e => Heap.get?_push_of_some _ e
  refine ⟨s.heap.objs.size, _, _, vs.toArray.size, _, _, rfl, Walks.list hh s.heap.objs.size l (Nat.ne_of_lt hlt) vs.toArray, by simpa using hsz, ⟨⟨_, Heap.get?_push_size _ rfl, rfl, rfl⟩, hl.push _⟩, ?_, ⟨?_, ?_⟩, ?_⟩
  · intro b hb
    show b < (s.heap.push _).objs.size
    rw [Heap.size_push]
    simp only [List.mem_cons, List.not_mem_nil, or_false] at hb
    rcases hb with e | e
    · rw [e]; exact Nat.lt_succ_self _
    · rw [e]; exact Nat.lt_succ_of_lt hlt
  · intro C i v s₃ m₃ E' _ hP hn hm hk _
    refine ht C v s₃ m₃ E' ?_ hn hm fun b o e => hk b o ?_ (up b o e)
    · exact List.mem_of_getElem? (by simpa using hP)
    · simp only [List.mem_singleton]; exact Nat.ne_of_lt (Heap.lt_size e)
  · intro C i v s₃ m₃ E' _ hP hp hn hm hk _
    refine he C v s₃ m₃ E' ?_ hp hn hm fun b o e => hk b o ?_ (up b o e)
    · exact List.mem_of_getElem? (by simpa using hP)
    · simp only [List.mem_singleton]; exact Nat.ne_of_lt (Heap.lt_size e)
  · intro D h' tk ys ws hD _ hpl hlen hP hF hk
    have hws : ws = vs := by
      apply List.ext_getElem?
      intro j
      cases hj : ws[j]? with
      | some v => have := hP j v hj; simpa using this.symm
      | none =>
        have h1 := List.getElem?_eq_none_iff.mp hj
        exact (List.getElem?_eq_none_iff.mpr (by rw [hlen] at h1; simpa using h1)).symm
    subst hws
    have e := paired_map hF
    have hys : ys = ((ws.filter p).map f).toArray := by
      apply Array.ext'
      rw [e]
    rw [hys] at hpl
    refine hQ D h' tk ?_ (fun b o e => hk b o (by simp only [List.mem_singleton]; exact Nat.ne_of_lt (Heap.lt_size e)) (up b o e)) hpl
    cases q : s.heap.get? D with
    | none => rfl
    | some o => have := up _ _ q; rw [hD] at this; cases this

theorem kept_end {h₀ h g h' : Heap} {L : Addr} {led : List (Addr × Obj)} {mods : List Addr} (N : News h₀ L h led) (hG : ∀ b o, h.get? b = some o → b ∉ led.map (·.1) → g.get? b = some o)
    (hk : ∀ b o, g.get? b = some o → h'.get? b = some o) (hl : ∀ p ∈ led, p.1 ∉ mods → h'.get? p.1 = some p.2) : ∀ b o, h.get? b = some o → b ∉ mods → h'.get? b = some o := fun b o e hb => by
  by_cases hm : b ∈ led.map (·.1)
  · obtain ⟨p, hp, rfl⟩ := List.mem_map.mp hm
    have := (N p hp).1
    rw [e] at this; cases this
    exact hl p hp hb
  · exact hk b o (hG b o e hm)
theorem ldCellK {M : Model} {A : Around} {E : Value → Shared → Prop} {s : Shared} {scope : Scope} {cl : List (Str × Addr)} {C : Addr} {env : Env} {Q : Value → Shared → Prop} {x : Str} {pos : Pos} {c : Addr} {v : Value} (hc : cl.lookup x = some c) (hv : s.heap.IsCell c (some v)) (h : Q v s)
    (hk : (compEnvC scope cl C env).scope.kind = .function := by rfl) (hl : (compEnvC scope cl C env).kindOf x = some .cell := by rfl) (hd : (x == ("__debug__" : Str)) = false := by decide) :
    wpAny M A (eval (.Name x pos) (compEnvC scope cl C env)) Q E s := wpAny_Name (wpAny_loadName_cell hk hl hc hv h) hd
theorem isDictOf_cls {prog : Program} {w : World} {K : Type} [DecidableEq K] {knd : KeyKind prog w K} {o : Obj} {kvs : List (K × Value)} (h : o.IsDictOf knd kvs) : o.cls = .type "dict" := by
  obtain ⟨es, ep, hx, _⟩ := h
  exact hx.1
theorem News.ne {h₀ h : Heap} {L a b : Addr} {o o' : Obj} {news : List (Addr × Obj)} (N : News h₀ L h news) (ha : (a, o) ∈ news) (hb : (b, o') ∈ news) (hc : o.cls ≠ o'.cls) : @Ne Nat a b := fun q => by
  have h1 := (N _ ha).1
  have h2 := (N _ hb).1
  have q' : (a, o).1 = (b, o').1 := q
  rw [q', h2] at h1
  exact hc (congrArg Obj.cls (Option.some.inj h1).symm)
theorem News.keep {h₀ h h' : Heap} {L : Addr} {news : List (Addr × Obj)} (N : News h₀ L h news) (hk : ∀ b o, h.get? b = some o → h'.get? b = some o) : News h₀ L h' news := fun p hp => ⟨hk _ _ (N p hp).1, (N p hp).2⟩
theorem News.sub {h₀ h : Heap} {L : Addr} {news news' : List (Addr × Obj)} (N : News h₀ L h news) (hs : ∀ p ∈ news', p ∈ news) : News h₀ L h news' := fun p hp => N p (hs p hp)
theorem News.add {h₀ h h' : Heap} {L D : Addr} {m : Str → Option Value} {o : Obj} {news : List (Addr × Obj)} (F : Fr h₀ L h m) (N : News h₀ L h news) (hk : ∀ b o, h.get? b = some o → h'.get? b = some o) (hD : h.get? D = none)
    (e : h'.get? D = some o) : News h₀ L h' ((D, o) :: news) := fun p hp => by
  rcases List.mem_cons.mp hp with rfl | hp
  · refine ⟨e, fun q => ?_, ?_⟩
    · obtain ⟨oL, _, _, hL, _⟩ := F.ns
      have q' : D = L := q
      rw [← q', hD] at hL; cases hL
    · cases z : h₀.get? D with
      | none => rfl
      | some o' => have := F.keep _ _ z; rw [hD] at this; cases this
  · exact ⟨hk _ _ (N p hp).1, (N p hp).2⟩
theorem News.off {h₀ h : Heap} {L D : Addr} {news : List (Addr × Obj)} (N : News h₀ L h news) (hD : h.get? D = none) : ∀ p ∈ news, p.1 ≠ D := fun p hp q => by
  have := (N p hp).1
  rw [q, hD] at this; cases this
theorem News.turn {h₀ h h' : Heap} {L d : Addr} {o o' : Obj} {news : List (Addr × Obj)} {g : Obj → List (Addr × Obj)} (N : News h₀ L h news) (U : UpdF d o news g) (hk : ∀ b o, h.get? b = some o → b ≠ d → h'.get? b = some o)
    (e : h'.get? d = some o') : News h₀ L h' (g o') := by
  obtain ⟨pre, post, rfl, hg, a, b⟩ := U.split
  rw [hg]
  intro p hp
  rcases List.mem_append.mp hp with hp | hp
  · have z := N p (List.mem_append_left _ hp)
    exact ⟨hk _ _ z.1 (a p hp), z.2⟩
  · rcases List.mem_cons.mp hp with rfl | hp
    · exact ⟨e, (N (d, o) (List.mem_append_right _ (.head _))).2⟩
    · have z := N p (List.mem_append_right _ (.tail _ hp))
      exact ⟨hk _ _ z.1 (b p hp), z.2⟩
noncomputable abbrev LY : List Str := looseW Mine.q39 [Str.ofString "Status", Str.ofString "_NoSynchronizers", Str.ofString "Transaction", Str.ofString "Savepoint", Str.ofString "TransactionManager"]
noncomputable abbrev LZ : List Str := LY ++ (recsOf Mine.q39).map (·.name) ++ (litsOf Mine.q39).map (·.1) ++ (clssOf Mine.q39 LY).map (·.name)

theorem notin_led {D : Addr} {led : List (Addr × Obj)} (h : ∀ p ∈ led, p.1 ≠ D) : D ∉ led.map (·.1) := fun hm => by
  obtain ⟨p, hp, e⟩ := List.mem_map.mp hm
  exact h p hp e
theorem eqN {a b : Nat} (h : a = b) : a = b := h
theorem not_in_heap {h g : Heap} {led : List (Addr × Obj)} {D : Addr} (hG : ∀ b o, h.get? b = some o → b ∉ led.map (·.1) → g.get? b = some o) (hg : g.get? D = none) (hl : D ∉ led.map (·.1)) : h.get? D = none := by
  cases q : h.get? D with
  | none => rfl
  | some o => have := hG D o q hl; rw [hg] at this; cases this

noncomputable def Claim (w : World) (D U : Nat) (f : Addr) (args : List Value) (led : List (Addr × Obj)) (mods : List Addr) (Pre : Heap → Prop) (Post : Heap → Value → Heap → Prop) : Prop :=
  ∀ (dp un : Nat) (gd : Option (List Code)) (cn : Str) (cs : Scope) (a : Addr) (ccd : Value) (cl : List (Str × Addr)) (outer : List Env) (A₀ : Around) (base h₀ : Heap) (L : Addr) (m mg mb : Str → Option Value)
    (mean : ExcName → Option Value) (s : Shared) (Q E : Value → Shared → Prop),
    Below A₀ base outer h₀ → Fr h₀ L s.heap m → (Mine.K39 w.params).In h₀ → News h₀ L s.heap led → Top topProg LZ mean mg mb h₀ → cs.kind = .function → dp + D < recursionLimit → un + U < cLine → Pre s.heap →
    (∀ v h' tk, (∀ b o, s.heap.get? b = some o → b ∉ mods → h'.get? b = some o) → Post s.heap v h' → Q v { s with heap := h', toks := tk }) →
    wpAny (model PySem.Challenge.rw_ac0032_01.row.prog w) (ktrTop dp un gd cn cs L a ccd cl outer) (call (.ref f) args) Q E s

theorem Claim.use {w : World} {D U : Nat} {f : Addr} {args : List Value} {led news : List (Addr × Obj)} {mods : List Addr} {Pre : Heap → Prop} {Post : Heap → Value → Heap → Prop} (C : Claim w D U f args led mods Pre Post)
    {dp un : Nat} {gd : Option (List Code)} {cn : Str} {cs : Scope} {a : Addr} {ccd : Value} {cl : List (Str × Addr)} {outer : List Env} {A₀ : Around} {base h₀ : Heap} {L : Addr} {m mg mb : Str → Option Value}
    {mean : ExcName → Option Value} {s : Shared} {Q E : Value → Shared → Prop} (B : Below A₀ base outer h₀) (F : Fr h₀ L s.heap m) (X : (Mine.K39 w.params).In h₀) (N : News h₀ L s.heap news) (T : Top topProg LZ mean mg mb h₀)
    (hk : cs.kind = .function) (sub : ∀ p ∈ led, p ∈ news) (hd : dp + D < recursionLimit) (hu : un + U < cLine) (pre : Pre s.heap)
    (k : ∀ v h' tk, (∀ b o, s.heap.get? b = some o → b ∉ mods → h'.get? b = some o) → Post s.heap v h' → Q v { s with heap := h', toks := tk }) :
    wpAny (model PySem.Challenge.rw_ac0032_01.row.prog w) (ktrTop dp un gd cn cs L a ccd cl outer) (call (.ref f) args) Q E s :=
  C dp un gd cn cs a ccd cl outer A₀ base h₀ L m mg mb mean s Q E B F X (News.sub N sub) T hk hd hu pre k

theorem Fr.turn {h₀ h h' : Heap} {L d : Addr} {m : Str → Option Value} (F : Fr h₀ L h m) (hd : d ≠ L) (h0 : h₀.get? d = none) (hk : ∀ b o, h.get? b = some o → b ≠ d → h'.get? b = some o) : Fr h₀ L h' m :=
  ⟨F.ns.at' fun o e => hk _ o e (Ne.symm hd), fun b o e => hk b o (F.keep b o e) (fun q => by rw [q, h0] at e; cases e), F.above⟩

theorem Fr.turns {h₀ h h' : Heap} {L : Addr} {m : Str → Option Value} {news : List (Addr × Obj)} {mods : List Addr} (F : Fr h₀ L h m) (N : News h₀ L h news) (hm : ∀ b ∈ mods, ∃ o, (b, o) ∈ news)
    (hk : ∀ b o, h.get? b = some o → b ∉ mods → h'.get? b = some o) : Fr h₀ L h' m :=
  ⟨F.ns.at' fun o e => hk _ o e (fun q => let ⟨_, z⟩ := hm _ q; (N _ z).2.1 rfl), fun b o e => hk b o (F.keep b o e) (fun q => by obtain ⟨_, z⟩ := hm _ q; have := (N _ z).2.2; rw [e] at this; cases this), F.above⟩
theorem News.turns {h₀ h h' : Heap} {L : Addr} {news : List (Addr × Obj)} {mods : List Addr} (news' : List (Addr × Obj)) (N : News h₀ L h news) (hk : ∀ b o, h.get? b = some o → b ∉ mods → h'.get? b = some o)
    (hl : ∀ p ∈ news', (p ∈ news ∧ p.1 ∉ mods) ∨ (h'.get? p.1 = some p.2 ∧ ∃ o, (p.1, o) ∈ news)) : News h₀ L h' news' := fun p hp => by
  rcases hl p hp with ⟨h1, h2⟩ | ⟨h1, o, h2⟩
  · exact ⟨hk _ _ (N p h1).1 h2, (N p h1).2⟩
  · exact ⟨h1, (N _ h2).2⟩
theorem notin_nil {a : Nat} : a ∉ ([] : List Addr) := List.not_mem_nil
theorem notin_cons {a b : Nat} {l : List Addr} (h : @Ne Nat a b) (hl : a ∉ l) : a ∉ (b :: l : List Addr) := fun q => by
  rcases List.mem_cons.mp q with q | q
  · exact h q
  · exact hl q
end Mine
end
local macro_rules | `(tactic| k_mem) => `(tactic| first | exact Mine.in0 | exact Mine.in1 | exact Mine.in2 | exact Mine.in3 | exact Mine.in4 | exact Mine.in5 | exact Mine.in6 | exact Mine.in7 | exact Mine.in8 | exact Mine.in9 | exact Mine.in10)
local macro_rules | `(tactic| k_ne) => `(tactic| (refine PySem.W.neN ?_; (try dsimp only); first | with_reducible assumption | exact Ne.symm (by with_reducible assumption) | exact Nat.ne_of_lt (by with_reducible assumption) | exact Nat.ne_of_gt (by with_reducible assumption) | omega))
section
open PySem PySem.W PyProof.Rows PySem.Calls PySem.Spec
namespace Mine
noncomputable abbrev setLed (S SD DL : Addr) (hh : Int) (t1 : Tok) (vs : List Value) (n2 : Nat) : List (Addr × Obj) :=
  [(S, instObj 83 SD), (SD, dictOf [⟨hh, .str (Str.ofString "data") t1, .ref DL⟩] 1), (DL, listOf vs.toArray n2)]
noncomputable def Stand (vs : List Value) (h : Heap) : Prop := ∀ v ∈ vs, ∃ a o, v = .ref a ∧ h.get? a = some o ∧ o.cls ≠ .type "tuple"
theorem Stand.keeps {vs : List Value} {h h' : Heap} (S : Stand vs h) (hk : ∀ b o, h.get? b = some o → h'.get? b = some o) : Stand vs h' := fun v hv => let ⟨a, o, e, g, c⟩ := S v hv; ⟨a, o, e, hk _ _ g, c⟩
theorem is_stand {M : Model} {A : Around} {E : Value → Shared → Prop} {s : Shared} {x : Addr} {v : Value} {Q : Value → Shared → Prop} (hv : Stand [v] s.heap) (hx : Stand [.ref x] s.heap) (h : Q (.bool (v == .ref x)) s) :
    wpAny M A (compareOp .Is v (.ref x)) Q E s := by
  obtain ⟨a, o, rfl, g, c⟩ := hv v (.head _)
  obtain ⟨a', o', e', g', c'⟩ := hx (.ref x) (.head _)
  cases e'
  by_cases hax : a = x
  · subst hax
    refine wpAny_is_ref_self ?_
    rw [beq_self_eq_true] at h; exact h
  · refine wpAny_is_ref_other hax g g' c ?_
    rw [beq_eq_false_iff_ne.mpr (fun q => hax (Value.ref.inj q))] at h; exact h
theorem isNot_stand {M : Model} {A : Around} {E : Value → Shared → Prop} {s : Shared} {x : Addr} {v : Value} {Q : Value → Shared → Prop} (hv : Stand [v] s.heap) (hx : Stand [.ref x] s.heap) (h : Q (.bool (!(v == .ref x))) s) :
    wpAny M A (compareOp .IsNot v (.ref x)) Q E s := by
  obtain ⟨a, o, rfl, g, c⟩ := hv v (.head _)
  obtain ⟨a', o', e', g', c'⟩ := hx (.ref x) (.head _)
  cases e'
  by_cases hax : a = x
  · subst hax
    refine wpAny_isNot_ref_self ?_
    rw [beq_self_eq_true] at h; exact h
  · refine wpAny_isNot_ref_other hax g g' c ?_
    rw [beq_eq_false_iff_ne.mpr (fun q => hax (Value.ref.inj q))] at h; exact h
theorem Stand.one {vs : List Value} {h : Heap} (S : Stand vs h) {v : Value} (hv : v ∈ vs) : Stand [v] h := fun u hu => by rw [List.mem_singleton.mp hu]; exact S v hv
theorem Stand.tail {v : Value} {vs : List Value} {h : Heap} (S : Stand (v :: vs) h) : Stand vs h := fun u hu => S u (.tail _ hu)
theorem fits8 {n : Nat} (h : n ≤ 8) : n ≤ sizeLine := Nat.le_trans h (by decide)
theorem boolsAre_map (f : Value → Bool) : ∀ vs : List Value, LSm.BoolsAre (vs.map fun v => Value.bool (f v)) (vs.map f)
  | [] => .nil
  | _ :: r => .cons _ (boolsAre_map f r)
theorem filter_true (vs : List Value) : vs.filter (fun _ => true) = vs := List.filter_eq_self.mpr fun _ _ => rfl

local macro_rules | `(tactic| walk_at "eval ListComp") => `(tactic| (refine hold ?_))
local macro_rules | `(tactic| walk_at "pyIter ref") => `(tactic| (refine hold ?_))
local macro_rules | `(tactic| walk_at "call builtin:any") => `(tactic| (refine hold ?_))
theorem contains_c {w : World} (S SD DL x : Addr) (hh : Int) (t1 : Tok) (n2 : Nat) (vs : List Value) (hl : vs.length ≤ 8) :
    Claim w 20 100 47 [.ref S, .ref x] (setLed S SD DL hh t1 vs n2) [] (Stand (.ref x :: vs)) (fun _ v _ => v = .bool (vs.any (· == .ref x))) := by
  unfold Claim setLed
  k_fill
  intro dp un gd cn cs a ccd cl outer A₀ base h₀ L m mg mb mean s Q E B F X N T hk hd hu hpre hret
  refine wpAny_call ?_
  k_dflt (refine' enter_cells (binds := [(Str.ofString "self", .ref S), (Str.ofString "obj", .ref x)]) B F X N T rfl rfl hk (by k_is) (by k_is) ?hr (BindsTo.of_eq rfl) ?kB ?kD ?_ rfl rfl rfl)
  case hr => exact Nat.lt_of_le_of_lt (Nat.le_add_right _ _) hd
  case kB => exact rfl
  case kD => decide +kernel
  intro g' L' h' tk' cells' hG hup l1 FG' F' N' Y' B' X' T'
  refine wpAny_hide ?_
  intro QF EF hQF hEF
  have hS := Stand.keeps hpre hup
  k_lt l1
  k_cells Y'
  simp only [List.cons_append, List.nil_append] at N'
  try dsimp only
  k_steps
  refine Hold.out (wpAny_ListComp_free (fun _ => true) (fun v y => y = (fun u : Value => Value.bool (u == Value.ref x)) v) (by with_unfolding_all rfl) (by decide) (by rfl) (by decide) (by rfl) ?_)
  k_steps
  refine Hold.out (lc_S (vs := vs) rfl ?hl (fits8 hl) (fun _ _ _ _ _ _ _ _ _ => wpAny_tests_nil ⟨rfl, _, _, rfl, fun _ _ e => e⟩) ?_ ?_)
  case hl => exact News.isList (n := n2) (d := none) (sl := #[]) N' (by k_mem)
  · intro C v s₃ m₃ E' hv _ hn hm hk'
    refine wpAny_Compare1 (ldVarK hn hm (ldCellK (c := L' + 1) rfl ⟨_, hk' _ _ (N'.get (by k_mem)), by assumption⟩ ?_))
    exact is_stand ((hS.tail.one hv).keeps hk') ((hS.one (.head _)).keeps hk') ⟨rfl, _, _, rfl, fun _ _ e => e⟩
  · intro D h₂ tk₂ hD hk₂ hpl
    obtain ⟨c₂, hD₂⟩ := hpl
    have N₂ := News.add F' N' hk₂ hD hD₂
    have F₂ := F'.keeps hk₂
    clear F' N'
    k_steps
    refine Hold.out (LSm.any_bools (bs := vs.map (· == .ref x)) F₂ N₂ rfl (News.isList N₂ (by k_mem)) (by rw [filter_true]; exact boolsAre_map _ _) ?_)
    intro h₃ tk₃ F₃ N₃
    k_steps
    refine hQF _ _ ?_
    refine leaveK_ (by assumption) (by assumption) fun _ _ => ?_
    refine hret _ _ _ (kept_end N hG F₃.keep ?_) ?_
    · exact (fa3 (fun _ => N₃.get (by k_mem)) (fun _ => N₃.get (by k_mem)) (fun _ => N₃.get (by k_mem)))
    · rw [List.any_map]; rfl

local macro_rules | `(tactic| walk_at "call ref") => `(tactic| (refine hold ?_))
theorem add_c {w : World} (S SD DL x : Addr) (hh : Int) (t1 : Tok) (n2 : Nat) (vs : List Value) (hl : vs.length ≤ 8) :
    Claim w 40 200 54 [.ref S, .ref x] (setLed S SD DL hh t1 vs n2) [DL] (Stand (.ref x :: vs)) (fun _ v h' => v = .none ∧ ∃ n', h'.get? DL = some (listOf (if vs.any (· == .ref x) then vs else vs ++ [.ref x]).toArray n')) := by
  unfold Claim setLed
  k_fill
  intro dp un gd cn cs a ccd cl outer A₀ base h₀ L m mg mb mean s Q E B F X N T hk hd hu hpre hret
  refine wpAny_call ?_
  k_dflt (refine' enter_plain (binds := [(Str.ofString "self", .ref S), (Str.ofString "obj", .ref x)]) B F X N T rfl rfl hk (by k_is) (by k_is) ?hr (BindsTo.of_eq rfl) (locs rfl) ?_ rfl rfl rfl (by decide))
  case hr => exact Nat.lt_of_le_of_lt (Nat.le_add_right _ _) hd
  intro g' L' h' hG hup l1 FG' F' N' B' X' T'
  refine wpAny_hide ?_
  intro QF EF hQF hEF
  have hS := Stand.keeps hpre hup
  k_lt l1
  try dsimp only
  k_steps
  refine Hold.out (Claim.use (contains_c S SD DL x hh t1 n2 vs hl) B' F' X' N' T' rfl ?sub ?hd ?hu hS ?k)
  case sub => exact fun _ h => h
  case hd => dsimp only [Around.deeper, ktrTop]; first | exact room2 hd (by decide) | exact room2 hu (by decide) | omega
  case hu => dsimp only [Around.deeper, ktrTop]; first | exact room2 hd (by decide) | exact room2 hu (by decide) | omega
  case k =>
    rintro v h₂ tk₂ hk₂ rfl
    have N₂ := News.keep N' fun b o e => hk₂ b o e List.not_mem_nil
    have F₂ := F'.keeps fun b o e => hk₂ b o e List.not_mem_nil
    clear F' N'
    cases hb : vs.any (· == .ref x) with
    | true =>
      k_steps
      refine hQF _ _ ?_
      refine leaveK_ (by assumption) (by assumption) fun _ _ => ?_
      refine hret _ _ _ (kept_end N hG F₂.keep ?_) ⟨rfl, n2, ?_⟩
      · exact (fa3 (fun _ => N₂.get (by k_mem)) (fun _ => N₂.get (by k_mem)) (fun _ => N₂.get (by k_mem)))
      · simp only [hb, if_true]; exact N₂.get (by k_mem)
    | false =>
      k_steps
      have e1 : @Ne Nat S DL := News.ne N₂ (by k_mem) (by k_mem) (fun q => by cases q)
      have e2 : @Ne Nat SD DL := News.ne N₂ (by k_mem) (by k_mem) (fun q => absurd (Value.type.inj q) (by decide))
      refine append_K F₂ N₂ (by k_upd) ?_ (by show vs.toArray.size ≤ sizeLine; rw [List.size_toArray]; exact fits8 hl)
      intro h₃ F₃ N₃
      k_steps
      refine hQF _ _ ?_
      refine leaveK_ (by assumption) (by assumption) fun _ _ => ?_
      refine hret _ _ _ (kept_end N hG F₃.keep ?_) ⟨rfl, n2 + 1, ?_⟩
      · exact (fa3 (fun _ => N₃.get (by k_mem)) (fun _ => N₃.get (by k_mem)) (fun q => absurd (List.mem_singleton.mpr rfl) q))
      · have := N₃.get (a := DL) (by k_mem)
        rw [this]
        simp only [hb, Bool.false_eq_true, if_false]
        rw [List.push_toArray]
end Mine
end
section
open PySem PySem.W PyProof.Rows PySem.Calls PySem.Spec
namespace Mine
theorem clear_L {prog : Program} {w : World} {A : Around} {E : Value → Shared → Prop} {s : Shared} {h₀ : Heap} {L D : Addr} {m : Str → Option Value} {news : List (Addr × Obj)} {g : Obj → List (Addr × Obj)} {its : Array Value} {n : Nat} {Q : Value → Shared → Prop}
    (F : Fr h₀ L s.heap m) (N : News h₀ L s.heap news) (hm : (D, listOf its n) ∈ news) (U : UpdF D (listOf its n) news g) (hz : its.size ≤ sizeLine)
    (h : ∀ h' n', Fr h₀ L h' m → News h₀ L h' (g (listOf #[] n')) → Q .none { s with heap := h' }) : wpAny (model prog w) A (call (.builtin "list.clear") [.ref D]) Q E s := by
  have z := N _ hm
  have hs : Heap.SameBut D s.heap (s.heap.update D (Obj.mapSeq fun _ => #[])) := Heap.SameBut.update ..
  have e : (s.heap.update D (Obj.mapSeq fun _ => #[])).get? D = some (listOf #[] (if (#[] : Array Value).size == its.size then n else n + 1)) := Heap.get?_update_self _ z.1 rfl
  exact call_meets PySem.F.slot_list_clear ⟨_, z.1, rfl⟩ PySem.F.entry_list_clear (PySem.F.args_list_clear_1 _) (PySem.AutoSeq1.list_clear_list_0 D its n hz)
    ⟨z.1, h _ _ (F.change hs z.2.1 z.2.2) (News.turn N U (fun b o q hb => hs.extBut b o hb q) e)⟩
section
local macro_rules | `(tactic| walk_at "call builtin:len") => `(tactic| (refine hold ?_))
theorem len_c {w : World} (S SD DL : Addr) (hh : Int) (t1 : Tok) (n2 : Nat) (vs : List Value) (hl : vs.length ≤ 8) :
    Claim w 20 100 42 [.ref S] (setLed S SD DL hh t1 vs n2) [] (fun _ => True) (fun _ v _ => ∃ t, v = .int vs.length t) := by
  unfold Claim setLed
  k_fill
  intro dp un gd cn cs a ccd cl outer A₀ base h₀ L m mg mb mean s Q E B F X N T hk hd hu _ hret
  refine wpAny_call ?_
  k_dflt (refine' enter_plain (binds := [(Str.ofString "self", .ref S)]) B F X N T rfl rfl hk (by k_is) (by k_is) ?hr (BindsTo.of_eq rfl) (locs rfl) ?_ rfl rfl rfl (by decide))
  case hr => exact Nat.lt_of_le_of_lt (Nat.le_add_right _ _) hd
  intro g' L' h' hG hup l1 FG' F' N' B' X' T'
  refine wpAny_hide ?_
  intro QF EF hQF hEF
  k_lt l1
  try dsimp only
  k_steps
  refine Hold.out (len_list (News.isList (n := n2) (d := none) (sl := #[]) (items := vs.toArray) N' (by k_mem)) (by rw [List.size_toArray]; omega) ?_)
  k_steps
  refine hQF _ _ ?_
  refine leaveK_ (by assumption) (by assumption) fun _ _ => ?_
  refine hret _ _ _ (kept_end N hG F'.keep ?_) ⟨_, rfl⟩
  exact (fa3 (fun _ => N'.get (by k_mem)) (fun _ => N'.get (by k_mem)) (fun _ => N'.get (by k_mem)))
end
section
local macro_rules | `(tactic| walk_at "call builtin:list.clear") => `(tactic| (refine hold ?_))
local macro_rules | `(tactic| walk_at "pad") => `(tactic| skip)
theorem clear_c {w : World} (S SD DL : Addr) (hh : Int) (t1 : Tok) (n2 : Nat) (vs : List Value) (hl : vs.length ≤ 8) :
    Claim w 20 100 66 [.ref S] (setLed S SD DL hh t1 vs n2) [DL] (fun _ => True) (fun _ v h' => v = .none ∧ ∃ n', h'.get? DL = some (listOf #[] n')) := by
  unfold Claim setLed
  k_fill
  intro dp un gd cn cs a ccd cl outer A₀ base h₀ L m mg mb mean s Q E B F X N T hk hd hu _ hret
  refine wpAny_call ?_
  k_dflt (refine' enter_plain (binds := [(Str.ofString "self", .ref S)]) B F X N T rfl rfl hk (by k_is) (by k_is) ?hr (BindsTo.of_eq rfl) (locs rfl) ?_ rfl rfl rfl (by decide))
  case hr => exact Nat.lt_of_le_of_lt (Nat.le_add_right _ _) hd
  intro g' L' h' hG hup l1 FG' F' N' B' X' T'
  refine wpAny_hide ?_
  intro QF EF hQF hEF
  k_lt l1
  try dsimp only
  k_steps
  have e1 : @Ne Nat S DL := News.ne N' (by k_mem) (by k_mem) (fun q => by cases q)
  have e2 : @Ne Nat SD DL := News.ne N' (by k_mem) (by k_mem) (fun q => absurd (Value.type.inj q) (by decide))
  refine Hold.out (clear_L F' N' (by k_mem) (by k_updF) (by rw [List.size_toArray]; exact fits8 hl) ?_)
  intro h₃ n₃ F₃ N₃
  k_steps
  refine hQF _ _ ?_
  refine leaveK_ (by assumption) (by assumption) fun _ _ => ?_
  refine hret _ _ _ (kept_end N hG F₃.keep ?_) ⟨rfl, n₃, N₃.get (by k_mem)⟩
  exact (fa3 (fun _ => N₃.get (by k_mem)) (fun _ => N₃.get (by k_mem)) (fun q => absurd (List.mem_singleton.mpr rfl) q))
end
end Mine
end
section
open PySem PySem.W PyProof.Rows PySem.Calls PySem.Spec PyProof.V
namespace Mine
noncomputable abbrev worldKvs (TH S IN O DD : Addr) (c : Int) (tc : Tok) : List (Str × Value) :=
  [(Str.ofString "things", .ref TH), (Str.ofString "set", .ref S), (Str.ofString "in", .ref IN), (Str.ofString "owner", .ref O), (Str.ofString "data", .ref DD), (Str.ofString "count", .int c tc)]
theorem item_L {prog : Program} {w : World} {A : Around} {E : Value → Shared → Prop} {s : Shared} {h₀ : Heap} {L l : Addr} {news : List (Addr × Obj)} {vs : List Value} {n : Nat} {k : Int} {u : Tok} {x : Value} {value slice : Expr} {Q : Value → Shared → Prop}
    (N : News h₀ L s.heap news) (hm : (l, listOf vs.toArray n) ∈ news) (h0 : 0 ≤ k) (hk : k < 8) (hx : vs[k.toNat]? = some x) (h : Q x s)
    (hs : subscripted slice false (.ref l) (.int k u) = operate [.ref l, .int k u] (getItem (.ref l) (.int k u)) := by with_unfolding_all rfl) (hg : ∀ r, letTemporaryGo value (.ref l) r = pure () := by intro _; with_unfolding_all rfl) :
    wpAny (model prog w) A (subscriptTail value slice (.ref l) (.int k u)) Q E s := item_list (News.isList N hm) h0 (by omega) (by simpa using hx) h hs hg
local macro_rules | `(tactic| walk_at "subscriptTail") => `(tactic| (k_here; (try dsimp only); (with_reducible show wpAny _ _ (subscriptTail _ _ (Value.ref _) (Value.int _ _)) _ _ _); k_dflt (refine item_L (by k_asm) (by k_mem) (by assumption) (by assumption) (by assumption) ?_)))
section
local macro_rules | `(tactic| walk_at "call ref") => `(tactic| (refine hold ?_))
local macro_rules | `(tactic| walk_at "pad") => `(tactic| skip)
theorem put_c {w : World} (W TH S SD DL IN O DD x : Addr) (oW : Obj) (c : Int) (tc : Tok) (hh : Int) (t1 : Tok) (n2 n3 n4 : Nat) (ths vs is : List Value) (ns : List Int) (k : Int) (tk : Tok) (hl : vs.length ≤ 8) (hln : ns.length ≤ 8)
    (hW : oW.IsDictOf (strKind PySem.Challenge.rw_ac0032_01.row.prog w) (worldKvs TH S IN O DD c tc)) (hi : IntsAre is ns) (hk0 : 0 ≤ k) (hk8 : k < 8) (hx : ths[k.toNat]? = some (.ref x))
    (e1 : @Ne Nat W SD) (e2 : @Ne Nat DL TH) (e3 : @Ne Nat DL IN) :
    Claim w 80 400 837 [.ref W, .int k tk] ((W, oW) :: (TH, listOf ths.toArray n3) :: (IN, listOf is.toArray n4) :: setLed S SD DL hh t1 vs n2) [W, DL] (Stand (.ref x :: vs)) (fun h v h' => v = .none ∧
      (∃ n', h'.get? DL = some (listOf (if vs.any (· == .ref x) then vs else vs ++ [.ref x]).toArray n')) ∧
      ∃ oW' IN' is' n', h'.get? W = some oW' ∧ oW'.IsDictOf (strKind PySem.Challenge.rw_ac0032_01.row.prog w) (worldKvs TH S IN' O DD c tc) ∧ (IN' = IN ∨ h.get? IN' = none) ∧ h'.get? IN' = some (listOf is'.toArray n') ∧
        IntsAre is' (if ns.any (· == k) then ns else ns ++ [k])) := by
  unfold Claim setLed
  k_fill
  intro dp un gd cn cs a ccd cl outer A₀ base h₀ L m mg mb mean s Q E B F X N T hk hd hu hpre hret
  refine wpAny_call ?_
  k_dflt (refine' enter_plain (binds := [(Str.ofString "world", .ref W), (Str.ofString "k", .int k tk)]) B F X N T rfl rfl hk (by k_is) (by k_is) ?hr (BindsTo.of_eq rfl) (locs rfl) ?_ rfl rfl rfl (by decide))
  case hr => exact Nat.lt_of_le_of_lt (Nat.le_add_right _ _) hd
  intro g' L' h' hG hup l1 FG' F' N' B' X' T'
  refine wpAny_hide ?_
  intro QF EF hQF hEF
  have hS := Stand.keeps hpre hup
  k_lt l1
  try dsimp only
  k_steps
  have f1 : @Ne Nat W DL := News.ne N' (by k_mem) (by k_mem) (by rw [isDictOf_cls hW]; intro q; exact absurd (Value.type.inj q) (by decide))
  have f4 : @Ne Nat TH W := News.ne N' (by k_mem) (by k_mem) (by rw [isDictOf_cls hW]; intro q; exact absurd (Value.type.inj q) (by decide))
  have f5 : @Ne Nat IN W := News.ne N' (by k_mem) (by k_mem) (by rw [isDictOf_cls hW]; intro q; exact absurd (Value.type.inj q) (by decide))
  have f6 : @Ne Nat S W := News.ne N' (by k_mem) (by k_mem) (by rw [isDictOf_cls hW]; intro q; cases q)
  have f2 : @Ne Nat S DL := News.ne N' (by k_mem) (by k_mem) (fun q => by cases q)
  have f3 : @Ne Nat SD DL := News.ne N' (by k_mem) (by k_mem) (fun q => absurd (Value.type.inj q) (by decide))
  refine Hold.out (Claim.use (add_c S SD DL x hh t1 n2 vs hl) B' F' X' N' T' rfl ?sub ?hd ?hu hS ?k)
  case sub => exact (fa3 (by k_mem) (by k_mem) (by k_mem))
  case hd => dsimp only [Around.deeper, ktrTop]; first | exact room2 hd (by decide) | exact room2 hu (by decide) | omega
  case hu => dsimp only [Around.deeper, ktrTop]; first | exact room2 hd (by decide) | exact room2 hu (by decide) | omega
  case k =>
    rintro v h₂ tk₂ hk₂ ⟨rfl, n', hD⟩
    have hk₂' := fun b o e (q : b ≠ DL) => hk₂ b o e (fun z => q (List.mem_singleton.mp z))
    have N₂ := News.turn N' (by k_updF) hk₂' hD
    have F₂ := Fr.turn F' (N' (DL, listOf vs.toArray n2) (by k_mem)).2.1 (N' (DL, listOf vs.toArray n2) (by k_mem)).2.2 hk₂'
    clear F' N'
    try dsimp only at N₂
    generalize hvs : (if vs.any (· == .ref x) then vs else vs ++ [.ref x]) = vs' at N₂
    k_steps
    · rename ns.any _ = true => hc
      refine hQF _ _ ?_
      refine leaveK_ (by assumption) (by assumption) fun _ _ => ?_
      refine hret _ _ _ (kept_end N hG F₂.keep ?_) ⟨rfl, ⟨n', ?_⟩, oW, IN, is, n4, N₂.get (by k_mem), hW, .inl rfl, N₂.get (by k_mem), ?_⟩
      · refine (fa6 (fun _ => N₂.get (by k_mem)) (fun _ => N₂.get (by k_mem)) (fun _ => N₂.get (by k_mem)) (fun _ => N₂.get (by k_mem)) (fun _ => N₂.get (by k_mem)) (fun q => absurd (in1) q))
      · rw [hvs]; exact N₂.get (by k_mem)
      · rw [hc]; exact hi
    · rename ns.any _ = false => hc
      rename News g' L' _ _ => N₃
      rename Fr g' L' _ _ => F₃
      rename IntsAre _ (ns ++ [k]) => hi₃
      rename Obj.IsDictOf _ _ _ => hd₃
      refine hQF _ _ ?_
      refine leaveK_ (by assumption) (by assumption) fun _ _ => ?_
      refine hret _ _ _ (kept_end N hG F₃.keep ?_) ⟨rfl, ⟨n', ?_⟩, _, _, _, _, N₃.get (in2), hd₃, .inr (not_in_heap hG (N₃.fresh (.head _)) ?_), N₃.get (.head _), ?_⟩
      · refine (fa6 (fun q => absurd (.head _) q) (fun _ => N₃.get (by k_mem)) (fun _ => N₃.get (by k_mem)) (fun _ => N₃.get (by k_mem)) (fun _ => N₃.get (by k_mem)) (fun q => absurd (in1) q))
      · rw [hvs]; exact N₃.get (by k_mem)
      · exact notin_led (by k_all)
      · rw [hc]; exact hi₃
end
end Mine
end
section
open PySem PySem.W PyProof.Rows PySem.Calls PySem.Spec PyProof.V
namespace Mine
noncomputable abbrev ent (w : World) (x : String) (t : Tok) (v : Value) : DictEntry := ⟨PyData.keyHash w.params (Str.ofString x), .str (Str.ofString x) t, v⟩
noncomputable abbrev ownerLed (w : World) (O OD S2 : Nat) (txn : Value) (t1 t2 t3 : Tok) : List (Addr × Obj) :=
  [(O, instObj 814 OD), (OD, dictOf [ent w "explicit" t1 (.bool false), ent w "_txn" t2 txn, ent w "_synchs" t3 (.ref S2)] 3)]
structure Tst where
  T : Nat
  TD : Nat
  R : Nat
  V : Nat
  B1 : Nat
  A1 : Nat
  B2 : Nat
  A2 : Nat
  AD : Nat
  EX : Nat
  t0 : Nat
  t1 : Nat
  t2 : Nat
  t3 : Nat
  t4 : Nat
  t5 : Nat
  t6 : Nat
  t7 : Nat
  t8 : Nat
  t9 : Nat
  t10 : Nat
  t11 : Nat
noncomputable abbrev Tst.ents (st : Tst) (w : World) (S2 : Nat) (sv mv : Value) (more : List DictEntry) : List DictEntry :=
  ent w "status" st.t0 sv :: ent w "_resources" st.t1 (.ref st.R) :: ent w "_synchronizers" st.t2 (.ref S2) :: ent w "_manager" st.t3 mv ::
  ent w "_adapters" st.t4 (.ref st.AD) :: ent w "_voted" st.t5 (.ref st.V) :: ent w "extension" st.t6 (.ref st.EX) :: ent w "_failure_traceback" st.t7 .none ::
  ent w "_before_commit" st.t8 (.ref st.B1) :: ent w "_after_commit" st.t9 (.ref st.A1) :: ent w "_before_abort" st.t10 (.ref st.B2) :: ent w "_after_abort" st.t11 (.ref st.A2) :: more
noncomputable abbrev active : Value := .str (Str.ofString "Active") 411
noncomputable abbrev Tst.led (st : Tst) (w : World) (S2 : Nat) (sv mv : Value) (more : List DictEntry) (n : Nat) : List (Addr × Obj) :=
  [(st.T, instObj 542 st.TD), (st.TD, dictOf (st.ents w S2 sv mv more) n), (st.R, listOf #[] 0), (st.V, listOf #[] 0), (st.B1, listOf #[] 0), (st.A1, listOf #[] 0), (st.B2, listOf #[] 0), (st.A2, listOf #[] 0)]
structure Tst.Chain (st : Tst) : Prop where
  c1 : st.TD < st.T
  c2 : st.T < st.R
  c3 : st.R < st.V
  c4 : st.V < st.B1
  c5 : st.B1 < st.A1
  c6 : st.A1 < st.B2
  c7 : st.B2 < st.A2
noncomputable def Holds (h : Heap) (l : List (Addr × Obj)) : Prop := ∀ p ∈ l, h.get? p.1 = some p.2
end Mine
end
section
open PySem PySem.W PyProof.Rows PySem.Calls PySem.Spec PyProof.V
namespace Mine
noncomputable def NoRef (es : List DictEntry) : Prop := es.any (·.refKey) = false
theorem NoRef.get {es : List DictEntry} (h : NoRef es) (x : Str) : (getL x es).isSome = true := by
  unfold getL
  cases es.find? (·.key.isStr x) with
  | some e => rfl
  | none => rw [show es.any (·.refKey) = false from h]; rfl
theorem NoRef.put {es : List DictEntry} (h : NoRef es) (x y : Str) (hs : Int) (t : Nat) (v : Value) : NoRef (putL x hs (.str y t) v es) := by
  induction es with
  | nil => rfl
  | cons e r ih =>
    unfold NoRef at h
    rw [List.any_cons, Bool.or_eq_false_iff] at h
    unfold putL
    split
    · unfold NoRef; rw [List.any_cons, h.2, show (DictEntry.mk e.hash e.key v).refKey = false from h.1]; rfl
    · unfold NoRef; rw [List.any_cons, h.1, ih h.2]; rfl
theorem len_put (x : Str) (hs : Int) (k v : Value) : ∀ es : List DictEntry, (putL x hs k v es).length ≤ es.length + 1
  | [] => Nat.le_refl _
  | e :: r => by
    unfold putL
    split
    · exact Nat.le_succ _
    · exact Nat.succ_le_succ (len_put x hs k v r)
theorem UpdF.upd {d : Addr} {o : Obj} (o' : Obj) : ∀ {l : List (Addr × Obj)} {g : Obj → List (Addr × Obj)}, UpdF d o l g → Upd d o o' l (g o')
  | _, _, .head h => .head h
  | _, _, .tail h r => .tail h (UpdF.upd o' r)
theorem set_dict_o {prog : Program} {w : World} {A : Around} {E : Value → Shared → Prop} {s : Shared} {K : Frag} {x C dx L : Addr} {h₀ : Heap} {m : Str → Option Value} {news : List (Addr × Obj)} {g : Obj → List (Addr × Obj)} {ox : Obj} {es : List DictEntry} {n : Nat} {name : Str} {v : Value} {Q : Unit → Shared → Prop}
    (F : Fr h₀ L s.heap m) (X₀ : K.In h₀) (N : News h₀ L s.heap news) (I : InstAt s.heap x ox C (some (dictOf es n))) (hd : ox.dict = some dx)
    (hs : findIn K (.ref C) "__setattr__" = some (some (.builtin "object.__setattr__"))) (hp : plainOver K C = true) (ht : takerIn K C name = some none) (hh : hasDictIn K C = true) (hr : NoRef es) (U : UpdF dx (dictOf es n) news g) {k : Nat} (hz : es.length ≤ k) (hk : k + 1 ≤ 1000)
    (h : ∀ h' es' n', es' = putL name (PyData.keyHash w.params name) (.str name (s.toks + 1)) v es → n' = putN name es n → NoRef es' → es'.length ≤ k + 1 → Fr h₀ L h' m → News h₀ L h' (g (dictOf es' n')) → Q () { s with heap := h', toks := s.toks + 2 }) :
    wpAny (model prog w) A (setAttr (.ref x) name v) Q E s :=
  set_dict F X₀ N I hd hs hp ht hh (hr.get _) rfl (UpdF.upd _ U) (Nat.le_trans (len_put _ _ _ _ _) (Nat.le_trans (Nat.succ_le_succ hz) hk)) fun h' F' N' => h h' _ _ rfl rfl (hr.put _ _ _ _ _) (Nat.le_trans (len_put _ _ _ _ _) (Nat.succ_le_succ hz)) F' N'
end Mine
end
section
open PySem PySem.W PyProof.Rows PySem.Calls PySem.Spec PyProof.V
namespace Mine
theorem allLt_mem {d : Addr} {l : List (Addr × Obj)} (h : AllLt d l) : ∀ p ∈ l, @LT.lt Nat _ p.1 d := by
  induction l with
  | nil => exact fun _ hp => nomatch hp
  | cons q r ih => exact fun p hp => (List.mem_cons.mp hp).elim (fun e => e ▸ h.1) (ih h.2 p)
theorem allLt_lt {d x : Nat} {o : Obj} {l : List (Addr × Obj)} (h : AllLt d l) (hp : (x, o) ∈ l) : @LT.lt Nat _ x d := allLt_mem h _ hp
theorem allLt_ne {d x : Nat} {o : Obj} {l : List (Addr × Obj)} (h : AllLt d l) (hp : (x, o) ∈ l) : x ≠ d := Nat.ne_of_lt (allLt_mem h _ hp)
theorem lt_via {a d x : Nat} (h2 : @LT.lt Nat _ d x) (h1 : @LT.lt Nat _ a d) : @LT.lt Nat _ a x := Nat.lt_trans h1 h2
noncomputable abbrev Tst.lists (st : Tst) : List (Addr × Obj) := [(st.R, listOf #[] 0), (st.V, listOf #[] 0), (st.B1, listOf #[] 0), (st.A1, listOf #[] 0), (st.B2, listOf #[] 0), (st.A2, listOf #[] 0)]
theorem mk_txn {w : World} {g h : Heap} {L S2 O T TD R V B1 A1 B2 A2 AD EX t0 t1 t2 t3 t4 t5 t6 t7 t8 t9 t10 t11 : Nat} {oE oA : Obj}
    (N : News g L h [(A2, listOf #[] 0), (B2, listOf #[] 0), (A1, listOf #[] 0), (B1, listOf #[] 0), (EX, oE), (V, listOf #[] 0), (AD, oA), (R, listOf #[] 0), (T, instObj 542 TD),
      (TD, dictOf (Tst.ents ⟨T, TD, R, V, B1, A1, B2, A2, AD, EX, t0, t1, t2, t3, t4, t5, t6, t7, t8, t9, t10, t11⟩ w S2 active (.ref O) []) 12)])
    (c1 : TD < T) (c2 : T < R) (c3 : R < V) (c4 : V < B1) (c5 : B1 < A1) (c6 : A1 < B2) (c7 : B2 < A2) :
    ∃ st : Tst, st.T = T ∧ st.TD = TD ∧ st.Chain ∧ Holds h (st.led w S2 active (.ref O) [] 12) ∧ ∀ p ∈ st.lists, g.get? p.1 = none := by
  have k : ∀ {i : Nat} {p : Addr × Obj}, [(A2, listOf #[] 0), (B2, listOf #[] 0), (A1, listOf #[] 0), (B1, listOf #[] 0), (EX, oE), (V, listOf #[] 0), (AD, oA), (R, listOf #[] 0), (T, instObj 542 TD),
      (TD, dictOf (Tst.ents ⟨T, TD, R, V, B1, A1, B2, A2, AD, EX, t0, t1, t2, t3, t4, t5, t6, t7, t8, t9, t10, t11⟩ w S2 active (.ref O) []) 12)][i]? = some p → h.get? p.1 = some p.2 ∧ g.get? p.1 = none := fun e => ⟨(N _ (List.mem_of_getElem? e)).1, (N _ (List.mem_of_getElem? e)).2.2⟩
  refine ⟨⟨T, TD, R, V, B1, A1, B2, A2, AD, EX, t0, t1, t2, t3, t4, t5, t6, t7, t8, t9, t10, t11⟩, rfl, rfl, ⟨c1, c2, c3, c4, c5, c6, c7⟩, fun p hp => ?_, fun p hp => ?_⟩
  · simp only [List.mem_cons, List.not_mem_nil, or_false] at hp
    rcases hp with rfl | rfl | rfl | rfl | rfl | rfl | rfl | rfl
    · exact (k (i := 8) rfl).1
    · exact (k (i := 9) rfl).1
    · exact (k (i := 7) rfl).1
    · exact (k (i := 5) rfl).1
    · exact (k (i := 3) rfl).1
    · exact (k (i := 2) rfl).1
    · exact (k (i := 1) rfl).1
    · exact (k (i := 0) rfl).1
  · simp only [List.mem_cons, List.not_mem_nil, or_false] at hp
    rcases hp with rfl | rfl | rfl | rfl | rfl | rfl
    · exact (k (i := 7) rfl).2
    · exact (k (i := 5) rfl).2
    · exact (k (i := 3) rfl).2
    · exact (k (i := 2) rfl).2
    · exact (k (i := 1) rfl).2
    · exact (k (i := 0) rfl).2
theorem Tst.Chain.lists {st : Tst} (c : st.Chain) : ∀ p ∈ st.lists, @LT.lt Nat _ st.T p.1 := by
  obtain ⟨c1, c2, c3, c4, c5, c6, c7⟩ := c
  intro p hp
  simp only [List.mem_cons, List.not_mem_nil, or_false] at hp
  rcases hp with rfl | rfl | rfl | rfl | rfl | rfl <;> (dsimp only; omega)
theorem Tst.Chain.ge {st : Tst} (c : st.Chain) {w : World} {S2 n : Nat} {sv mv : Value} {more : List DictEntry} : ∀ p ∈ st.led w S2 sv mv more n, @LE.le Nat _ st.TD p.1 := by
  have l := c.lists
  have c1 := c.c1
  intro p hp
  rcases List.mem_cons.mp hp with rfl | hp
  · exact Nat.le_of_lt c1
  rcases List.mem_cons.mp hp with rfl | hp
  · exact Nat.le_refl _
  · exact Nat.le_of_lt (Nat.lt_trans c1 (l p hp))
local macro_rules | `(tactic| k_room) => `(tactic| ((try simp only [depth_under_make, depth_under_kw, depth_in1, depth_deeper, depth_caller]); omega))
local macro_rules | `(tactic| k_lt $h:ident) => `(tactic| (have h2 := $h _ (List.Mem.head _); replace $h := $h (_, dictOf _ _) (by k_mem); (try dsimp only at h2); (try dsimp only at $h:ident)))
theorem init_c {w : World} (x dx S2 O : Nat) (A A₀ : Around) (env : Env) (outer : List Env) (base h₀ : Heap) (L : Addr) (m mg mb : Str → Option Value) (mean : ExcName → Option Value) (s : Shared) (R : Result → Shared → Prop)
    (B : Below A₀ base outer h₀) (F : Fr h₀ L s.heap m) (X : (Mine.K39 w.params).In h₀) (N : News h₀ L s.heap [(x, instObj 542 dx), (dx, dictOf [] 0)]) (T : Top topProg LZ mean mg mb h₀) (hA : A.frames = some (env :: outer)) (hf : env.frame = some L) (hke : env.scope.kind = .function)
    (hd : A.depth + 20 < recursionLimit) (hx : dx < x)
    (hret : ∀ (st : Tst) h' tk, st.T = x → st.TD = dx → st.Chain → (∀ b o, s.heap.get? b = some o → b ≠ dx → h'.get? b = some o) → Holds h' (st.led w S2 active (.ref O) [] 12) → (∀ p ∈ st.lists, s.heap.get? p.1 = none) → R (.ok (.ret .none)) { s with heap := h', toks := tk }) :
    codeAny (model PySem.Challenge.rw_ac0032_01.row.prog w) A (.call (.ref 229) ⟨[.ref x, .ref S2, .ref O], []⟩) R s := by
  revert X
  k_fill
  intro X
  k_dflt (refine' enter_plain (binds := [(Str.ofString "self", .ref x), (Str.ofString "synchronizers", .ref S2), (Str.ofString "manager", .ref O)]) B F X N T hA hf hke (by k_is) (by k_is) ?hr ?hb (locs rfl) ?_ rfl rfl rfl (by decide))
  case hr => exact Nat.lt_of_le_of_lt (Nat.le_add_right _ _) hd
  case hb => first | exact BindsTo.of_eq rfl | exact binds_K (by k_in) rfl (by k_is) rfl rfl rfl
  intro g' L' h' hG hup l1 FG' F' N' B' X' T'
  refine wpAny_hide ?_
  intro QF EF hQF hEF
  k_lt l1
  k_steps
  rename News g' L' _ _ => N₃
  rename Fr g' L' _ _ => F₃
  obtain ⟨st, rfl, rfl, hc, hH, hf⟩ := mk_txn N₃ (by first | with_reducible assumption | exact Nat.lt_trans (by with_reducible assumption) (by with_reducible assumption)) (by first | with_reducible assumption | exact Nat.lt_trans (by with_reducible assumption) (by with_reducible assumption)) (by first | with_reducible assumption | exact Nat.lt_trans (by with_reducible assumption) (by with_reducible assumption)) (by first | with_reducible assumption | exact Nat.lt_trans (by with_reducible assumption) (by with_reducible assumption)) (by first | with_reducible assumption | exact Nat.lt_trans (by with_reducible assumption) (by with_reducible assumption)) (by first | with_reducible assumption | exact Nat.lt_trans (by with_reducible assumption) (by with_reducible assumption)) (by first | with_reducible assumption | exact Nat.lt_trans (by with_reducible assumption) (by with_reducible assumption))
  refine hQF _ _ (leaveK_ (by assumption) (by assumption) fun _ _ => hret st _ _ rfl rfl hc (fun b o e hb => kept_end N hG F₃.keep (mods := [st.TD]) ((fa2 (fun _ => (hH _ (.head _))) (fun q => absurd (.head _) q))) b o e (fun q => hb (List.mem_singleton.mp q))) hH fun p hp => ?_)
  have z := hc.lists p hp
  refine not_in_heap hG (hf p hp) (notin_led ((fa2 (Nat.ne_of_lt z) (Nat.ne_of_lt (Nat.lt_trans hx z)))))
theorem none_upT {h h' : Heap} (k : ∀ b o, h.get? b = some o → h'.get? b = some o) {b : Addr} (e : h'.get? b = none) : h.get? b = none := by
  cases q : h.get? b with
  | none => rfl
  | some o => have := k _ _ q; rw [e] at this; cases this
theorem News.fresh_led {h₀ h h' : Heap} {L : Addr} {m : Str → Option Value} {led led' : List (Addr × Obj)} (F : Fr h₀ L h m) (N : News h₀ L h led) (H : Holds h' led') (hf : ∀ p ∈ led', p.1 ∈ led.map (·.1) ∨ h.get? p.1 = none) : News h₀ L h' led' := fun p hp => by
  refine ⟨H p hp, ?_⟩
  rcases hf p hp with q | q
  · obtain ⟨r, hr, e⟩ := List.mem_map.mp q
    rw [← e]; exact (N r hr).2
  · refine ⟨fun e => ?_, none_upT F.keep q⟩
    obtain ⟨oL, _, _, hL, _⟩ := F.ns
    rw [e, hL] at q; cases q
theorem txn_use {w : World} {A A₀ : Around} {env : Env} {outer : List Env} {base h₀ : Heap} {L S2 O : Addr} {m mg mb : Str → Option Value} {mean : ExcName → Option Value} {s : Shared} {news : List (Addr × Obj)} {Q E : Value → Shared → Prop}
    (B : Below A₀ base outer h₀) (F : Fr h₀ L s.heap m) (X : (Mine.K39 w.params).In h₀) (N : News h₀ L s.heap news) (T : Top topProg LZ mean mg mb h₀) (hA : A.frames = some (env :: outer)) (hf : env.frame = some L) (hke : env.scope.kind = .function) (hd : A.depth + 40 < recursionLimit)
    (k : ∀ (st : Tst) h' tk, Fr h₀ L h' m → News h₀ L h' (st.led w S2 active (.ref O) [] 12 ++ news) → st.Chain → (∀ p ∈ news, p.1 < st.TD) → Q (.ref st.T) { s with heap := h', toks := tk }) :
    wpAny (model PySem.Challenge.rw_ac0032_01.row.prog w) A (call (.ref 542) [.ref S2, .ref O]) Q E s := by
  revert X
  k_fill
  intro X
  refine wpAny_call (make_K F N (X.keeps F.keep) (by k_is) (by k_is) (by k_is) ?_)
  intro x dx h₁ F₁ N₁ l1 hx
  have N2 : News h₀ L h₁ [(x, instObj 542 dx), (dx, dictOf [] 0)] := News.sub N₁ ((fa2 (.head _) (in1)))
  refine init_c x dx S2 O _ A₀ env outer base h₀ L m mg mb mean _ _ B F₁ X N2 T ?hA hf hke ?hd hx ?_
  case hA => exact hA
  case hd => (try simp only [depth_under_make]); omega
  rintro st h₂ tk rfl rfl hc hk hH hn
  refine ⟨rfl, ?_⟩
  have z := N2 (st.TD, dictOf [] 0) (in1)
  refine k st h₂ tk (Fr.turn F₁ z.2.1 z.2.2 fun b o e hb => hk b o e hb) (News.append (News.fresh_led F₁ N2 hH fun p hp => ?_) fun p hp => ⟨hk _ _ (N₁ p (.tail _ (.tail _ hp))).1 (Nat.ne_of_lt (l1 p hp)), (N₁ p (.tail _ (.tail _ hp))).2⟩) hc l1
  rcases List.mem_cons.mp hp with rfl | hp
  · exact .inl (.head _)
  rcases List.mem_cons.mp hp with rfl | hp
  · exact .inl (in1)
  · exact .inr (hn p hp)
end Mine
end
local macro_rules | `(tactic| k_room) => `(tactic| ((try simp only [PyProof.Rows.depth_under_make, PySem.W.depth_under_kw, PySem.W.depth_in1, PyProof.Rows.depth_deeper, PyProof.Rows.depth_caller]); (try dsimp only [PySem.W.ktrTop]); first | exact Mine.room (by with_reducible assumption) (by decide) | exact Mine.room2 (by with_reducible assumption) (by decide) | exact Mine.room3 (by with_reducible assumption) (by decide) | omega))
section
open PySem PySem.W PyProof.Rows PySem.Calls PySem.Spec PyProof.V
namespace Mine
local macro_rules | `(tactic| k_lt $h:ident) => `(tactic| (replace $h := allLt_of $h; dsimp only [AllLt] at $h:ident))
local macro_rules | `(tactic| walk_at "call ref") => `(tactic| ((with_reducible show wpAny _ _ (call (Value.ref 542) _ _) _ _ _); refine hold ?_))
local macro_rules | `(tactic| k_all) => `(tactic| first | exact List.forall_mem_nil _ | with_reducible assumption | (refine List.forall_mem_cons.mpr ⟨by k_ne, by k_all⟩))
theorem get_new_g {w : World} (O OD S2 : Nat) (t1 t2 t3 : Tok) (led : List (Addr × Obj)) (hl : ∀ p ∈ led, @Ne Nat p.1 OD) (hOD : @Ne Nat O OD) :
    Claim w 80 400 695 [.ref O] ((O, instObj 814 OD) :: (OD, dictOf [ent w "explicit" t1 (.bool false), ent w "_txn" t2 .none, ent w "_synchs" t3 (.ref S2)] 3) :: led) [OD] (fun _ => True) (fun h v h' => ∃ st : Tst, v = .ref st.T ∧ st.Chain ∧ (∀ p ∈ led, p.1 < st.TD) ∧ Holds h' (st.led w S2 active (.ref O) [] 12) ∧ (∀ p ∈ st.led w S2 active (.ref O) [] 12, h.get? p.1 = none) ∧
      h'.get? OD = some (dictOf [ent w "explicit" t1 (.bool false), ent w "_txn" t2 (.ref st.T), ent w "_synchs" t3 (.ref S2)] 3)) := by
  unfold Claim
  k_fill
  intro dp un gd cn cs a ccd cl outer A₀ base h₀ L m mg mb mean s Q E B F X N T hk hd hu _ hret
  refine wpAny_call ?_
  k_dflt (refine' enter_plain (binds := [(Str.ofString "self", .ref O)]) B F X N T rfl rfl hk (by k_is) (by k_is) ?hr (BindsTo.of_eq rfl) (locs rfl) ?_ rfl rfl rfl (by decide))
  case hr => exact Nat.lt_of_le_of_lt (Nat.le_add_right _ _) hd
  intro g' L' h' hG hup l1 FG' F' N' B' X' T'
  refine wpAny_hide ?_
  intro QF EF hQF hEF
  clear l1
  try dsimp only
  k_steps
  rename News g' L' _ _ => N₁
  rename Fr g' L' _ _ => F₁
  refine Hold.out (txn_use B' F₁ X' N₁ T' rfl rfl rfl ?_ ?_)
  · dsimp only [Around.deeper, ktrTop]; first | exact room2 hd (by decide) | exact room2 hu (by decide) | omega
  intro st h₂ tk₂ F₂ N₂ hc l2
  clear F₁ N₁
  have gE := hc.ge (w := w) (S2 := S2) (n := 12) (sv := active) (mv := .ref O) (more := [])
  have e2 := l2 _ (in1)
  have hf : ∀ p ∈ st.led w S2 active (.ref O) [] 12, s.heap.get? p.1 = none := fun p hp => not_in_heap hG (N₂ p (List.mem_append_left _ hp)).2.2 (notin_led fun q hq => Nat.ne_of_lt (Nat.lt_of_lt_of_le (l2 q hq) (gE p hp)))
  have N₃ : News g' L' h₂ ((O, instObj 814 OD) :: (OD, dictOf [ent w "explicit" t1 (.bool false), ent w "_txn" t2 .none, ent w "_synchs" t3 (.ref S2)] 3) :: (st.led w S2 active (.ref O) [] 12 ++ led)) := fun p hp => by
    rcases List.mem_cons.mp hp with rfl | hp
    · exact N₂ _ (List.mem_append_right _ (.head _))
    rcases List.mem_cons.mp hp with rfl | hp
    · exact N₂ _ (List.mem_append_right _ (in1))
    rcases List.mem_append.mp hp with hp | hp
    · exact N₂ _ (List.mem_append_left _ hp)
    · exact N₂ _ (List.mem_append_right _ (.tail _ (.tail _ hp)))
  have hN : ∀ q ∈ st.led w S2 active (.ref O) [] 12 ++ led, @Ne Nat q.1 OD := fun q hq => by
    rcases List.mem_append.mp hq with hq | hq
    · exact Nat.ne_of_gt (Nat.lt_of_lt_of_le e2 (gE q hq))
    · exact hl q hq
  have l3 : ∀ p ∈ led, p.1 < st.TD := fun p hp => l2 p (.tail _ (.tail _ hp))
  clear N₂ l2
  have sub1 : ∀ p ∈ st.led w S2 active (.ref O) [] 12, p ∈ st.led w S2 active (.ref O) [] 12 ++ led := fun p hp => List.mem_append_left _ hp
  have sub2 : ∀ p ∈ led, p ∈ st.led w S2 active (.ref O) [] 12 ++ led := fun p hp => List.mem_append_right _ hp
  generalize st.led w S2 active (.ref O) [] 12 ++ led = ledT at N₃ hN sub1 sub2
  try dsimp only
  k_steps
  rename News g' L' _ _ => N₄
  rename Fr g' L' _ _ => F₄
  refine hQF _ _ ?_
  refine leaveK_ (by assumption) (by assumption) fun _ _ => ?_
  refine hret _ _ _ (kept_end N hG F₄.keep fun p hp hm => ?_) ⟨st, rfl, hc, l3, fun p hp => (N₄ p (.tail _ (.tail _ (sub1 p hp)))).1, hf, (N₄ _ (in1)).1⟩
  rcases List.mem_cons.mp hp with rfl | hp
  · exact (N₄ _ (.head _)).1
  rcases List.mem_cons.mp hp with rfl | hp
  · exact absurd (.head _) hm
  · exact (N₄ p (.tail _ (.tail _ (sub2 p hp)))).1
end Mine
end
section
open PySem PySem.W PyProof.Rows PySem.Calls PySem.Spec PyProof.V
namespace Mine
theorem lam_any {M : Model} {A : Around} {E : Value → Shared → Prop} {s : Shared} {h₀ : Heap} {L a c P : Addr} {m mg mb : Str → Option Value} {cn : Str} {cs : Scope} {ccd : Value} {cl : List (Str × Addr)} {news : List (Addr × Obj)} {g : Obj → List (Addr × Obj)}
    {p : Program} {loose : List Str} {mean : ExcName → Option Value} {name qual : Str} {params : Arguments} {body : Expr} {scope : Scope} {ps : Array Value} {pos : Pos} {firstLine : Nat} {clos : List (Str × Addr)} {Q : Value → Shared → Prop}
    (F : Fr h₀ L s.heap m) (N : News h₀ L s.heap news) (T : Top p loose mean mg mb h₀) (C : CodeHd h₀ c P) (hcd : ccd = .ref c) (U : UpdF P (tabObj ps) news g) (ht : TriplesOk ps.toList)
    (hcl : closureFor scope (envX cn cs L a ccd cl) = pure clos)
    (h : ∀ f h' tk ps', Fr h₀ L h' m → News h₀ L h' (g (tabObj ps')) → TriplesOk ps'.toList → Q (.ref f) { s with heap := h', toks := tk }) :
    wpAny M A (makeFunction name qual params (.expr body) scope (envX cn cs L a ccd cl) [] [] [] pos firstLine) Q E s := by
  cases e : codeAmong pos ps.toList with
  | none =>
    refine kla_nest F N T C hcd U ht e hcl fun f c' oc vs t ctv h' tk F' N' _ _ _ _ => h f h' tk _ F' (fun p hp => N' p (.tail _ (.tail _ hp))) ?_
    rw [Array.toList_append]
    exact TriplesOk_snoc _ _ _ _ ht
  | some cv =>
    obtain ⟨own, rest, rfl, hgr, h1, h2⟩ := U.split
    have hm := N (P, tabObj ps) (List.mem_append_right _ (.head _))
    have hgs := T.g.keeps F.keep
    obtain ⟨bm, ob, b1, b2, b3, b4, b5, b6⟩ := T.bmain
    have hbP : bm ≠ P := fun q => by
      have e := F.keep _ _ b3
      rw [q, hm.1] at e; cases e; cases b4
    have hbG : bm ≠ mainGlobals := fun q => by
      obtain ⟨o, es, ep, e, hd, _⟩ := T.g
      rw [q, e] at b3; cases b3; rw [hd] at b6; cases b6
    refine kla_makeFunctionHit (mg := mg) hcl rfl hgs hcd (C.keeps F.keep) hm.1 ht e ⟨bm, ob, b1, b2, hbG, hbP, F.keep _ _ b3, b4, b5, b6⟩ fun ctv h' tk hk hsz => ?_
    refine h h'.objs.size _ tk ps ⟨(F.ns.keeps hk).push _, fun b o e => Heap.get?_push_of_some _ (hk b o (F.keep b o e)), F.above⟩ ?_ ht
    rw [hgr]
    exact fun q hq => ⟨Heap.get?_push_of_some _ (hk _ _ (N q hq).1), (N q hq).2⟩

theorem is_str_other {M : Model} {A : Around} {E : Value → Shared → Prop} {s : Shared} {y z : Str} {u v : Tok} {Q : Value → Shared → Prop} (h0 : (u == 0 || v == 0) = false) (huv : (u == v) = false) (hyz : (y == z) = false) (h : Q (.bool false) s) :
    wpAny M A (compareOp .Is (.str y u) (.str z v)) Q E s := by
  show wpAny M A (do return .bool (← isSame (.str y u) (.str z v))) Q E s
  exact wpAny_bind (wpAny_of_eq (isSame_str_other y z u v h0 huv hyz) (wpAny_pure h))

theorem callWith_mkw0 {M : Model} {A : Around} {E : Value → Shared → Prop} {s : Shared} {env : Env} {pos : Pos} {id : String} {first : List Value} {kws : List Keyword} {Q : Value → Shared → Prop}
    (h : wpAny M A (evalAll ((backToKw pos (keywordEach kws env)).map (·.2))) (fun ks s₂ => wpAny M A (call (.builtin id) (first ++ []) (((backToKw pos (keywordEach kws env)).filterMap (·.1)).zip ks)) Q E s₂) E s)
    (hall : (backToKw pos (keywordEach kws env)).all (·.1.isSome) = true := by rfl) (hkw : (backToKw pos (keywordEach kws env)).any (·.1.isNone) = false := by rfl) :
    wpAny M A (callWith pos (.builtin id) first (backTo pos (starEach [] env)) (backToKw pos (keywordEach kws env))) Q E s :=
  callWith_builtin_kwB rfl hkw (evalArgs_kw2_nil hall h)

theorem sort_nil {prog : Program} {w : World} {A : Around} {E : Value → Shared → Prop} {s : Shared} {h₀ : Heap} {L D q : Addr} {m : Str → Option Value} {news : List (Addr × Obj)} {g : Obj → List (Addr × Obj)} {n : Nat} {Q : Value → Shared → Prop}
    (F : Fr h₀ L s.heap m) (N : News h₀ L s.heap news) (U : UpdF D (listOf #[] n) news g) (h : ∀ h' tk c, Fr h₀ L h' m → News h₀ L h' (g (listOf #[] c)) → Q .none { s with heap := h', toks := tk }) :
    wpAny (model prog w) A (call (.builtin "list.sort") [.ref D] [(Str.ofString "key", .ref q)]) Q E s := by
  obtain ⟨pre, post, rfl, hg, a, b⟩ := U.split
  have z := N (D, listOf #[] n) (List.mem_append_right _ (.head _))
  refine wpAny_call_entry_kw PyProof.Rows.slot_list_sort ⟨_, z.1, rfl⟩ PyProof.Rows.entry_list_sort ?_ (ksk_l1 _ _)
  rw [ksk_t1]
  refine ksk_sort (vs := []) (kz := []) (n := n) (news := pre ++ post) F (fun p hp => N p ?_) z.1 z.2.1 z.2.2 (fun p hp => ?_) rfl (by decide) (fun i v k e => by simp at e) (fun h' tk out c F' N' hk => ⟨.none, rfl, h h' tk c F' ?_⟩)
  · rcases List.mem_append.mp hp with hp | hp
    · exact List.mem_append_left _ hp
    · exact List.mem_append_right _ (.tail _ hp)
  · rcases List.mem_append.mp hp with hp | hp
    · exact a p hp
    · exact b p hp
  · have ho : out = #[] := by
      obtain ⟨ps, h1, h2, _⟩ := hk
      have : ps = [] := by simpa using h1
      subst this
      exact Array.ext' h2
    subst ho
    rw [hg]
    intro p hp
    rcases List.mem_append.mp hp with hp | hp
    · exact N' p (.tail _ (List.mem_append_left _ hp))
    · rcases List.mem_cons.mp hp with rfl | hp
      · exact N' _ (.head _)
      · exact N' p (.tail _ (List.mem_append_right _ hp))
end Mine
end
section
open PySem PySem.W PyProof.Rows PySem.Calls PySem.Spec PyProof.V
namespace Mine
theorem looks_nameCut {M : Model} {K : Frag} {h : Heap} {x C : Addr} {ox : Obj} {od : Option Obj} {cd : ClassData} (X : K.In h) (I : InstAt h x ox C od) (hc : clsIn K C = some cd)
    (hn : decide (cd.name.cps.foldl (fun k c => k + (Str.utf8Of c).length) 0 ≤ 100) = true) : Looks M h (typeNameOfCut 100 (.ref x)) cd.name.toString := by
  unfold typeNameOfCut shownTypeOf
  refine Looks.andThen (a := .ref C) ?_ ?_
  · refine Looks.andThen I.type ?_
    exact Looks.now
  · unfold typeNameCut
    refine Looks.andThen (looks_clsIn X hc) ?_
    simp only [of_decide_eq_true hn, if_true]
    exact Looks.now

theorem hooked_miss {prog : Program} {w : World} {A : Around} {E : Value → Shared → Prop} {s : Shared} {K : Frag} {x C : Addr} {ox : Obj} {od : Option Obj} {name : Str} {tk : Tok} {cd : ClassData} {P : PySem.Fin → Shared → Prop}
    (X : K.In s.heap) (I : InstAt s.heap x ox C od) (hf : findObj K C od name = some .missing) (hk : findIn K (.ref C) "__getattr__" = some none) (hc : clsIn K C = some cd)
    (hn : decide (cd.name.cps.foldl (fun k c => k + (Str.utf8Of c).length) 0 ≤ 100) = true) (hh : A.handled = none)
    (hm : decide (((s!"'{cd.name.toString}' object has no attribute '" : Str) ++ name ++ "'").length ≤ 1000) = true)
    (h : ∀ h' tk e, Heap.NewAttrErr s.heap h' e (.ref x) name → E (.ref e) { s with heap := h', toks := tk }) :
    wpAny (model prog w) A (Builtin.«proto.getattr_hooked» ⟨[.ref x, .str name tk], []⟩) P E s := by
  obtain ⟨hp, g, d, t, os⟩ := s
  have L0 := I.type (M := model prog w)
  have L1 := looks_find (M := model prog w) X I hf
  have L2 := looks_findIn (M := model prog w) X hk
  have L3 := looks_nameCut (M := model prog w) X I hc hn
  refine wpAny_bind (wpAny_pure (wpAny_bind (L0.at (wpAny_bind (L1.at (wpAny_bind (L2.at ?_)))))))
  show wpAny _ _ (do raiseAttrError (.ref x) name ((s!"'{← typeNameOfCut 100 (.ref x)}' object has no attribute '" : Str) ++ name ++ "'")) _ _ _
  refine wpAny_bind (L3.at ?_)
  exact wpAny_raiseAttrError hh h (Nat.le_trans (of_decide_eq_true hm) (by decide))

theorem isInst_attr {M : Model} {h : Heap} {e : Addr} {o : Obj} (he : h.get? e = some o) (hc : o.cls = .type "AttributeError") : Looks M h (isInstance (.ref e) (.type "AttributeError")) true := by
  unfold isInstance
  refine Looks.andThen (a := .type "AttributeError") ?_ (Looks.of_pure sub_AttributeError)
  exact hc ▸ (Looks.ld he).andThen .now
theorem note_full {M : Model} {A : Around} {E : Value → Shared → Prop} {s : Shared} {h₀ : Heap} {e x : Addr} {name : Str} {nv : Value} {Q : Unit → Shared → Prop} (H : Heap.NewAttrErr h₀ s.heap e (.ref x) name) (h : Q () s) :
    wpAny M A (noteIf true (.ref x) nv (.ref e)) Q E s := by
  obtain ⟨t, u, he⟩ := H.there
  obtain ⟨hp, g, d, tk, os⟩ := s
  have L0 := isInst_attr (M := M) he rfl
  unfold noteIf
  rw [if_pos rfl]
  unfold noteAttr
  dsimp only
  refine wpAny_bind ?_
  unfold lacksNameAndObj
  dsimp only
  refine wpAny_bind (L0.at ?_)
  refine wpAny_bind (wpAny_load he ?_)
  exact wpAny_pure (wpAny_pure h)
theorem get_miss {prog : Program} {w : World} {A : Around} {E : Value → Shared → Prop} {s : Shared} {K : Frag} {x C : Addr} {ox : Obj} {od : Option Obj} {name : Str} {cd : ClassData} {expr : Bool} {Q : Value → Shared → Prop}
    (X : K.In s.heap) (I : InstAt s.heap x ox C od) (hga : findIn K (.ref C) "__getattribute__" = some (some (.builtin "object.__getattribute__"))) (hf : findObj K C od name = some .missing) (hk : findIn K (.ref C) "__getattr__" = some none) (hc : clsIn K C = some cd)
    (hn : decide (cd.name.cps.foldl (fun k c => k + (Str.utf8Of c).length) 0 ≤ 100) = true) (hh : A.handled = none)
    (hm : decide (((s!"'{cd.name.toString}' object has no attribute '" : Str) ++ name ++ "'").length ≤ 1000) = true)
    (h : ∀ h' tk e, Heap.NewAttrErr s.heap h' e (.ref x) name → E (.ref e) { s with heap := h', toks := tk }) :
    wpAny (model prog w) A (getAttr (.ref x) name expr) Q E s :=
  get_open X I hga (hooked_miss (s := { s with toks := s.toks + 1 }) X I hf hk hc hn hh hm fun h' tk e H => note_full (s := { s with heap := h', toks := tk }) H (h h' tk e H))

section
variable {prog : Program} {w : World} {A : Around} {E : Value → Shared → Prop} {s : Shared} {K : Frag} {x C : Addr} {ox : Obj} {od : Option Obj} {name : Str} {tk : Tok} {cd : ClassData} {Q : Value → Shared → Prop}
theorem hasattr_open (X : K.In s.heap) (I : InstAt s.heap x ox C od) (hmod : subIn K (.ref C) (.type "module") = some false)
    (h : wpAny (model prog w) A.in1 (getAttrBy? (.ref x) (.str name tk)) (fun r s' => Q (.bool r.isSome) s') E s) :
    wpAny (model prog w) A (call (.builtin "hasattr") [.ref x, .str name tk]) Q E s := by
  refine Calls.call_function_entry (b := Builtin.«hasattr») (by decide +kernel) (by decide +kernel) (entryFor_of_fast (by kernel_rfl)) (by unfold argsOk; kernel_rfl) ?_
  obtain ⟨hp, g, d, t, os⟩ := s
  have L0 := I.type (M := model prog w)
  have L3 : Looks (model prog w) hp (isInstance (.ref x) (.type "module")) false := I.type.andThen (looks_subIn X hmod)
  unfold Builtin.«hasattr»
  refine wpAny_bind (wpAny_pure ?_)
  dsimp only
  refine wpAny_bind (wpAny_pure ?_)
  simp only [show ((Value.ref x == Value.builtin "__main__.__loader__#opaque") = false) from rfl, Bool.false_eq_true, if_false]
  refine wpAny_bind (L0.at ?_)
  dsimp only
  refine wpAny_bind ?_
  with_unfolding_all refine wpAny_bind (m := isInstance (Value.ref x) (Value.type "module")) (L3.at ?_)
  rw [if_pos (show (!false) = true from rfl)]
  refine wpAny_pure ?_
  rw [if_neg (by decide)]
  refine wpAny_bind (wpAny_mono h (fun r s' hr => ?_) fun _ _ e => e)
  rw [if_neg (by simp)]
  exact wpAny_pure ⟨_, rfl, hr⟩
theorem hasattr_no (X : K.In s.heap) (I : InstAt s.heap x ox C od) (hga : findIn K (.ref C) "__getattribute__" = some (some (.builtin "object.__getattribute__"))) (hf : findObj K C od name = some .missing) (hk : findIn K (.ref C) "__getattr__" = some none) (hc : clsIn K C = some cd)
    (hmod : subIn K (.ref C) (.type "module") = some false)
    (hn : decide (cd.name.cps.foldl (fun k c => k + (Str.utf8Of c).length) 0 ≤ 100) = true) (hh : A.handled = none)
    (hm : decide (((s!"'{cd.name.toString}' object has no attribute '" : Str) ++ name ++ "'").length ≤ 1000) = true)
    (h : ∀ h' tk, (∀ b o, s.heap.get? b = some o → h'.get? b = some o) → Q (.bool false) { s with heap := h', toks := tk }) :
    wpAny (model prog w) A (call (.builtin "hasattr") [.ref x, .str name tk]) Q E s := by
  refine hasattr_open X I hmod ?_
  obtain ⟨hp, g, d, t, os⟩ := s
  have L0 := I.type (M := model prog w)
  have L1 := looks_findIn (M := model prog w) X hga
  unfold getAttrBy? getAttrBy
  refine wpAny_bind (wpAny_attempt (wpAny_holding (wpAny_bind (L0.at (wpAny_bind (L1.at ?_))))))
  show wpAny _ _ (getAttrEveryday _ _ _) _ _ _
  refine wpAny_bind (wpAny_onRaise (wpAny_runValue (codeAny_builtin F.plainObj_entry_getattr_hooked (hooked_miss X I hf hk hc hn hh hm fun h' tk' e H => ?_))))
  show wpAny _ _ (noteIf false _ _ _) _ _ _
  refine wpAny_pure ?_
  obtain ⟨t', u', he⟩ := H.there
  show wpAny _ _ _ _ _ _
  refine wpAny_bind ((isInst_attr he rfl).at ?_)
  exact wpAny_pure (h h' tk' H.keeps)
theorem hasattr_yes {v : Value} (X : K.In s.heap) (I : InstAt s.heap x ox C od) (hga : findIn K (.ref C) "__getattribute__" = some (some (.builtin "object.__getattribute__"))) (hf : findObj K C od name = some (.value v)) (hv : handedIn v = true)
    (hmod : subIn K (.ref C) (.type "module") = some false) (h : Q (.bool true) s) :
    wpAny (model prog w) A (call (.builtin "hasattr") [.ref x, .str name tk]) Q E s := by
  refine hasattr_open X I hmod ?_
  obtain ⟨hp, g, d, t, os⟩ := s
  have L0 := I.type (M := model prog w)
  have L1 := looks_findIn (M := model prog w) X hga
  have L2 := looks_find (M := model prog w) X I hf
  unfold getAttrBy? getAttrBy
  refine wpAny_bind (wpAny_attempt (wpAny_holding (wpAny_bind (L0.at (wpAny_bind (L1.at ?_))))))
  show wpAny _ _ (getAttrEveryday _ _ _) _ _ _
  refine wpAny_bind (wpAny_onRaise (wpAny_runValue (codeAny_builtin F.plainObj_entry_getattr_hooked ?_)))
  refine wpAny_bind (wpAny_pure (wpAny_bind (L0.at (wpAny_bind (L2.at ?_)))))
  refine wpAny_pure ?_
  show wpAny _ _ (handedOut v) _ _ _
  rw [handedOut_of hv]
  exact wpAny_pure (wpAny_pure h)
end
end Mine
end
section
open PySem PySem.W PyProof.Rows PySem.Calls PySem.Spec PyProof.V
namespace Mine
local macro_rules | `(tactic| walk_at "exec Try") => `(tactic| (k_here; (first | refine wpAny_Try_except ?_ | refine wpAny_Try_finally ?_ | refine wpAny_Try_except_finally ?_); (try k_fold)))
local macro_rules | `(tactic| walk_at "callWith") => `(tactic| (k_here; (try dsimp only); (with_reducible show wpAny _ _ (callWith _ (Value.builtin "list.sort") _ (backTo _ (starEach [] _)) (backToKw _ (keywordEach (_ :: _) _))) _ _ _); refine callWith_mkw0 ?_))
local macro_rules | `(tactic| walk_at "call builtin:list.sort") => `(tactic| (k_here; (try dsimp only [List.append_nil]); k_dflt (refine' sort_nil (by k_asm) (by k_asm) (by k_updF) ?_); intro h' tk' c' F' N'; (try dsimp only at N')))

theorem map_nil_c {w : World} (S2 SD2 DL2 f : Nat) (hh : Int) (t4 : Tok) (n2 : Nat) :
    Claim w 40 200 73 [.ref S2, .ref f] (setLed S2 SD2 DL2 hh t4 [] n2) [] (fun _ => True) (fun _ v _ => v = .none) := by
  unfold Claim setLed
  k_fill
  intro dp un gd cn cs a ccd cl outer A₀ base h₀ L m mg mb mean s Q E B F X N T hk hd hu _ hret
  refine wpAny_call ?_
  k_dflt (refine' enter_plain (binds := [(Str.ofString "self", .ref S2), (Str.ofString "f", .ref f)]) B F X N T rfl rfl hk (by k_is) (by k_is) ?hr (BindsTo.of_eq rfl) (locs rfl) ?_ rfl rfl rfl (by decide))
  case hr => exact Nat.lt_of_le_of_lt (Nat.le_add_right _ _) hd
  intro g' L' h' hG hup l1 FG' F' N' B' X' T'
  k_lt l1
  dsimp only
  k_steps
  rename News g' L' _ _ => N₃
  rename Fr g' L' _ _ => F₃
  refine hret _ _ _ (kept_end N hG F₃.keep ?_) rfl
  exact (fa3 (fun _ => N₃.get (by k_mem)) (fun _ => N₃.get (by k_mem)) (fun _ => N₃.get (by k_mem)))
noncomputable def MoreOk (w : World) (more : List DictEntry) (n : Nat) : Prop := (more = [] ∧ n = 12) ∨ ∃ (t : Tok) (d : Nat), more = [ent w "_data" t (.ref d)] ∧ n = 13
theorem getL_hit {x a : Str} {hh : Int} {t : Nat} {v : Value} {r : List DictEntry} (h : (a == x) = true) : getL x (⟨hh, .str a t, v⟩ :: r) = some (some v) := by
  unfold getL; rw [List.find?_cons, show (DictEntry.mk hh (.str a t) v).key.isStr x = true from h]
theorem getL_skip {x a : Str} {hh : Int} {t : Nat} {v : Value} {r : List DictEntry} {y : Option (Option Value)} (h : (a == x) = false) (hr : getL x r = y) : getL x (⟨hh, .str a t, v⟩ :: r) = y := by
  unfold getL at hr ⊢; rw [List.find?_cons, show (DictEntry.mk hh (.str a t) v).key.isStr x = false from h, List.any_cons, show (DictEntry.mk hh (.str a t) v).refKey = false from rfl, Bool.false_or]; exact hr
theorem getL_more {w : World} {more : List DictEntry} {n : Nat} (hm : MoreOk w more n) {x : Str} (h : (Str.ofString "_data" == x) = false) : getL x more = some none := by
  rcases hm with ⟨rfl, rfl⟩ | ⟨t, v, rfl, rfl⟩
  · rfl
  · exact getL_skip h rfl
theorem getL_isSome {x : Str} {es : List DictEntry} {v : Value} (h : getL x es = some (some v)) : (getL x es).isSome = true := by rw [h]; rfl
theorem getL_isSome' {x : Str} {es : List DictEntry} (h : getL x es = some none) : (getL x es).isSome = true := by rw [h]; rfl
theorem put_hit {x : Str} {hs hh : Int} {k v v0 : Value} {a : Str} {t : Nat} {r : List DictEntry} {n : Nat} (h : (a == x) = true) : (putL x hs k v (⟨hh, .str a t, v0⟩ :: r), putN x (⟨hh, .str a t, v0⟩ :: r) n) = (⟨hh, .str a t, v⟩ :: r, n) := by
  have h' : (Value.str a t).isStr x = true := h
  simp only [putL, putN, List.any_cons, h', Bool.true_or, if_true]
theorem put_skip {x : Str} {hs hh : Int} {k v v0 : Value} {a : Str} {t : Nat} {r r' : List DictEntry} {n n' : Nat} (h : (a == x) = false) (hr : (putL x hs k v r, putN x r n) = (r', n')) : (putL x hs k v (⟨hh, .str a t, v0⟩ :: r), putN x (⟨hh, .str a t, v0⟩ :: r) n) = (⟨hh, .str a t, v0⟩ :: r', n') := by
  have h' : (Value.str a t).isStr x = false := h
  obtain ⟨a, b⟩ := Prod.mk.inj hr
  subst a; subst b
  simp only [putL, putN, List.any_cons, h', Bool.false_or, Bool.false_eq_true, if_false]
theorem len_more {w : World} {more : List DictEntry} {n : Nat} (hm : MoreOk w more n) : more.length + 12 ≤ 1000 := by
  rcases hm with ⟨rfl, rfl⟩ | ⟨t, v, rfl, rfl⟩ <;> exact Nat.le_of_ble_eq_true rfl
section
local macro_rules | `(tactic| k_get) => `(tactic| first
  | (refine' getL_isSome ?a; (case a => k_get))
  | (refine' getL_isSome' ?a; (case a => k_get))
  | exact getL_hit (by decide +kernel)
  | (refine getL_skip (by decide +kernel) ?_; k_get)
  | exact getL_more (by with_reducible assumption) (by decide +kernel))
local macro_rules | `(tactic| k_put) => `(tactic| first
  | exact put_hit (by decide +kernel)
  | (refine' put_skip ?a ?b; (case a => decide +kernel); (case b => k_put)))
local macro_rules | `(tactic| walk_at "setAttr ref") => `(tactic| (k_here; k_dflt
  (refine' set_dict (by k_asm) (by k_asm) (by k_asm) (by k_inst) (by exact rfl) (by k_is) (by k_is) (by k_is) (by k_is) (by k_get) (by k_put) (by k_upd) (by exact len_more (by with_reducible assumption)) ?_; intro h' F' N'; (try k_sweep))))
theorem commitRes_c {w : World} (S2 : Nat) (st : Tst) (sv mv : Value) (more : List DictEntry) (n : Nat) (hm : MoreOk w more n) :
    Claim w 40 200 474 [.ref st.T] [(st.T, instObj 542 st.TD), (st.TD, dictOf (st.ents w S2 sv mv more) n), (st.R, listOf #[] 0)] [] (fun _ => True) (fun _ v _ => v = .none) := by
  unfold Claim
  k_fill
  intro dp un gd cn cs a ccd cl outer A₀ base h₀ L m mg mb mean s Q E B F X N T hk hd hu _ hret
  refine wpAny_call ?_
  k_dflt (refine' enter_cells (binds := [(Str.ofString "self", .ref st.T)]) B F X N T rfl rfl hk (by k_is) (by k_is) ?hr (BindsTo.of_eq rfl) ?kB ?kD ?_ rfl rfl rfl)
  case hr => exact Nat.lt_of_le_of_lt (Nat.le_add_right _ _) hd
  case kB => exact rfl
  case kD => decide +kernel
  intro g' L' h' tk' cells' hG hup l1 FG' F' N' Y' B' X' T'
  refine wpAny_hide ?_
  intro QF EF hQF hEF
  k_lt l1
  k_cells Y'
  simp only [List.cons_append, List.nil_append] at N'
  try dsimp only
  (
    k_steps
    rename News g' L' _ _ => N₃
    rename Fr g' L' _ _ => F₃
    refine hQF _ _ ?_
    refine leaveK_ (by assumption) (by assumption) fun _ _ => ?_
    refine hret _ _ _ (kept_end N hG F₃.keep ?_) rfl
    exact (fa3 (fun _ => N₃.get (by k_mem)) (fun _ => N₃.get (by k_mem)) (fun _ => N₃.get (by k_mem))))
theorem freeMgr_c {w : World} (O OD S2 : Nat) (t1 t2 t3 : Tok) (st : Tst) (sv tv mv : Value) (more : List DictEntry) (n : Nat) (hm : MoreOk w more n) (hv : (tv = .ref st.T ∧ mv = .ref O) ∨ (tv = .none ∧ mv = .none)) (hlo : OD < O ∧ O < st.TD ∧ st.TD < st.T) :
    Claim w 40 200 486 [.ref st.T] (ownerLed w O OD S2 tv t1 t2 t3 ++ [(st.T, instObj 542 st.TD), (st.TD, dictOf (st.ents w S2 sv mv more) n)]) [OD, st.TD] (fun _ => True)
      (fun _ v h' => v = .none ∧ h'.get? OD = some (dictOf [ent w "explicit" t1 (.bool false), ent w "_txn" t2 .none, ent w "_synchs" t3 (.ref S2)] 3) ∧ h'.get? st.TD = some (dictOf (st.ents w S2 sv .none more) n)) := by
  unfold Claim ownerLed
  k_fill
  intro dp un gd cn cs a ccd cl outer A₀ base h₀ L m mg mb mean s Q E B F X N T hk hd hu _ hret
  simp only [List.cons_append, List.nil_append] at N
  obtain ⟨c1, c2, c3⟩ := hlo
  refine wpAny_call ?_
  k_dflt (refine' enter_plain (binds := [(Str.ofString "self", .ref st.T)]) B F X N T rfl rfl hk (by k_is) (by k_is) ?hr (BindsTo.of_eq rfl) (locs rfl) ?_ rfl rfl rfl (by decide))
  case hr => exact Nat.lt_of_le_of_lt (Nat.le_add_right _ _) hd
  intro g' L' h' hG hup l1 FG' F' N' B' X' T'
  refine wpAny_hide ?_
  intro QF EF hQF hEF
  k_lt l1
  try dsimp only
  rcases hv with ⟨rfl, rfl⟩ | ⟨rfl, rfl⟩
  all_goals (
    k_steps
    rename News g' L' _ _ => N₃
    rename Fr g' L' _ _ => F₃
    refine hQF _ _ ?_
    refine leaveK_ (by assumption) (by assumption) fun _ _ => ?_
    refine hret _ _ _ (kept_end N hG F₃.keep ?_) ⟨rfl, N₃.get (by k_mem), N₃.get (by k_mem)⟩
    exact (fa4 (fun _ => N₃.get (by k_mem)) (fun q => absurd (.head _) q) (fun _ => N₃.get (by k_mem)) (fun q => absurd (in1) q)))
end
end Mine
end
section
open PySem PySem.W PyProof.Rows PySem.Calls PySem.Spec PyProof.V PySem.Builtin PySem.Builtin.ObjectAttr
namespace Mine
theorem da_passes (self : Value) : refuseLoop self "__delattr__" [.type "object"] = pure () := by kernel_rfl
theorem da_refuse (self : Value) : ∀ {l : List Value}, onlyObject l = true → refuseLoop self "__delattr__" l = pure ()
  | [.type n], e => by rw [show n = "object" from beq_iff_eq.mp e]; exact da_passes self
  | .ref c :: r, e => by rw [refuseLoop_ref]; exact da_refuse self (by cases r <;> first | exact e | cases e)
theorem da_eq (self : Value) (name : Str) (tk : Tok) : Builtin.«object.__delattr__» ⟨[self, .str name tk], []⟩ = (refuseIfOverridden self "__delattr__" >>= fun _ => typeOf self >>= fun tp => typeLookup tp name >>= fun attr => storeTaker? attr >>= fun r =>
    match r with | some a => deleteByDescriptor a self | none => deleteInOwnDict self tp name attr.isSome) := by kernel_rfl
section
variable {prog : Program} {w : World} {A : Around} {E : Value → Shared → Prop} {s : Shared} {K : Frag} {x C L dx : Addr} {ox : Obj} {name : Str} {tk : Tok} {cd : ClassData} {Q : Value → Shared → Prop} {h₀ : Heap} {m : Str → Option Value} {news : List (Addr × Obj)} {es es' : List DictEntry} {n : Nat} {news' : List (Addr × Obj)}
theorem delattr_c (F : Fr h₀ L s.heap m) (X₀ : K.In h₀) (N : News h₀ L s.heap news) (I : InstAt s.heap x ox C (some (dictOf es n))) (hd : ox.dict = some dx)
    (hs : findIn K (.ref C) "__delattr__" = some (some (.builtin "object.__delattr__"))) (hp : plainOver K C = true) (ht : takerIn K C name = some none) (hh : hasDictIn K C = true)
    (ha : es.any (·.key.isStr name) = true) (e : Obj.dropName name (dictOf es n) = dictOf es' (n + 1)) (U : Upd dx (dictOf es n) (dictOf es' (n + 1)) news news')
    (h : ∀ h' tk, Fr h₀ L h' m → News h₀ L h' news' → Q .none { s with heap := h', toks := tk }) :
    wpAny (model prog w) A (call (.builtin "delattr") [.ref x, .str name tk]) Q E s := by
  refine Calls.call_function_entry (b := Builtin.«delattr») (by decide +kernel) (by decide +kernel) (entryFor_of_fast (by kernel_rfl)) (by unfold argsOk; kernel_rfl) ?_
  have X := X₀.keeps F.keep
  obtain ⟨hp', gl, dd, t, os⟩ := s
  unfold Builtin.«delattr»
  refine wpAny_bind (wpAny_pure ?_)
  dsimp only
  refine wpAny_bind (wpAny_pure ?_)
  rw [if_neg (by simp [asStr?])]
  unfold callSpecial? specialOf
  refine wpAny_bind (wpAny_bind (wpAny_bind (I.type.here ((looks_findIn X hs).here (wpAny_holding (wpAny_bind ?_))))))
  rw [PySem.F.slot_object_delattr.bind]
  refine wpAny_pure (wpAny_bind (wpAny_call ?_))
  obtain ⟨cd, hc, ho⟩ := any_some hp
  have ne : cd.mro.isEmpty = false := by cases q : cd.mro with | nil => rw [q] at ho; cases ho | cons _ _ => rfl
  have sub : Looks (model prog w) hp' (isInstance (.ref x) (.type "object")) true := I.type.andThen (looks_mroIn X (by unfold mroIn; rw [hc, Option.bind_some, if_neg (by rw [ne]; decide), only_has ho]))
  refine codeAny_call_builtin (by decide +kernel) PySem.F.entry_object_delattr (@check_slot (model prog w) _ _ _ "object.__delattr__" "object" "__delattr__" (.ref x) [.str name tk] [] _ (by decide +kernel) (by decide +kernel) sub (PySem.F.args_object_delattr_2 (.ref x) (.str name tk)) ?_)
  obtain ⟨attr, hta, hr⟩ := Option.bind_eq_some_iff.mp ht
  have hm : Looks (model prog w) hp' (mroOf (.ref C)) cd.mro := (looks_clsIn X hc).andThen .now
  have L3 : Looks (model prog w) hp' (storeTaker? attr) none := by
    cases attr with
    | none => exact .now
    | some a =>
      obtain ⟨b, hb, hb'⟩ := Option.map_eq_some_iff.mp hr
      refine (looks_takesIn X hb).andThen ?_
      cases b
      · exact .now
      · cases hb'
  show wpAny _ _ (Builtin.«object.__delattr__» ⟨[Value.ref x, .str name tk], []⟩) _ _ _
  rw [da_eq, refuse_eq]
  refine wpAny_bind (wpAny_bind (I.type.here (wpAny_bind (hm.here ?_))))
  rw [da_refuse _ ho]
  refine wpAny_pure (wpAny_bind (I.type.here (wpAny_bind ((looks_findIn X hta).here (wpAny_bind (L3.here ?_))))))
  obtain ⟨pre, post, rfl, rfl, a, b⟩ := U.split
  obtain ⟨U1, U2⟩ := news_upd (f := Obj.dropName name) F N a b e rfl
  have D := (N (dx, dictOf es n) (by simp)).1
  obtain ⟨cd', hc', hd'⟩ := any_some hh
  rw [hc] at hc'; cases hc'
  obtain ⟨hx, hcl, hn, -⟩ := I
  obtain ⟨oc, odi, oda, osl⟩ := ox
  dsimp only at hcl hd
  subst hcl hd
  refine wpAny_bind (wpAny_pure (wpAny_bind (wpAny_bind (wpAny_loadPart hx (wpAny_bind ((looks_clsIn X hc).here ?_))))))
  rw [hd']
  refine wpAny_pure (a := some dx) ?_
  dsimp only
  unfold deleteInDict
  refine wpAny_bind ?_
  unfold nsDel
  refine wpAny_bind (wpAny_loadPart D ?_)
  have hnh : nsHas name (dictOf es n) = pure true := by
    rw [nsHas_eq]; unfold nsHasByArray dictOf
    dsimp only
    rw [if_pos (by rw [← Array.any_toList]; exact ha)]
  rw [hnh]
  refine wpAny_bind (wpAny_pure ?_)
  rw [if_pos rfl]
  refine wpAny_bind (wpAny_updatePart D (wpAny_pure ?_))
  rw [if_pos rfl]
  exact wpAny_pure (wpAny_pure (wpAny_pure ⟨_, rfl, h _ _ U1 U2⟩))

theorem findObj_none {K : Frag} {C : Addr} {od : Obj} {name : Str} (hh : hasDictIn K C = true) (ha : findIn K (.ref C) name = some none) (hc : copiedNames.contains name = false) (hl : lookIn name od = some none) :
    findObj K C (some od) name = some .missing := by
  obtain ⟨cd, hc', hd⟩ := any_some hh
  unfold findObj
  have ho : PySem.W.ownOf cd (some od) name = some none := by unfold PySem.W.ownOf; rw [if_pos hd]; exact hl
  rw [hc', Option.bind_some, ha, Option.bind_some]
  simp only [Option.bind_some, ho, hc, Bool.false_and, Bool.false_eq_true, if_false]
theorem has_no (F : Fr h₀ L s.heap m) (X₀ : K.In h₀) (N : News h₀ L s.heap news) (I : InstAt s.heap x ox C (some (dictOf es n))) (hg : plainGet K C name = true) (hh : hasDictIn K C = true)
    (ha : findIn K (.ref C) name = some none) (hc : copiedNames.contains name = false) (hl : getL name es = some none) (hmod : subIn K (.ref C) (.type "module") = some false)
    (hcd : clsIn K C = some cd) (h1 : decide (cd.name.cps.foldl (fun k c => k + (Str.utf8Of c).length) 0 ≤ 100) = true) (h2 : decide (((s!"'{cd.name.toString}' object has no attribute '" : Str) ++ name ++ "'").length ≤ 1000) = true) (hd : A.handled = none)
    (h : ∀ h' tk, Fr h₀ L h' m → News h₀ L h' news → Q (.bool false) { s with heap := h', toks := tk }) :
    wpAny (model prog w) A (call (.builtin "hasattr") [.ref x, .str name tk]) Q E s := by
  exact hasattr_no (X₀.keeps F.keep) I (plainGet_of hg).1 (findObj_none hh ha hc hl) (plainGet_of hg).2 hcd hmod h1 hd h2 fun h' tk hk => h h' tk (F.keptAll hk) (News.keep N hk)
theorem has_yes {v : Value} {attr : Option Value} (F : Fr h₀ L s.heap m) (X₀ : K.In h₀) (I : InstAt s.heap x ox C (some (dictOf es n))) (hg : plainGet K C name = true) (hh : hasDictIn K C = true)
    (ha : findIn K (.ref C) name = some attr) (hn : noGet K attr = true) (hl : getL name es = some (some v)) (hv : handedIn v = true) (hmod : subIn K (.ref C) (.type "module") = some false)
    (h : Q (.bool true) s) :
    wpAny (model prog w) A (call (.builtin "hasattr") [.ref x, .str name tk]) Q E s :=
  hasattr_yes (X₀.keeps F.keep) I (plainGet_of hg).1 (findObj_own hh ha hn hl) hv hmod h
theorem miss_c {expr : Bool} (F : Fr h₀ L s.heap m) (X₀ : K.In h₀) (I : InstAt s.heap x ox C (some (dictOf es n))) (hg : plainGet K C name = true) (hh : hasDictIn K C = true)
    (ha : findIn K (.ref C) name = some none) (hc : copiedNames.contains name = false) (hl : getL name es = some none)
    (hcd : clsIn K C = some cd) (h1 : decide (cd.name.cps.foldl (fun k c => k + (Str.utf8Of c).length) 0 ≤ 100) = true) (h2 : decide (((s!"'{cd.name.toString}' object has no attribute '" : Str) ++ name ++ "'").length ≤ 1000) = true) (hd : A.handled = none)
    (h : ∀ h' tk e, Heap.NewAttrErr s.heap h' e (.ref x) name → E (.ref e) { s with heap := h', toks := tk }) :
    wpAny (model prog w) A (getAttr (.ref x) name expr) Q E s := by
  exact get_miss (X₀.keeps F.keep) I (plainGet_of hg).1 (findObj_none hh ha hc hl) (plainGet_of hg).2 hcd h1 hd h2 h
end
end Mine
end
section
open PySem PySem.W PyProof.Rows PySem.Calls PySem.Spec PyProof.V
namespace Mine
theorem del_slice0 {prog : Program} {w : World} {A : Around} {E : Value → Shared → Prop} {s : Shared} {l sl : Addr} {n : Nat} {Q : Unit → Shared → Prop} (hl : s.heap.get? l = some (listOf #[] n))
    (hs : s.heap.IsSliceOf sl .none .none .none) 
    (h : ∀ f : Array Value → Array Value, f #[] = #[] → Q () { s with heap := s.heap.update l (Obj.mapSeq f) }) : wpAny (model prog w) A (delItem (.ref l) (.ref sl)) Q E s := by
  obtain ⟨os, hos, hcs, hds⟩ := id hs
  have hTs : s.TypeIs (.ref sl) "slice" := ⟨os, hos, hcs⟩
  have hTl : s.TypeIs (.ref l) "list" := ⟨_, hl, rfl⟩
  refine wpAny_delItem_slot hTl (by decide) PySem.F.slot_list_delitem (wpAny_call_entry PySem.F.slot_list_delitem hTl PySem.F.entry_list_delitem ?_ (PySem.F.args_list_delitem_2 _ _))
  show wpAny _ _ (Builtin.List.listSubscript? (.ref sl) >>= _) _ _ s
  refine wpAny_bind ?_
  unfold Builtin.List.listSubscript?
  refine wpAny_bind (wpAny_specialOf hTs slice_no_index ?_)
  simp only [Option.isNone_none, if_true]
  refine wpAny_pure ?_
  show wpAny _ _ (typeOf (.ref sl) >>= _) _ _ s
  refine wpAny_bind (wpAny_typeOf hTs ?_)
  rw [if_neg (by decide)]
  rw [listSliceParts_eq]
  refine wpAny_bind (wpAny_bind (wpAny_field hos hds (x := .none) rfl (wpAny_bind (wpAny_listPart .none ?_))))
  rw [if_neg (show ¬ ((rawPart none == rawInt 0) = true) from Bool.false_ne_true)]
  refine wpAny_bind (wpAny_field hos hds (x := .none) rfl (wpAny_bind (wpAny_listPart .none ?_)))
  refine wpAny_bind (wpAny_field hos hds (x := .none) rfl (wpAny_bind (wpAny_listPart .none (wpAny_pure ?_))))
  refine wpAny_bind (m := Builtin.List.listItems (.ref l)) ?_
  unfold Builtin.List.listItems
  refine wpAny_bind (wpAny_seqItems hl rfl (wpAny_pure ?_))
  refine wpAny_bind (wpAny_of_eq (sliceIndices_raw none none none 0 (by simp)) ?_)
  refine wpAny_bind (wpAny_rule ?_)
  unfold Builtin.List.listUpdate
  refine wpAny_bind (wpAny_updateSeq hl rfl ?_ (by decide) (by decide))
  exact wpAny_bind (wpAny_pure (wpAny_pure ⟨_, rfl, h _ rfl⟩))
end Mine
end
section
open PySem PySem.W PyProof.Rows PySem.Calls PySem.Spec PyProof.V
namespace Mine
theorem News.cons0 {h₀ h : Heap} {L : Addr} {p : Addr × Obj} {l₂ : List (Addr × Obj)} (N₁ : h.get? p.1 = some p.2 ∧ p.1 ≠ L ∧ h₀.get? p.1 = none) (N₂ : News h₀ L h l₂) : News h₀ L h (p :: l₂) := fun q hq => (List.mem_cons.mp hq).elim (fun e => e ▸ N₁) (N₂ q)
theorem News.cut {h₀ h : Heap} {L : Addr} {led : List (Addr × Obj)} (N : News h₀ L h led) (mods : List Nat) : ∃ rest : List (Addr × Obj), News h₀ L h rest ∧ (∀ p ∈ rest, p.1 ∉ mods) ∧ (∀ p ∈ led, p.1 ∉ mods → p ∈ rest) :=
  ⟨led.filter (fun p => decide (p.1 ∉ mods)), fun p hp => N p (List.mem_filter.mp hp).1, fun p hp => of_decide_eq_true (List.mem_filter.mp hp).2, fun p hp h => List.mem_filter.mpr ⟨hp, decide_eq_true h⟩⟩
theorem News.off' {h₀ h h' : Heap} {L : Addr} {rest : List (Addr × Obj)} {mods : List Nat} (N : News h₀ L h rest) (hT : ∀ p ∈ rest, p.1 ∉ mods) (hk : ∀ b o, h.get? b = some o → b ∉ mods → h'.get? b = some o) : News h₀ L h' rest :=
  fun p hp => ⟨hk _ _ (N p hp).1 (hT p hp), (N p hp).2⟩
theorem olds_ne {P OD O SD2 S2 DL2 TD T : Nat} (hP : P ≤ 875) (h : 875 < OD ∧ OD < O ∧ O < SD2 ∧ SD2 < S2 ∧ S2 < DL2 ∧ DL2 < TD) (c : TD < T) :
    (@Ne Nat OD P ∧ @Ne Nat TD P ∧ @Ne Nat OD TD) ∧ O ∉ ([P, OD, TD] : List Nat) ∧ S2 ∉ ([P, OD, TD] : List Nat) ∧ SD2 ∉ ([P, OD, TD] : List Nat) ∧ DL2 ∉ ([P, OD, TD] : List Nat) ∧ ∀ a, T ≤ a → a ∉ ([P, OD, TD] : List Nat) := by
  obtain ⟨h0, h1, h2, h3, h4, h5⟩ := h
  have a1 : @LT.lt Nat _ P OD := Nat.lt_of_le_of_lt hP h0
  have b1 : @LT.lt Nat _ OD SD2 := Nat.lt_trans h1 h2
  have b2 : @LT.lt Nat _ OD S2 := Nat.lt_trans b1 h3
  have b3 : @LT.lt Nat _ OD DL2 := Nat.lt_trans b2 h4
  have b4 : @LT.lt Nat _ OD TD := Nat.lt_trans b3 h5
  have d3 : @LT.lt Nat _ S2 TD := Nat.lt_trans h4 h5
  have d2 : @LT.lt Nat _ SD2 TD := Nat.lt_trans h3 d3
  have d1 : @LT.lt Nat _ O TD := Nat.lt_trans h2 d2
  have n3 : ∀ x : Nat, OD < x → @Ne Nat x TD → x ∉ ([P, OD, TD] : List Nat) := fun x q r => notin_cons (Nat.ne_of_gt (Nat.lt_trans a1 q)) (notin_cons (Nat.ne_of_gt q) (notin_cons r notin_nil))
  exact ⟨⟨Nat.ne_of_gt a1, Nat.ne_of_gt (Nat.lt_trans a1 b4), Nat.ne_of_lt b4⟩, n3 _ h1 (Nat.ne_of_lt d1), n3 _ b2 (Nat.ne_of_lt d3), n3 _ b1 (Nat.ne_of_lt d2), n3 _ b3 (Nat.ne_of_lt h5), fun a ha => n3 _ (Nat.lt_of_lt_of_le (Nat.lt_trans b4 c) ha) (Nat.ne_of_gt (Nat.lt_of_lt_of_le c ha))⟩
theorem off1 {rest : List (Addr × Obj)} {P OD TD : Nat} (h : ∀ p ∈ rest, p.1 ∉ ([P, OD, TD] : List Nat)) : (∀ p ∈ rest, p.1 ≠ P) ∧ (∀ p ∈ rest, p.1 ≠ OD) ∧ (∀ p ∈ rest, p.1 ≠ TD) :=
  ⟨fun p hp q => h p hp (q ▸ .head _), fun p hp q => h p hp (q ▸ in1), fun p hp q => h p hp (q ▸ in2)⟩
theorem olds2 {OD O TD T : Nat} (h : OD < O ∧ O < TD) (c : TD < T) : @Ne Nat OD TD ∧ O ∉ ([OD, TD] : List Nat) ∧ ∀ a, T ≤ a → a ∉ ([OD, TD] : List Nat) := by
  simp only [List.mem_cons, List.not_mem_nil, or_false, not_or]
  refine ⟨?_, ?_, fun a ha => ?_⟩ <;> omega
theorem del_none {prog : Program} {w : World} {A : Around} {E : Value → Shared → Prop} {s : Shared} {h₀ h : Heap} {L l : Addr} {m : Str → Option Value} {news : List (Addr × Obj)} {n : Nat} {Q : Unit → Shared → Prop} (F : Fr h₀ L h m) (N : News h₀ L h news)
    (hs : s.heap = h.push { cls := .type "slice", data := .fields #[.none, .none, .none] }) (hm : (l, listOf #[] n) ∈ news)
    (k : ∀ h' tk, Fr h₀ L h' m → News h₀ L h' news → Q () { s with heap := h', toks := tk }) : wpAny (model prog w) A (delItem (.ref l) (.ref h.objs.size)) Q E s := by
  obtain ⟨hp, g, d, tk, os⟩ := s
  dsimp only at hs
  subst hs
  have N' := News.keep N (h' := h.push { cls := .type "slice", data := .fields #[.none, .none, .none] }) fun b o e => Heap.get?_push_of_some _ e
  have F' := F.push { cls := .type "slice", data := .fields #[.none, .none, .none] }
  have D := (N' (l, listOf #[] n) hm).1
  refine del_slice0 D (Heap.IsSliceOf.new ..) fun f hf => ?_
  have kk : ∀ b o, (h.push { cls := .type "slice", data := .fields #[.none, .none, .none] }).get? b = some o → ((h.push { cls := .type "slice", data := .fields #[.none, .none, .none] }).update l (Obj.mapSeq f)).get? b = some o := fun b o e => by
    by_cases q : l = b
    · subst q
      rw [D] at e
      cases e
      exact (Heap.get?_update_self _ D (by simp [W.listOf, Obj.mapSeq, hf, Obj.isFreed])).trans (by simp [W.listOf, Obj.mapSeq, hf])
    · exact (Heap.get?_update_other _ _ q).trans e
  exact k _ _ (F'.keptAll kk) (News.keep N' kk)
section
variable {w : World} {st : Tst} {S2 n : Nat} {sv mv : Value} {more : List DictEntry}
local macro_rules | `(tactic| k_get) => `(tactic| first
  | (refine' getL_isSome ?a; (case a => k_get))
  | (refine' getL_isSome' ?a; (case a => k_get))
  | exact getL_hit (by decide +kernel)
  | (refine getL_skip (by decide +kernel) ?_; k_get)
  | exact getL_more (by with_reducible assumption) (by decide +kernel))
local macro_rules | `(tactic| k_put) => `(tactic| first
  | exact put_hit (by decide +kernel)
  | (refine' put_skip ?a ?b; (case a => decide +kernel); (case b => k_put)))
theorem ents_status : getL (Str.ofString "status") (st.ents w S2 sv mv more) = some (some sv) := by k_get
theorem ents_resources : getL (Str.ofString "_resources") (st.ents w S2 sv mv more) = some (some (.ref st.R)) := by k_get
theorem ents_synchronizers : getL (Str.ofString "_synchronizers") (st.ents w S2 sv mv more) = some (some (.ref S2)) := by k_get
theorem ents_manager : getL (Str.ofString "_manager") (st.ents w S2 sv mv more) = some (some mv) := by k_get
theorem ents_voted : getL (Str.ofString "_voted") (st.ents w S2 sv mv more) = some (some (.ref st.V)) := by k_get
theorem ents_before_commit : getL (Str.ofString "_before_commit") (st.ents w S2 sv mv more) = some (some (.ref st.B1)) := by k_get
theorem ents_after_commit : getL (Str.ofString "_after_commit") (st.ents w S2 sv mv more) = some (some (.ref st.A1)) := by k_get
theorem ents_before_abort : getL (Str.ofString "_before_abort") (st.ents w S2 sv mv more) = some (some (.ref st.B2)) := by k_get
theorem ents_after_abort : getL (Str.ofString "_after_abort") (st.ents w S2 sv mv more) = some (some (.ref st.A2)) := by k_get
theorem ents_none (hm : MoreOk w more n) {x : Str} (h : ["status", "_resources", "_synchronizers", "_manager", "_adapters", "_voted", "extension", "_failure_traceback", "_before_commit", "_after_commit", "_before_abort", "_after_abort", "_data"].all (fun a => (Str.ofString a == x) == false) = true) :
    getL x (st.ents w S2 sv mv more) = some none := by
  simp only [List.all_cons, List.all_nil, Bool.and_true, Bool.and_eq_true, beq_iff_eq] at h
  obtain ⟨a1, a2, a3, a4, a5, a6, a7, a8, a9, a10, a11, a12, a13⟩ := h
  exact getL_skip a1 (getL_skip a2 (getL_skip a3 (getL_skip a4 (getL_skip a5 (getL_skip a6 (getL_skip a7 (getL_skip a8 (getL_skip a9 (getL_skip a10 (getL_skip a11 (getL_skip a12 (getL_more hm a13))))))))))))
theorem put_status {hs : Int} {k v : Value} : (putL (Str.ofString "status") hs k v (st.ents w S2 sv mv more), putN (Str.ofString "status") (st.ents w S2 sv mv more) n) = (st.ents w S2 v mv more, n) := by k_put
theorem ents_noref (hm : MoreOk w more n) : NoRef (st.ents w S2 sv mv more) := by
  rcases hm with ⟨rfl, rfl⟩ | ⟨t, v, rfl, rfl⟩ <;> rfl
theorem ents_le12 : (st.ents w S2 sv mv []).length ≤ 12 := Nat.le_refl _
theorem len_ents (hm : MoreOk w more n) : (st.ents w S2 sv mv more).length ≤ 1000 := len_more hm
end
end Mine
end
section
open PySem PySem.W PyProof.Rows PySem.Calls PySem.Spec PyProof.V
namespace Mine
noncomputable def Thr : Prop := True
noncomputable def FreeMid (w : World) (st : Tst) (S2 : Nat) (sv : Value) (g : Heap) (L : Addr) (m : Str → Option Value) (led : List (Addr × Obj)) (s₀ : Shared) (f : Flow) (s' : Shared) : Prop :=
  f = .next ∧ ∃ h₂ tk₂ nn, s' = { s₀ with heap := h₂, toks := tk₂ } ∧ Fr g L h₂ m ∧ News g L h₂ ((st.TD, dictOf (st.ents w S2 sv .none []) nn) :: led)
section
local macro_rules | `(tactic| walk_at "call ref") => `(tactic| (refine hold ?_))
local macro_rules | `(tactic| walk_at "execs cons") => `(tactic| ((fail_if_success (have z : Thr := by with_reducible assumption)); refine hold ?_))
local macro_rules | `(tactic| k_all) => `(tactic| first | exact List.forall_mem_nil _ | with_reducible assumption | (refine List.forall_mem_cons.mpr ⟨by k_ne, by k_all⟩))
local macro_rules | `(tactic| k_mem) => `(tactic| first | exact List.Mem.head _ | with_reducible assumption | (refine' List.Mem.tail _ ?_; k_mem) | assumption)
local macro_rules | `(tactic| k_get) => `(tactic| first
  | (refine' getL_isSome ?a; (case a => k_get))
  | (refine' getL_isSome' ?a; (case a => k_get))
  | with_reducible exact ents_status
  | with_reducible exact ents_resources
  | with_reducible exact ents_synchronizers
  | with_reducible exact ents_manager
  | with_reducible exact ents_before_commit
  | with_reducible exact ents_after_commit
  | with_reducible exact ents_before_abort
  | with_reducible exact ents_after_abort
  | exact ents_none (by with_reducible assumption) (by decide +kernel))
local macro_rules | `(tactic| walk_at "call builtin:hasattr") => `(tactic| (k_here; first
  | (k_dflt (refine' has_no (by k_asm) (by k_asm) (by k_asm) (by k_inst) (by k_is) (by k_is) (by k_is) (by decide) (by first | k_get | exact rfl) (by k_is) (by k_is) (by first | decide +kernel | exact rfl) (by first | decide +kernel | exact rfl) (by exact rfl) ?_); intro h' tk' F' N')
  | (k_dflt (refine' has_yes (by k_asm) (by k_asm) (by k_inst) (by k_is) (by k_is) (by k_is) (by k_is) (by k_get) (by first | rfl | assumption) (by k_is) ?_))))
local macro_rules | `(tactic| walk_at "call builtin:delattr") => `(tactic| (k_here; k_dflt (refine' delattr_c (by k_asm) (by k_asm) (by k_asm) (by k_inst) (by exact rfl) (by k_is) (by k_is) (by k_is) (by k_is) (by rfl) (by rfl) (by k_upd) ?_); intro h' tk' F' N'; (try dsimp only [Nat.reduceAdd] at N'); (try k_sweep)))
local macro_rules | `(tactic| walk_at "delItem") => `(tactic| (k_here; k_dflt (refine' del_none (by k_asm) (by k_asm) (by exact rfl) (by k_mem) ?_); intro h' tk' F' N'))
local macro_rules | `(tactic| walk_at "setAttr ref") => `(tactic| (k_here; k_dflt
  (refine' set_dict_o (by k_asm) (by k_asm) (by k_asm) (by k_inst) (by exact rfl) (by k_is) (by k_is) (by k_is) (by k_is) (by first | with_reducible assumption | exact ents_noref (by with_reducible assumption)) (by k_updF) (by first | with_reducible assumption | exact ents_le12) (by decide) ?_; intro h' es' n' e1' e2' nr' le' F' N'; clear e1' e2'; (try dsimp only at N'); (try k_sweep))))
theorem free_c {w : World} (O OD S2 : Nat) (t1 t2 t3 : Tok) (st : Tst) (sv tv mv : Value) (more : List DictEntry) (n : Nat) (hm : MoreOk w more n) (hv : (tv = .ref st.T ∧ mv = .ref O) ∨ (tv = .none ∧ mv = .none)) (hlo : OD < O ∧ O < st.TD) (hc : st.Chain) :
    Claim w 80 400 493 [.ref st.T] (ownerLed w O OD S2 tv t1 t2 t3 ++ st.led w S2 sv mv more n) [OD, st.TD] (fun _ => True)
      (fun _ v h' => v = .none ∧ h'.get? OD = some (dictOf [ent w "explicit" t1 (.bool false), ent w "_txn" t2 .none, ent w "_synchs" t3 (.ref S2)] 3)) := by
  unfold Claim
  k_fill
  intro dp un gd cn cs a ccd cl outer A₀ base h₀ L m mg mb mean s Q E B F X N T hk hd hu _ hret
  refine wpAny_call ?_
  k_dflt (refine' enter_plain (binds := [(Str.ofString "self", .ref st.T)]) B F X N T rfl rfl hk (by k_is) (by k_is) ?hr (BindsTo.of_eq rfl) (locs rfl) ?_ rfl rfl rfl (by decide))
  case hr => exact Nat.lt_of_le_of_lt (Nat.le_add_right _ _) hd
  intro g' L' h' hG hup l1 FG' F' N₀ B' X' T'
  refine wpAny_hide ?_
  intro QF EF hQF hEF
  clear l1
  try dsimp only
  obtain ⟨q0, q1, q2⟩ := olds2 hlo hc.c1
  obtain ⟨rest, Nr, hT, hB⟩ := News.cut N₀ [OD, st.TD]
  have f2 : ∀ p ∈ rest, p.1 ≠ OD := fun p hp q => hT p hp (q ▸ .head _)
  have f3 : ∀ p ∈ rest, p.1 ≠ st.TD := fun p hp q => hT p hp (q ▸ in1)
  have mO : (O, instObj 814 OD) ∈ rest := hB _ (.head _) q1
  have mT : (st.T, instObj 542 st.TD) ∈ rest := hB _ (in2) (q2 _ (Nat.le_refl _))
  have mm : ∀ p ∈ st.lists, p ∈ rest := fun p hp => hB p (.tail _ (.tail _ (.tail _ (.tail _ hp)))) (q2 _ (Nat.le_of_lt (hc.lists p hp)))
  have mR := mm (st.R, listOf #[] 0) (.head _)
  have m1 := mm (st.B1, listOf #[] 0) (in2)
  have m2 := mm (st.A1, listOf #[] 0) (in3)
  have m3 := mm (st.B2, listOf #[] 0) (in4)
  have m4 := mm (st.A2, listOf #[] 0) (in5)
  have N₁ := News.cons0 (N₀ _ (in1)) (News.cons0 (N₀ _ (in3)) Nr)
  clear N₀ q1 q2 mm
  refine wpAny_execs_cons ?_
  k_steps
  refine Hold.out (Claim.use (freeMgr_c O OD S2 t1 t2 t3 st sv tv mv _ _ hm hv ⟨hlo.1, hlo.2, hc.c1⟩) B' F' X' N₁ T' rfl ((fa4 (.tail _ (.tail _ mO)) (.head _) (.tail _ (.tail _ mT)) (in1))) ?_ ?_ trivial ?_)
  · dsimp only [Around.deeper, ktrTop]; first | exact room2 hd (by decide) | exact room2 hu (by decide) | omega
  · dsimp only [Around.deeper, ktrTop]; first | exact room2 hd (by decide) | exact room2 hu (by decide) | omega
  rintro v h₂ tk₂ hk₂ ⟨rfl, hO, hTD⟩
  have F₂ := Fr.turns F' N₁ ((fa2 ⟨_, .head _⟩ ⟨_, in1⟩)) hk₂
  have N₂ := News.cons0 (p := (st.TD, _)) ⟨hTD, (N₁ _ (in1)).2⟩ (News.cons0 (p := (OD, _)) ⟨hO, (N₁ _ (.head _)).2⟩ (News.off' Nr hT hk₂))
  clear F' N₁ hk₂ hO hTD Nr hT
  try dsimp only
  k_steps
  refine Hold.out (wpAny_execs_cons (wpAny_mono (Q := FreeMid w st S2 sv g' L' (fun y => [(Str.ofString "self", Value.ref st.T)].lookup y) ((OD, dictOf [ent w "explicit" t1 (.bool false), ent w "_txn" t2 .none, ent w "_synchs" t3 (.ref S2)] 3) :: rest) { s with heap := h₂, toks := tk₂ }) ?_ ?_ fun _ _ e => e))
  · have thr : Thr := trivial
    have hm' := hm
    rcases hm with ⟨rfl, rfl⟩ | ⟨t, d, rfl, rfl⟩
    all_goals (
      k_steps
      rename News g' L' _ _ => N₃
      rename Fr g' L' _ _ => F₃
      exact ⟨rfl, _, _, _, rfl, F₃, N₃⟩)
  rintro f s' ⟨rfl, h₃, tk₃, nn, rfl, F₃, N₃⟩
  clear F₂ N₂ hm
  have hm : MoreOk w [] 12 := .inl ⟨rfl, rfl⟩
  have thr : Thr := trivial
  try dsimp only
  k_steps
  rename News g' L' _ _ => N₄
  rename Fr g' L' _ _ => F₄
  refine hQF _ _ ?_
  refine leaveK_ (by assumption) (by assumption) fun _ _ => ?_
  exact hret _ _ _ (kept_end N hG F₄.keep fun p hp hn => (N₄ p (.tail _ (.tail _ (hB p hp hn)))).1) ⟨rfl, (N₄ _ (in1)).1⟩
end
end Mine
end
section
open PySem PySem.W PyProof.Rows PySem.Calls PySem.Spec PyProof.V
namespace Mine
section
local macro_rules | `(tactic| walk_at "eval Lambda") => `(tactic| (k_here; k_dflt (refine' kla_eval ?d0 ?_; (case d0 => exact rfl)); (k_dflt (refine' lam_any ?F ?N ?T ?C ?cd ?U ?t ?cl ?_; (case F => k_asm); (case N => k_asm); (case T => k_asm); (case cd => exact rfl); (case C => kn_code); (case U => k_updF); (case t => assumption); (case cl => exact rfl); k_whole); intro f' h' tk' ps' F' N' t'; (try dsimp only at N'))))
local macro_rules | `(tactic| walk_at "compareOp Is") => `(tactic| ((with_reducible show wpAny _ _ (compareOp CmpOp.Is (Value.str _ _) (Value.str _ _)) _ _ _); refine is_str_other (by decide) (by decide) (by decide +kernel) ?_))
local macro_rules | `(tactic| walk_at "exec Try") => `(tactic| (k_here; (first | refine wpAny_Try_except ?_ | refine wpAny_Try_finally ?_ | refine wpAny_Try_except_finally ?_); (try k_fold)))
local macro_rules | `(tactic| walk_at "call ref") => `(tactic| ((with_reducible show wpAny _ _ (call (Value.ref 73) _ _) _ _ _); refine hold ?_))
local macro_rules | `(tactic| walk_at "call ref") => `(tactic| ((with_reducible show wpAny _ _ (call (Value.ref 474) _ _) _ _ _); refine hold ?_))
local macro_rules | `(tactic| walk_at "call ref") => `(tactic| ((with_reducible show wpAny _ _ (call (Value.ref 493) _ _) _ _ _); refine hold ?_))
local macro_rules | `(tactic| k_lt $h:ident) => `(tactic| (replace $h := allLt_of $h; dsimp only [AllLt] at $h:ident))
local macro_rules | `(tactic| k_all) => `(tactic| first | exact List.forall_mem_nil _ | with_reducible assumption | (refine List.forall_mem_cons.mpr ⟨by k_ne, by k_all⟩))
local macro_rules | `(tactic| k_mem) => `(tactic| first | exact List.Mem.head _ | with_reducible assumption | (refine' List.Mem.tail _ ?_; k_mem) | assumption)
local macro_rules | `(tactic| k_get) => `(tactic| first
  | (refine' getL_isSome ?a; (case a => k_get))
  | (refine' getL_isSome' ?a; (case a => k_get))
  | with_reducible exact ents_status
  | with_reducible exact ents_resources
  | with_reducible exact ents_synchronizers
  | with_reducible exact ents_manager
  | with_reducible exact ents_before_commit
  | with_reducible exact ents_after_commit
  | with_reducible exact ents_before_abort
  | with_reducible exact ents_after_abort
  | exact ents_none (by with_reducible assumption) (by decide +kernel))
local macro_rules | `(tactic| is_list) => `(tactic| exact News.isList (by k_asm) (by k_mem))
local macro_rules | `(tactic| k_put) => `(tactic| first | with_reducible exact put_status)
local macro_rules | `(tactic| walk_at "setAttr ref") => `(tactic| (k_here; k_dflt
  (refine' set_dict (by k_asm) (by k_asm) (by k_asm) (by k_inst) (by exact rfl) (by k_is) (by k_is) (by k_is) (by k_is) (by k_get) (by k_put) (by k_upd) (by exact len_ents (by with_reducible assumption)) ?_; intro h' F' N'; (try k_sweep))))
theorem commit_c {w : World} (O OD S2 SD2 DL2 : Nat) (t1 t2 t3 : Tok) (hh : Int) (t4 : Tok) (n2 : Nat) (ps : Array Value) (st : Tst) (hc : st.Chain) (more : List DictEntry) (n : Nat) (hm : MoreOk w more n) (hlo : 875 < OD ∧ OD < O ∧ O < SD2 ∧ SD2 < S2 ∧ S2 < DL2 ∧ DL2 < st.TD) :
    Claim w 120 600 358 [.ref st.T] ((353, tabObj ps) :: ownerLed w O OD S2 (.ref st.T) t1 t2 t3 ++ setLed S2 SD2 DL2 hh t4 [] n2 ++ st.led w S2 active (.ref O) more n) [353, OD, st.TD] (fun _ => TriplesOk ps.toList) (fun _ v h' => v = .none ∧ h'.get? OD = some (dictOf [ent w "explicit" t1 (.bool false), ent w "_txn" t2 .none, ent w "_synchs" t3 (.ref S2)] 3) ∧ ∃ ps', TriplesOk ps'.toList ∧ h'.get? 353 = some (tabObj ps')) := by
  unfold Claim
  k_fill
  intro dp un gd cn cs a ccd cl outer A₀ base h₀ L m mg mb mean s Q E B F X N T hk hd hu hpre hret
  obtain ⟨⟨e1, e2, e3⟩, q1, q2, q3, q4, q5⟩ := olds_ne (P := 353) (by decide) hlo hc.c1
  have d2 : OD < O := hlo.2.1
  have d6 : O < st.TD := Nat.lt_trans hlo.2.2.1 (Nat.lt_trans hlo.2.2.2.1 (Nat.lt_trans hlo.2.2.2.2.1 hlo.2.2.2.2.2))
  clear hlo
  refine wpAny_call ?_
  k_dflt (refine' enter_cells (binds := [(Str.ofString "self", .ref st.T)]) B F X N T rfl rfl hk (by k_is) (by k_is) ?hr (BindsTo.of_eq rfl) ?kB ?kD ?_ rfl rfl rfl)
  case hr => exact Nat.lt_of_le_of_lt (Nat.le_add_right _ _) hd
  case kB => exact rfl
  case kD => decide +kernel
  intro g' L' h' tk' cells' hG hup l1 FG' F' N₀ Y' B' X' T'
  refine wpAny_hide ?_
  intro QF EF hQF hEF
  have hC := codeHd_of_K (c := 357) (P := 353) X' (by kernel_rfl)
  have z1 : @Ne Nat 353 (L' + 1) := Nat.ne_of_lt (Nat.lt_succ_of_lt (l1 _ (.head _)))
  have z2 : @Ne Nat OD (L' + 1) := Nat.ne_of_lt (Nat.lt_succ_of_lt (l1 _ (in2)))
  have z3 : @Ne Nat st.TD (L' + 1) := Nat.ne_of_lt (Nat.lt_succ_of_lt (l1 _ (in7)))
  clear l1
  k_cells Y'
  try dsimp only
  obtain ⟨rest, Nr, hT, hB⟩ := News.cut (News.sub N₀ fun p hp => .tail _ hp) [353, OD, st.TD]
  obtain ⟨f1, f2, f3⟩ := off1 hT
  have mO : (O, instObj 814 OD) ∈ rest := hB _ (in1) q1
  have mS : (S2, instObj 83 SD2) ∈ rest := hB _ (in3) q2
  have mD : (SD2, dictOf [⟨hh, .str (Str.ofString "data") t4, .ref DL2⟩] 1) ∈ rest := hB _ (in4) q3
  have mL : (DL2, listOf ([] : List Value).toArray n2) ∈ rest := hB _ (in5) q4
  have mT : (st.T, instObj 542 st.TD) ∈ rest := hB _ (in6) (q5 _ (Nat.le_refl _))
  have mm : ∀ p ∈ st.lists, p ∈ rest := fun p hp => hB p (.tail _ (.tail _ (.tail _ (.tail _ (.tail _ (.tail _ (.tail _ (.tail _ hp)))))))) (q5 _ (Nat.le_of_lt (hc.lists p hp)))
  have mR := mm (st.R, listOf #[] 0) (.head _)
  have mV := mm (st.V, listOf #[] 0) (in1)
  have m1 := mm (st.B1, listOf #[] 0) (in2)
  have m2 := mm (st.A1, listOf #[] 0) (in3)
  have m3 := mm (st.B2, listOf #[] 0) (in4)
  have m4 := mm (st.A2, listOf #[] 0) (in5)
  have N' := News.cons0 (N₀ _ (.head _)) (News.cons0 (N₀ _ (in1)) (News.cons0 (N₀ _ (in3)) (News.cons0 (N₀ _ (in8)) Nr)))
  clear N₀ Nr hT q1 q2 q3 q4 q5 mm
  try dsimp only at N'
  k_steps
  rename News g' L' _ _ => N₁
  rename Fr g' L' _ _ => F₁
  refine Hold.out (Claim.use (map_nil_c S2 SD2 DL2 _ hh t4 n2) B' F₁ X' N₁ T' rfl ?_ ?_ ?_ trivial ?_)
  · exact (fa3 (by k_mem) (by k_mem) (by k_mem))
  · dsimp only [Around.deeper, ktrTop]; first | exact room2 hd (by decide) | exact room2 hu (by decide) | omega
  · dsimp only [Around.deeper, ktrTop]; first | exact room2 hd (by decide) | exact room2 hu (by decide) | omega
  rintro v' h₂ tk₂ hk₂ rfl
  have hk3 : ∀ b o, _ → h₂.get? b = some o := fun b o e => hk₂ b o e List.not_mem_nil
  have N₂ := News.keep N₁ hk3
  have F₂ := F₁.keptAll hk3
  clear hk₂ hk3
  clear N₁ F₁
  try dsimp only
  k_steps
  rename News g' L' _ _ => N₁
  rename Fr g' L' _ _ => F₁
  refine Hold.out (Claim.use (commitRes_c S2 st (.str (Str.ofString "Committing") 413) (.ref O) _ _ hm) B' F₁ X' N₁ T' rfl ?_ ?_ ?_ trivial ?_)
  · exact (fa3 (by k_mem) (by k_mem) (by k_mem))
  · dsimp only [Around.deeper, ktrTop]; first | exact room2 hd (by decide) | exact room2 hu (by decide) | omega
  · dsimp only [Around.deeper, ktrTop]; first | exact room2 hd (by decide) | exact room2 hu (by decide) | omega
  rintro v' h₂ tk₂ hk₂ rfl
  have hk3 : ∀ b o, _ → h₂.get? b = some o := fun b o e => hk₂ b o e List.not_mem_nil
  have N₂ := News.keep N₁ hk3
  have F₂ := F₁.keptAll hk3
  clear hk₂ hk3
  clear N₁ F₁
  try dsimp only
  k_steps
  rename News g' L' _ _ => N₁
  rename Fr g' L' _ _ => F₁
  refine Hold.out (Claim.use (map_nil_c S2 SD2 DL2 _ hh t4 n2) B' F₁ X' N₁ T' rfl ?_ ?_ ?_ trivial ?_)
  · exact (fa3 (by k_mem) (by k_mem) (by k_mem))
  · dsimp only [Around.deeper, ktrTop]; first | exact room2 hd (by decide) | exact room2 hu (by decide) | omega
  · dsimp only [Around.deeper, ktrTop]; first | exact room2 hd (by decide) | exact room2 hu (by decide) | omega
  rintro v' h₂ tk₂ hk₂ rfl
  have hk3 : ∀ b o, _ → h₂.get? b = some o := fun b o e => hk₂ b o e List.not_mem_nil
  have N₂ := News.keep N₁ hk3
  have F₂ := F₁.keptAll hk3
  clear hk₂ hk3
  clear N₁ F₁
  try dsimp only
  k_steps
  rename News g' L' _ _ => N₁
  rename Fr g' L' _ _ => F₁
  rename Array Value => ps9
  refine Hold.out (Claim.use (free_c O OD S2 t1 t2 t3 st (.str (Str.ofString "Committed") 415) (.ref st.T) (.ref O) _ _ hm (.inl ⟨rfl, rfl⟩) ⟨d2, d6⟩ hc) B' F₁ X' N₁ T' rfl ?_ ?_ ?_ trivial ?_)
  · exact (fa10 (by k_mem) (by k_mem) (by k_mem) (by k_mem) (by k_mem) (by k_mem) (by k_mem) (by k_mem) (by k_mem) (by k_mem))
  · dsimp only [Around.deeper, ktrTop]; first | exact room2 hd (by decide) | exact room2 hu (by decide) | omega
  · dsimp only [Around.deeper, ktrTop]; first | exact room2 hd (by decide) | exact room2 hu (by decide) | omega
  rintro v' h₂ tk₂ hk₂ ⟨rfl, hO⟩
  have F₂ := Fr.turns F₁ N₁ ((fa2 ⟨_, by k_mem⟩ ⟨_, by k_mem⟩)) hk₂
  have N₂ := News.cons0 (p := (OD, dictOf [ent w "explicit" t1 (.bool false), ent w "_txn" t2 .none, ent w "_synchs" t3 (.ref S2)] 3)) ⟨hO, (N₁ _ (in3)).2⟩ (News.cons0 ⟨hk₂ _ _ (N₁ _ (in2)).1 (notin_cons (Ne.symm e1) (notin_cons (Ne.symm e2) notin_nil)), (N₁ _ (in2)).2⟩ (News.off' (News.sub N₁ fun p hp => .tail _ (.tail _ (.tail _ (.tail _ (.tail _ hp))))) (fun p hp => notin_cons (f2 p hp) (notin_cons (f3 p hp) notin_nil)) hk₂))
  clear N₁ F₁ hk₂ hO
  try dsimp only
  k_steps
  rename News g' L' _ _ => N₃
  rename Fr g' L' _ _ => F₃
  refine hQF _ _ ?_
  refine leaveK_ (by assumption) (by assumption) fun _ _ => ?_
  exact hret _ _ _ (kept_end N hG F₃.keep fun p hp hn => (N₃ p (.tail _ (.tail _ (hB p hp hn)))).1) ⟨rfl, (N₃ _ (.head _)).1, _, ‹TriplesOk ps9.toList›, (N₃ _ (in1)).1⟩
end
end Mine
end
section
open PySem PySem.W PyProof.Rows PySem.Calls PySem.Spec PyProof.V
namespace Mine
section
local macro_rules | `(tactic| walk_at "eval Lambda") => `(tactic| (k_here; k_dflt (refine' kla_eval ?d0 ?_; (case d0 => exact rfl)); (k_dflt (refine' lam_any ?F ?N ?T ?C ?cd ?U ?t ?cl ?_; (case F => k_asm); (case N => k_asm); (case T => k_asm); (case cd => exact rfl); (case C => kn_code); (case U => k_updF); (case t => assumption); (case cl => exact rfl); k_whole); intro f' h' tk' ps' F' N' t'; (try dsimp only at N'))))
local macro_rules | `(tactic| walk_at "exec Try") => `(tactic| (k_here; (first | refine wpAny_Try_except ?_ | refine wpAny_Try_finally ?_ | refine wpAny_Try_except_finally ?_); (try k_fold)))
local macro_rules | `(tactic| walk_at "call ref") => `(tactic| ((with_reducible show wpAny _ _ (call (Value.ref 73) _ _) _ _ _); refine hold ?_))
local macro_rules | `(tactic| walk_at "call ref") => `(tactic| ((with_reducible show wpAny _ _ (call (Value.ref 486) _ _) _ _ _); refine hold ?_))
local macro_rules | `(tactic| walk_at "call ref") => `(tactic| ((with_reducible show wpAny _ _ (call (Value.ref 493) _ _) _ _ _); refine hold ?_))
local macro_rules | `(tactic| k_lt $h:ident) => `(tactic| (replace $h := allLt_of $h; dsimp only [AllLt] at $h:ident))
local macro_rules | `(tactic| k_all) => `(tactic| first | exact List.forall_mem_nil _ | with_reducible assumption | (refine List.forall_mem_cons.mpr ⟨by k_ne, by k_all⟩))
local macro_rules | `(tactic| k_mem) => `(tactic| first | exact List.Mem.head _ | with_reducible assumption | (refine' List.Mem.tail _ ?_; k_mem) | assumption)
local macro_rules | `(tactic| k_get) => `(tactic| first
  | (refine' getL_isSome ?a; (case a => k_get))
  | (refine' getL_isSome' ?a; (case a => k_get))
  | with_reducible exact ents_status
  | with_reducible exact ents_resources
  | with_reducible exact ents_synchronizers
  | with_reducible exact ents_manager
  | with_reducible exact ents_before_commit
  | with_reducible exact ents_after_commit
  | with_reducible exact ents_before_abort
  | with_reducible exact ents_after_abort
  | exact ents_none (by with_reducible assumption) (by decide +kernel))
local macro_rules | `(tactic| is_list) => `(tactic| exact News.isList (by k_asm) (by k_mem))
local macro_rules | `(tactic| k_put) => `(tactic| first | with_reducible exact put_status)
local macro_rules | `(tactic| walk_at "pyIter ref") => `(tactic| ((with_reducible show wpAny _ _ (pyIter (Value.ref _)) (fun it s₂ => LoopAtV _ _ _ _ _ _ _ _ _ it s₂) _ _); (rename Fr _ _ _ _ => lF'); (rename News _ _ _ _ => lN'); (with_unfolding_all refine iter_listUnr (vs := []) (by rfl) lF' lN' (by k_mem) (by rfl) (by rfl) ?_); clear lF' lN'; intro i' l1; clear l1))
theorem abort_c {w : World} (O OD S2 SD2 DL2 : Nat) (t1 t2 t3 : Tok) (hh : Int) (t4 : Tok) (n2 : Nat) (ps : Array Value) (st : Tst) (hc : st.Chain) (more : List DictEntry) (n : Nat) (hm : MoreOk w more n) (hlo : 875 < OD ∧ OD < O ∧ O < SD2 ∧ SD2 < S2 ∧ S2 < DL2 ∧ DL2 < st.TD) :
    Claim w 120 600 510 [.ref st.T] ((505, tabObj ps) :: ownerLed w O OD S2 (.ref st.T) t1 t2 t3 ++ setLed S2 SD2 DL2 hh t4 [] n2 ++ st.led w S2 active (.ref O) more n) [505, OD, st.TD] (fun _ => TriplesOk ps.toList) (fun _ v h' => v = .none ∧ h'.get? OD = some (dictOf [ent w "explicit" t1 (.bool false), ent w "_txn" t2 .none, ent w "_synchs" t3 (.ref S2)] 3) ∧ ∃ ps', TriplesOk ps'.toList ∧ h'.get? 505 = some (tabObj ps')) := by
  unfold Claim
  k_fill
  intro dp un gd cn cs a ccd cl outer A₀ base h₀ L m mg mb mean s Q E B F X N T hk hd hu hpre hret
  obtain ⟨⟨e1, e2, e3⟩, q1, q2, q3, q4, q5⟩ := olds_ne (P := 505) (by decide) hlo hc.c1
  have d2 : OD < O := hlo.2.1
  have d6 : O < st.TD := Nat.lt_trans hlo.2.2.1 (Nat.lt_trans hlo.2.2.2.1 (Nat.lt_trans hlo.2.2.2.2.1 hlo.2.2.2.2.2))
  clear hlo
  refine wpAny_call ?_
  k_dflt (refine' enter_cells (binds := [(Str.ofString "self", .ref st.T)]) B F X N T rfl rfl hk (by k_is) (by k_is) ?hr (BindsTo.of_eq rfl) ?kB ?kD ?_ rfl rfl rfl)
  case hr => exact Nat.lt_of_le_of_lt (Nat.le_add_right _ _) hd
  case kB => exact rfl
  case kD => decide +kernel
  intro g' L' h' tk' cells' hG hup l1 FG' F' N₀ Y' B' X' T'
  refine wpAny_hide ?_
  intro QF EF hQF hEF
  have hC := codeHd_of_K (c := 509) (P := 505) X' (by kernel_rfl)
  have z1 : @Ne Nat 505 (L' + 1) := Nat.ne_of_lt (Nat.lt_succ_of_lt (l1 _ (.head _)))
  have z2 : @Ne Nat OD (L' + 1) := Nat.ne_of_lt (Nat.lt_succ_of_lt (l1 _ (in2)))
  have z3 : @Ne Nat st.TD (L' + 1) := Nat.ne_of_lt (Nat.lt_succ_of_lt (l1 _ (in7)))
  clear l1
  k_cells Y'
  try dsimp only
  obtain ⟨rest, Nr, hT, hB⟩ := News.cut (News.sub N₀ fun p hp => .tail _ hp) [505, OD, st.TD]
  obtain ⟨f1, f2, f3⟩ := off1 hT
  have mO : (O, instObj 814 OD) ∈ rest := hB _ (in1) q1
  have mS : (S2, instObj 83 SD2) ∈ rest := hB _ (in3) q2
  have mD : (SD2, dictOf [⟨hh, .str (Str.ofString "data") t4, .ref DL2⟩] 1) ∈ rest := hB _ (in4) q3
  have mL : (DL2, listOf ([] : List Value).toArray n2) ∈ rest := hB _ (in5) q4
  have mT : (st.T, instObj 542 st.TD) ∈ rest := hB _ (in6) (q5 _ (Nat.le_refl _))
  have mm : ∀ p ∈ st.lists, p ∈ rest := fun p hp => hB p (.tail _ (.tail _ (.tail _ (.tail _ (.tail _ (.tail _ (.tail _ (.tail _ hp)))))))) (q5 _ (Nat.le_of_lt (hc.lists p hp)))
  have mR := mm (st.R, listOf #[] 0) (.head _)
  have mV := mm (st.V, listOf #[] 0) (in1)
  have m1 := mm (st.B1, listOf #[] 0) (in2)
  have m2 := mm (st.A1, listOf #[] 0) (in3)
  have m3 := mm (st.B2, listOf #[] 0) (in4)
  have m4 := mm (st.A2, listOf #[] 0) (in5)
  have N' := News.cons0 (N₀ _ (.head _)) (News.cons0 (N₀ _ (in1)) (News.cons0 (N₀ _ (in3)) (News.cons0 (N₀ _ (in8)) Nr)))
  clear N₀ Nr hT q1 q2 q3 q4 q5 mm
  try dsimp only at N'
  k_steps
  rename News g' L' _ _ => N₁
  rename Fr g' L' _ _ => F₁
  refine Hold.out (Claim.use (map_nil_c S2 SD2 DL2 _ hh t4 n2) B' F₁ X' N₁ T' rfl ?_ ?_ ?_ trivial ?_)
  · exact (fa3 (by k_mem) (by k_mem) (by k_mem))
  · dsimp only [Around.deeper, ktrTop]; first | exact room2 hd (by decide) | exact room2 hu (by decide) | omega
  · dsimp only [Around.deeper, ktrTop]; first | exact room2 hd (by decide) | exact room2 hu (by decide) | omega
  rintro v' h₂ tk₂ hk₂ rfl
  have hk3 : ∀ b o, _ → h₂.get? b = some o := fun b o e => hk₂ b o e List.not_mem_nil
  have N₂ := News.keep N₁ hk3
  have F₂ := F₁.keptAll hk3
  clear hk₂ hk3
  clear N₁ F₁
  try dsimp only
  k_steps
  rename News g' L' _ _ => N₁
  rename Fr g' L' _ _ => F₁
  rename Array Value => ps9
  rename Obj => oc
  refine Hold.out (Claim.use (freeMgr_c O OD S2 t1 t2 t3 st active (.ref st.T) (.ref O) _ _ hm (.inl ⟨rfl, rfl⟩) ⟨d2, d6, hc.c1⟩) B' F₁ X' N₁ T' rfl ?_ ?_ ?_ trivial ?_)
  · exact (fa4 (by k_mem) (by k_mem) (by k_mem) (by k_mem))
  · dsimp only [Around.deeper, ktrTop]; first | exact room2 hd (by decide) | exact room2 hu (by decide) | omega
  · dsimp only [Around.deeper, ktrTop]; first | exact room2 hd (by decide) | exact room2 hu (by decide) | omega
  rintro v' h₂ tk₂ hk₂ ⟨rfl, hO, hT⟩
  have F₂ := Fr.turns F₁ N₁ ((fa2 ⟨_, by k_mem⟩ ⟨_, by k_mem⟩)) hk₂
  have y1 := (N₁ (OD, _) (by k_mem)).2
  have y2 := (N₁ (st.TD, _) (by k_mem)).2
  have N₂ := News.cons0 (p := (OD, dictOf [ent w "explicit" t1 (.bool false), ent w "_txn" t2 .none, ent w "_synchs" t3 (.ref S2)] 3)) ⟨hO, y1⟩ (News.cons0 (p := (st.TD, dictOf (st.ents w S2 active .none more) n)) ⟨hT, y2⟩ (News.cons0 (p := (L' + 1, oc)) ⟨hk₂ _ _ (N₁ (L' + 1, oc) (by k_mem)).1 (notin_cons (Ne.symm z2) (notin_cons (Ne.symm z3) notin_nil)), (N₁ (L' + 1, oc) (by k_mem)).2⟩ (News.cons0 ⟨hk₂ _ _ (N₁ (505, tabObj ps9) (by k_mem)).1 (notin_cons (Ne.symm e1) (notin_cons (Ne.symm e2) notin_nil)), (N₁ (505, tabObj ps9) (by k_mem)).2⟩ (News.off' (News.sub N₁ (fun p hp => by repeat (first | exact hp | refine List.Mem.tail _ ?_))) (fun p hp => notin_cons (f2 p hp) (notin_cons (f3 p hp) notin_nil)) hk₂))))
  clear N₁ F₁ hk₂ hO hT
  try dsimp only
  k_steps
  rename News g' L' _ _ => N₁
  rename Fr g' L' _ _ => F₁
  refine Hold.out (Claim.use (map_nil_c S2 SD2 DL2 _ hh t4 n2) B' F₁ X' N₁ T' rfl ?_ ?_ ?_ trivial ?_)
  · exact (fa3 (by k_mem) (by k_mem) (by k_mem))
  · dsimp only [Around.deeper, ktrTop]; first | exact room2 hd (by decide) | exact room2 hu (by decide) | omega
  · dsimp only [Around.deeper, ktrTop]; first | exact room2 hd (by decide) | exact room2 hu (by decide) | omega
  rintro v' h₂ tk₂ hk₂ rfl
  have hk3 : ∀ b o, _ → h₂.get? b = some o := fun b o e => hk₂ b o e List.not_mem_nil
  have N₂ := News.keep N₁ hk3
  have F₂ := F₁.keptAll hk3
  clear hk₂ hk3
  clear N₁ F₁
  try dsimp only
  k_steps
  rename News g' L' _ _ => N₁
  rename Fr g' L' _ _ => F₁
  rename Array Value => ps9
  refine Hold.out (Claim.use (free_c O OD S2 t1 t2 t3 st active (.none) (.none) _ _ hm (.inr ⟨rfl, rfl⟩) ⟨d2, d6⟩ hc) B' F₁ X' N₁ T' rfl ?_ ?_ ?_ trivial ?_)
  · exact (fa10 (by k_mem) (by k_mem) (by k_mem) (by k_mem) (by k_mem) (by k_mem) (by k_mem) (by k_mem) (by k_mem) (by k_mem))
  · dsimp only [Around.deeper, ktrTop]; first | exact room2 hd (by decide) | exact room2 hu (by decide) | omega
  · dsimp only [Around.deeper, ktrTop]; first | exact room2 hd (by decide) | exact room2 hu (by decide) | omega
  rintro v' h₂ tk₂ hk₂ ⟨rfl, hO⟩
  have F₂ := Fr.turns F₁ N₁ ((fa2 ⟨_, by k_mem⟩ ⟨_, by k_mem⟩)) hk₂
  have y1 := (N₁ (OD, _) (by k_mem)).2
  have N₂ := News.cons0 (p := (OD, dictOf [ent w "explicit" t1 (.bool false), ent w "_txn" t2 .none, ent w "_synchs" t3 (.ref S2)] 3)) ⟨hO, y1⟩ (News.cons0 ⟨hk₂ _ _ (N₁ (505, tabObj ps9) (by k_mem)).1 (notin_cons (Ne.symm e1) (notin_cons (Ne.symm e2) notin_nil)), (N₁ (505, tabObj ps9) (by k_mem)).2⟩ (News.off' (News.sub N₁ (fun p hp => by repeat (first | exact hp | refine List.Mem.tail _ ?_))) (fun p hp => notin_cons (f2 p hp) (notin_cons (f3 p hp) notin_nil)) hk₂))
  clear N₁ F₁ hk₂ hO
  try dsimp only
  k_steps
  rename News g' L' _ _ => N₃
  rename Fr g' L' _ _ => F₃
  refine hQF _ _ ?_
  refine leaveK_ (by assumption) (by assumption) fun _ _ => ?_
  exact hret _ _ _ (kept_end N hG F₃.keep fun p hp hn => (N₃ p (.tail _ (.tail _ (hB p hp hn)))).1) ⟨rfl, (N₃ _ (.head _)).1, _, ‹TriplesOk ps9.toList›, (N₃ _ (in1)).1⟩
end
end Mine
end
section
open PySem PySem.W PyProof.Rows PySem.Calls PySem.Spec PyProof.V
namespace Mine
section
theorem get_old_c {w : World} (O OD S2 : Nat) (t1 t2 t3 : Tok) (T : Nat) :
    Claim w 80 400 695 [.ref O] (ownerLed w O OD S2 (.ref T) t1 t2 t3) [] (fun _ => True) (fun _ v _ => v = .ref T) := by
  unfold Claim ownerLed
  k_fill
  intro dp un gd cn cs a ccd cl outer A₀ base h₀ L m mg mb mean s Q E B F X N T hk hd hu hpre hret
  (try simp only [List.cons_append, List.nil_append] at N)
  refine wpAny_call ?_
  k_dflt (refine' enter_plain (binds := [(Str.ofString "self", .ref O)]) B F X N T rfl rfl hk (by k_is) (by k_is) ?hr (BindsTo.of_eq rfl) (locs rfl) ?_ rfl rfl rfl (by decide))
  case hr => exact Nat.lt_of_le_of_lt (Nat.le_add_right _ _) hd
  intro g' L' h' hG hup l1 FG' F' N' B' X' T'
  refine wpAny_hide ?_
  intro QF EF hQF hEF
  k_lt l1
  try dsimp only
  k_steps
  rename News g' L' _ _ => N₃
  rename Fr g' L' _ _ => F₃
  refine hQF _ _ ?_
  refine leaveK_ (by assumption) (by assumption) fun _ _ => ?_
  refine hret _ _ _ (kept_end N hG F₃.keep ?_) rfl
  exact (fa2 (fun _ => N₃.get (by k_mem)) (fun _ => N₃.get (by k_mem)))
theorem get_new2_c {w : World} (O OD S2 SD2 DL2 : Nat) (t1 t2 t3 : Tok) (hh : Int) (t4 : Tok) (n2 : Nat) (hlo : 875 < OD ∧ OD < O ∧ O < SD2 ∧ SD2 < S2 ∧ S2 < DL2) :
    Claim w 80 400 695 [.ref O] (ownerLed w O OD S2 .none t1 t2 t3 ++ setLed S2 SD2 DL2 hh t4 [] n2) [OD] (fun _ => True) (fun h v h' => ∃ st : Tst, v = .ref st.T ∧ st.Chain ∧ DL2 < st.TD ∧ Holds h' (st.led w S2 active (.ref O) [] 12) ∧ (∀ p ∈ st.led w S2 active (.ref O) [] 12, h.get? p.1 = none) ∧
      h'.get? OD = some (dictOf [ent w "explicit" t1 (.bool false), ent w "_txn" t2 (.ref st.T), ent w "_synchs" t3 (.ref S2)] 3)) := by
  obtain ⟨d1, d2, d3, d4, d5⟩ := hlo
  have hl : ∀ p ∈ setLed S2 SD2 DL2 hh t4 [] n2, @Ne Nat p.1 OD := (fa3 (Nat.ne_of_gt (Nat.lt_trans d2 (Nat.lt_trans d3 d4))) (Nat.ne_of_gt (Nat.lt_trans d2 d3)) (Nat.ne_of_gt (Nat.lt_trans d2 (Nat.lt_trans d3 (Nat.lt_trans d4 d5)))))
  intro dp un gd cn cs a ccd cl outer A₀ base h₀ L m mg mb mean s Q E B F X N T hk hd hu pre k
  refine get_new_g O OD S2 t1 t2 t3 (setLed S2 SD2 DL2 hh t4 [] n2) hl (Nat.ne_of_gt d2) dp un gd cn cs a ccd cl outer A₀ base h₀ L m mg mb mean s Q E B F X N T hk hd hu pre fun v h' tk hkk hp => k v h' tk hkk ?_
  obtain ⟨st, a, b, l, r⟩ := hp
  exact ⟨st, a, b, l (DL2, _) (in2), r⟩
end
end Mine
end
section
open PySem PySem.W PyProof.Rows PySem.Calls PySem.Spec PyProof.V
namespace Mine
theorem News.grow {h₀ h h' : Heap} {L : Addr} {m : Str → Option Value} {news extra : List (Addr × Obj)} (F : Fr h₀ L h m) (hl : Holds h' extra) (hf : ∀ p ∈ extra, h.get? p.1 = none) (N : News h₀ L h' news) : News h₀ L h' (extra ++ news) := fun p hp => by
  rcases List.mem_append.mp hp with hp | hp
  · refine ⟨hl p hp, fun q => ?_, ?_⟩
    · obtain ⟨oL, _, _, hL, _⟩ := F.ns
      have := hf p hp
      rw [q, hL] at this; cases this
    · cases z : h₀.get? p.1 with
      | none => rfl
      | some o' => have := F.keep _ _ z; rw [hf p hp] at this; cases this
  · exact N p hp
theorem News.hide {h₀ h : Heap} {L : Addr} {led : List (Addr × Obj)} (N : News h₀ L h led) : ∃ lo : List (Addr × Obj), (∀ p ∈ led, p ∈ lo) ∧ News h₀ L h lo := ⟨led, fun _ h => h, N⟩
theorem olds_lt {OD O SD2 S2 DL2 : Nat} (h : 875 < OD ∧ OD < O ∧ O < SD2 ∧ SD2 < S2 ∧ S2 < DL2) (P : Nat) (hP : P ≤ 875) : P ∉ ([OD] : List Nat) ∧ O ∉ ([OD] : List Nat) ∧ S2 ∉ ([OD] : List Nat) ∧ SD2 ∉ ([OD] : List Nat) ∧ DL2 ∉ ([OD] : List Nat) := by
  simp only [List.mem_singleton]
  refine ⟨?_, ?_, ?_, ?_, ?_⟩ <;> omega
section
local macro_rules | `(tactic| walk_at "call ref") => `(tactic| (refine hold ?_))
local macro_rules | `(tactic| k_mem) => `(tactic| first | exact List.Mem.head _ | with_reducible assumption | (refine' List.Mem.tail _ ?_; k_mem) | assumption)
local macro_rules | `(tactic| k_get) => `(tactic| first
  | (refine' getL_isSome ?a; (case a => k_get))
  | (refine' getL_isSome' ?a; (case a => k_get))
  | with_reducible exact ents_status
  | with_reducible exact ents_resources
  | with_reducible exact ents_synchronizers
  | with_reducible exact ents_manager
  | with_reducible exact ents_before_commit
  | with_reducible exact ents_after_commit
  | with_reducible exact ents_before_abort
  | with_reducible exact ents_after_abort
  | exact ents_none (by with_reducible assumption) (by decide +kernel))
theorem mcommit_old {w : World} (O OD S2 SD2 DL2 : Nat) (t1 t2 t3 : Tok) (hh : Int) (t4 : Tok) (n2 : Nat) (ps : Array Value) (st : Tst) (hc : st.Chain) (more : List DictEntry) (n : Nat) (hm : MoreOk w more n) (hlo : 875 < OD ∧ OD < O ∧ O < SD2 ∧ SD2 < S2 ∧ S2 < DL2 ∧ DL2 < st.TD) :
    Claim w 160 800 751 [.ref O] ((353, tabObj ps) :: ownerLed w O OD S2 (.ref st.T) t1 t2 t3 ++ setLed S2 SD2 DL2 hh t4 [] n2 ++ st.led w S2 active (.ref O) more n) [353, OD, st.TD] (fun _ => TriplesOk ps.toList) (fun _ v h' => v = .none ∧ h'.get? OD = some (dictOf [ent w "explicit" t1 (.bool false), ent w "_txn" t2 .none, ent w "_synchs" t3 (.ref S2)] 3) ∧ ∃ ps', TriplesOk ps'.toList ∧ h'.get? 353 = some (tabObj ps')) := by
  unfold Claim
  k_fill
  intro dp un gd cn cs a ccd cl outer A₀ base h₀ L m mg mb mean s Q E B F X N₀ T hk hd hu hpre hret
  obtain ⟨lo, hs, N⟩ := News.hide N₀
  refine wpAny_call ?_
  k_dflt (refine' enter_plain (binds := [(Str.ofString "self", .ref O)]) B F X N T rfl rfl hk (by k_is) (by k_is) ?hr (BindsTo.of_eq rfl) (locs rfl) ?_ rfl rfl rfl (by decide))
  case hr => exact Nat.lt_of_le_of_lt (Nat.le_add_right _ _) hd
  intro g' L' h' hG hup l1 FG' F' N' B' X' T'
  refine wpAny_hide ?_
  intro QF EF hQF hEF
  clear l1
  try dsimp only
  have mP := hs _ (.head _)
  have mO := hs (O, instObj 814 OD) (in1)
  have mOD := hs (OD, _) (in2)
  have mT := hs (st.T, instObj 542 st.TD) (in6)
  have mTD := hs (st.TD, _) (in7)
  k_steps
  refine Hold.out (Claim.use (get_old_c O OD S2 t1 t2 t3 st.T) B' F' X' N' T' rfl ((fa2 mO mOD)) ?_ ?_ trivial ?_)
  · dsimp only [Around.deeper, ktrTop]; first | exact room2 hd (by decide) | exact room2 hu (by decide) | omega
  · dsimp only [Around.deeper, ktrTop]; first | exact room2 hd (by decide) | exact room2 hu (by decide) | omega
  rintro v h₂ tk₂ hk₂ rfl
  have hk3 : ∀ b o, _ → h₂.get? b = some o := fun b o e => hk₂ b o e List.not_mem_nil
  have N₂ := News.keep N' hk3
  have F₂ := F'.keptAll hk3
  clear N' F' hk₂ hk3
  try dsimp only
  k_steps
  refine Hold.out (Claim.use (commit_c O OD S2 SD2 DL2 t1 t2 t3 hh t4 n2 ps st hc _ _ hm hlo) B' F₂ X' N₂ T' rfl hs ?_ ?_ hpre ?_)
  · dsimp only [Around.deeper, ktrTop]; first | exact room2 hd (by decide) | exact room2 hu (by decide) | omega
  · dsimp only [Around.deeper, ktrTop]; first | exact room2 hd (by decide) | exact room2 hu (by decide) | omega
  rintro v' h₃ tk₃ hk₃ ⟨rfl, P₃⟩
  have F₃ := Fr.turns F₂ N₂ ((fa3 ⟨_, mP⟩ ⟨_, mOD⟩ ⟨_, mTD⟩)) hk₃
  have K₃ := kept_end (mods := [353, OD, st.TD]) N hG F₃.keep fun p hp hn => hk₃ _ _ (N₂ p hp).1 hn
  have N₃ : News g' L' h₃ [] := fun _ h => nomatch h
  clear N₂ F₂ hk₃
  try dsimp only
  k_steps
  refine hQF _ _ ?_
  refine leaveK_ (by assumption) (by assumption) fun _ _ => ?_
  exact hret _ _ _ K₃ ⟨rfl, P₃⟩
theorem mcommit_new {w : World} (O OD S2 SD2 DL2 : Nat) (t1 t2 t3 : Tok) (hh : Int) (t4 : Tok) (n2 : Nat) (ps : Array Value) (hlo : 875 < OD ∧ OD < O ∧ O < SD2 ∧ SD2 < S2 ∧ S2 < DL2) :
    Claim w 160 800 751 [.ref O] ((353, tabObj ps) :: ownerLed w O OD S2 .none t1 t2 t3 ++ setLed S2 SD2 DL2 hh t4 [] n2) [353, OD] (fun _ => TriplesOk ps.toList) (fun _ v h' => v = .none ∧ h'.get? OD = some (dictOf [ent w "explicit" t1 (.bool false), ent w "_txn" t2 .none, ent w "_synchs" t3 (.ref S2)] 3) ∧ ∃ ps', TriplesOk ps'.toList ∧ h'.get? 353 = some (tabObj ps')) := by
  unfold Claim
  k_fill
  intro dp un gd cn cs a ccd cl outer A₀ base h₀ L m mg mb mean s Q E B F X N₀ T hk hd hu hpre hret
  obtain ⟨lo, hs, N⟩ := News.hide N₀
  refine wpAny_call ?_
  k_dflt (refine' enter_plain (binds := [(Str.ofString "self", .ref O)]) B F X N T rfl rfl hk (by k_is) (by k_is) ?hr (BindsTo.of_eq rfl) (locs rfl) ?_ rfl rfl rfl (by decide))
  case hr => exact Nat.lt_of_le_of_lt (Nat.le_add_right _ _) hd
  intro g' L' h' hG hup l1 FG' F' N' B' X' T'
  refine wpAny_hide ?_
  intro QF EF hQF hEF
  clear l1
  try dsimp only
  obtain ⟨q0, q1, q2, q3, q4⟩ := olds_lt hlo 353 (by decide)
  have mP := hs _ (.head _)
  have mO := hs (O, instObj 814 OD) (in1)
  have mOD := hs (OD, _) (in2)
  k_steps
  refine Hold.out (Claim.use (get_new2_c O OD S2 SD2 DL2 t1 t2 t3 hh t4 n2 hlo) B' F' X' N' T' rfl (fun p hp => hs p (.tail _ hp)) ?_ ?_ trivial ?_)
  · dsimp only [Around.deeper, ktrTop]; first | exact room2 hd (by decide) | exact room2 hu (by decide) | omega
  · dsimp only [Around.deeper, ktrTop]; first | exact room2 hd (by decide) | exact room2 hu (by decide) | omega
  rintro v h₂ tk₂ hk₂ ⟨st, rfl, hc, hlt, hH, hf, hO⟩
  have hm : MoreOk w [] 12 := .inl ⟨rfl, rfl⟩
  obtain ⟨rest, Nr, hT, hB⟩ := News.cut N' [OD]
  have Nr₂ := News.off' Nr hT hk₂
  have F₂ := Fr.turns F' N' ((fa1 ⟨_, mOD⟩)) hk₂
  have N₂₀ := News.grow F' hH hf (News.cons0 (p := (OD, dictOf [ent w "explicit" t1 (.bool false), ent w "_txn" t2 (.ref st.T), ent w "_synchs" t3 (.ref S2)] 3)) ⟨hO, (N' _ mOD).2⟩ Nr₂)
  obtain ⟨lo₂, hs₂, N₂⟩ := News.hide N₂₀
  have rr : ∀ p ∈ rest, p ∈ lo₂ := fun p hp => hs₂ p (List.mem_append_right _ (.tail _ hp))
  have sub : ∀ p ∈ ((353, tabObj ps) :: ownerLed w O OD S2 (.ref st.T) t1 t2 t3 ++ setLed S2 SD2 DL2 hh t4 [] n2 ++ st.led w S2 active (.ref O) [] 12), p ∈ lo₂ :=
    List.forall_mem_cons.mpr ⟨rr _ (hB _ mP q0), List.forall_mem_cons.mpr ⟨rr _ (hB _ mO q1), List.forall_mem_cons.mpr ⟨hs₂ _ (List.mem_append_right _ (.head _)), List.forall_mem_cons.mpr ⟨rr _ (hB _ (hs _ (in3)) q2), List.forall_mem_cons.mpr ⟨rr _ (hB _ (hs _ (in4)) q3), List.forall_mem_cons.mpr ⟨rr _ (hB _ (hs _ (in5)) q4), fun p hp => hs₂ p (List.mem_append_left _ hp)⟩⟩⟩⟩⟩⟩
  have mT := hs₂ (st.T, instObj 542 st.TD) (List.mem_append_left _ (.head _))
  have mTD := hs₂ (st.TD, dictOf (st.ents w S2 active (.ref O) []) 12) (List.mem_append_left _ (in1))
  have K₂ : ∀ p ∈ lo, p.1 ∉ ([353, OD] : List Nat) → h₂.get? p.1 = some p.2 ∧ @Ne Nat p.1 st.TD := fun p hp hn => ⟨(Nr₂ p (hB p hp fun q => hn (.tail _ q))).1, fun q => by
    have z := (N' p hp).1
    rw [show p.1 = st.TD from q, hf (st.TD, _) (in1)] at z; cases z⟩
  have mP₂ := rr _ (hB _ mP q0)
  have mO₂ := hs₂ (OD, _) (List.mem_append_right _ (.head _))
  clear N' F' hk₂ hO hH hf Nr Nr₂ hT hB rr N₂₀ hs₂
  try dsimp only
  k_steps
  refine Hold.out (Claim.use (commit_c O OD S2 SD2 DL2 t1 t2 t3 hh t4 n2 ps st hc [] 12 hm ⟨hlo.1, hlo.2.1, hlo.2.2.1, hlo.2.2.2.1, hlo.2.2.2.2, hlt⟩) B' F₂ X' N₂ T' rfl sub ?_ ?_ hpre ?_)
  · dsimp only [Around.deeper, ktrTop]; first | exact room2 hd (by decide) | exact room2 hu (by decide) | omega
  · dsimp only [Around.deeper, ktrTop]; first | exact room2 hd (by decide) | exact room2 hu (by decide) | omega
  rintro v' h₃ tk₃ hk₃ ⟨rfl, P₃⟩
  have F₃ := Fr.turns F₂ N₂ ((fa3 ⟨_, mP₂⟩ ⟨_, mO₂⟩ ⟨_, mTD⟩)) hk₃
  have K₃ := kept_end (mods := [353, OD]) N hG F₃.keep fun p hp hn => hk₃ _ _ (K₂ p hp hn).1 fun q => by
    rcases List.mem_cons.mp q with q | q
    · exact hn (q ▸ .head _)
    rcases List.mem_cons.mp q with q | q
    · exact hn (q ▸ in1)
    · exact (K₂ p hp hn).2 (List.mem_singleton.mp q)
  have N₃ : News g' L' h₃ [] := fun _ h => nomatch h
  clear N₂ F₂ hk₃ K₂
  try dsimp only
  k_steps
  refine hQF _ _ ?_
  refine leaveK_ (by assumption) (by assumption) fun _ _ => ?_
  exact hret _ _ _ K₃ ⟨rfl, P₃⟩
theorem mabort_old {w : World} (O OD S2 SD2 DL2 : Nat) (t1 t2 t3 : Tok) (hh : Int) (t4 : Tok) (n2 : Nat) (ps : Array Value) (st : Tst) (hc : st.Chain) (more : List DictEntry) (n : Nat) (hm : MoreOk w more n) (hlo : 875 < OD ∧ OD < O ∧ O < SD2 ∧ SD2 < S2 ∧ S2 < DL2 ∧ DL2 < st.TD) :
    Claim w 160 800 758 [.ref O] ((505, tabObj ps) :: ownerLed w O OD S2 (.ref st.T) t1 t2 t3 ++ setLed S2 SD2 DL2 hh t4 [] n2 ++ st.led w S2 active (.ref O) more n) [505, OD, st.TD] (fun _ => TriplesOk ps.toList) (fun _ v h' => v = .none ∧ h'.get? OD = some (dictOf [ent w "explicit" t1 (.bool false), ent w "_txn" t2 .none, ent w "_synchs" t3 (.ref S2)] 3) ∧ ∃ ps', TriplesOk ps'.toList ∧ h'.get? 505 = some (tabObj ps')) := by
  unfold Claim
  k_fill
  intro dp un gd cn cs a ccd cl outer A₀ base h₀ L m mg mb mean s Q E B F X N₀ T hk hd hu hpre hret
  obtain ⟨lo, hs, N⟩ := News.hide N₀
  refine wpAny_call ?_
  k_dflt (refine' enter_plain (binds := [(Str.ofString "self", .ref O)]) B F X N T rfl rfl hk (by k_is) (by k_is) ?hr (BindsTo.of_eq rfl) (locs rfl) ?_ rfl rfl rfl (by decide))
  case hr => exact Nat.lt_of_le_of_lt (Nat.le_add_right _ _) hd
  intro g' L' h' hG hup l1 FG' F' N' B' X' T'
  refine wpAny_hide ?_
  intro QF EF hQF hEF
  clear l1
  try dsimp only
  have mP := hs _ (.head _)
  have mO := hs (O, instObj 814 OD) (in1)
  have mOD := hs (OD, _) (in2)
  have mT := hs (st.T, instObj 542 st.TD) (in6)
  have mTD := hs (st.TD, _) (in7)
  k_steps
  refine Hold.out (Claim.use (get_old_c O OD S2 t1 t2 t3 st.T) B' F' X' N' T' rfl ((fa2 mO mOD)) ?_ ?_ trivial ?_)
  · dsimp only [Around.deeper, ktrTop]; first | exact room2 hd (by decide) | exact room2 hu (by decide) | omega
  · dsimp only [Around.deeper, ktrTop]; first | exact room2 hd (by decide) | exact room2 hu (by decide) | omega
  rintro v h₂ tk₂ hk₂ rfl
  have hk3 : ∀ b o, _ → h₂.get? b = some o := fun b o e => hk₂ b o e List.not_mem_nil
  have N₂ := News.keep N' hk3
  have F₂ := F'.keptAll hk3
  clear N' F' hk₂ hk3
  try dsimp only
  k_steps
  refine Hold.out (Claim.use (abort_c O OD S2 SD2 DL2 t1 t2 t3 hh t4 n2 ps st hc _ _ hm hlo) B' F₂ X' N₂ T' rfl hs ?_ ?_ hpre ?_)
  · dsimp only [Around.deeper, ktrTop]; first | exact room2 hd (by decide) | exact room2 hu (by decide) | omega
  · dsimp only [Around.deeper, ktrTop]; first | exact room2 hd (by decide) | exact room2 hu (by decide) | omega
  rintro v' h₃ tk₃ hk₃ ⟨rfl, P₃⟩
  have F₃ := Fr.turns F₂ N₂ ((fa3 ⟨_, mP⟩ ⟨_, mOD⟩ ⟨_, mTD⟩)) hk₃
  have K₃ := kept_end (mods := [505, OD, st.TD]) N hG F₃.keep fun p hp hn => hk₃ _ _ (N₂ p hp).1 hn
  have N₃ : News g' L' h₃ [] := fun _ h => nomatch h
  clear N₂ F₂ hk₃
  try dsimp only
  k_steps
  refine hQF _ _ ?_
  refine leaveK_ (by assumption) (by assumption) fun _ _ => ?_
  exact hret _ _ _ K₃ ⟨rfl, P₃⟩
theorem mabort_new {w : World} (O OD S2 SD2 DL2 : Nat) (t1 t2 t3 : Tok) (hh : Int) (t4 : Tok) (n2 : Nat) (ps : Array Value) (hlo : 875 < OD ∧ OD < O ∧ O < SD2 ∧ SD2 < S2 ∧ S2 < DL2) :
    Claim w 160 800 758 [.ref O] ((505, tabObj ps) :: ownerLed w O OD S2 .none t1 t2 t3 ++ setLed S2 SD2 DL2 hh t4 [] n2) [505, OD] (fun _ => TriplesOk ps.toList) (fun _ v h' => v = .none ∧ h'.get? OD = some (dictOf [ent w "explicit" t1 (.bool false), ent w "_txn" t2 .none, ent w "_synchs" t3 (.ref S2)] 3) ∧ ∃ ps', TriplesOk ps'.toList ∧ h'.get? 505 = some (tabObj ps')) := by
  unfold Claim
  k_fill
  intro dp un gd cn cs a ccd cl outer A₀ base h₀ L m mg mb mean s Q E B F X N₀ T hk hd hu hpre hret
  obtain ⟨lo, hs, N⟩ := News.hide N₀
  refine wpAny_call ?_
  k_dflt (refine' enter_plain (binds := [(Str.ofString "self", .ref O)]) B F X N T rfl rfl hk (by k_is) (by k_is) ?hr (BindsTo.of_eq rfl) (locs rfl) ?_ rfl rfl rfl (by decide))
  case hr => exact Nat.lt_of_le_of_lt (Nat.le_add_right _ _) hd
  intro g' L' h' hG hup l1 FG' F' N' B' X' T'
  refine wpAny_hide ?_
  intro QF EF hQF hEF
  clear l1
  try dsimp only
  obtain ⟨q0, q1, q2, q3, q4⟩ := olds_lt hlo 505 (by decide)
  have mP := hs _ (.head _)
  have mO := hs (O, instObj 814 OD) (in1)
  have mOD := hs (OD, _) (in2)
  k_steps
  refine Hold.out (Claim.use (get_new2_c O OD S2 SD2 DL2 t1 t2 t3 hh t4 n2 hlo) B' F' X' N' T' rfl (fun p hp => hs p (.tail _ hp)) ?_ ?_ trivial ?_)
  · dsimp only [Around.deeper, ktrTop]; first | exact room2 hd (by decide) | exact room2 hu (by decide) | omega
  · dsimp only [Around.deeper, ktrTop]; first | exact room2 hd (by decide) | exact room2 hu (by decide) | omega
  rintro v h₂ tk₂ hk₂ ⟨st, rfl, hc, hlt, hH, hf, hO⟩
  have hm : MoreOk w [] 12 := .inl ⟨rfl, rfl⟩
  obtain ⟨rest, Nr, hT, hB⟩ := News.cut N' [OD]
  have Nr₂ := News.off' Nr hT hk₂
  have F₂ := Fr.turns F' N' ((fa1 ⟨_, mOD⟩)) hk₂
  have N₂₀ := News.grow F' hH hf (News.cons0 (p := (OD, dictOf [ent w "explicit" t1 (.bool false), ent w "_txn" t2 (.ref st.T), ent w "_synchs" t3 (.ref S2)] 3)) ⟨hO, (N' _ mOD).2⟩ Nr₂)
  obtain ⟨lo₂, hs₂, N₂⟩ := News.hide N₂₀
  have rr : ∀ p ∈ rest, p ∈ lo₂ := fun p hp => hs₂ p (List.mem_append_right _ (.tail _ hp))
  have sub : ∀ p ∈ ((505, tabObj ps) :: ownerLed w O OD S2 (.ref st.T) t1 t2 t3 ++ setLed S2 SD2 DL2 hh t4 [] n2 ++ st.led w S2 active (.ref O) [] 12), p ∈ lo₂ :=
    List.forall_mem_cons.mpr ⟨rr _ (hB _ mP q0), List.forall_mem_cons.mpr ⟨rr _ (hB _ mO q1), List.forall_mem_cons.mpr ⟨hs₂ _ (List.mem_append_right _ (.head _)), List.forall_mem_cons.mpr ⟨rr _ (hB _ (hs _ (in3)) q2), List.forall_mem_cons.mpr ⟨rr _ (hB _ (hs _ (in4)) q3), List.forall_mem_cons.mpr ⟨rr _ (hB _ (hs _ (in5)) q4), fun p hp => hs₂ p (List.mem_append_left _ hp)⟩⟩⟩⟩⟩⟩
  have mT := hs₂ (st.T, instObj 542 st.TD) (List.mem_append_left _ (.head _))
  have mTD := hs₂ (st.TD, dictOf (st.ents w S2 active (.ref O) []) 12) (List.mem_append_left _ (in1))
  have K₂ : ∀ p ∈ lo, p.1 ∉ ([505, OD] : List Nat) → h₂.get? p.1 = some p.2 ∧ @Ne Nat p.1 st.TD := fun p hp hn => ⟨(Nr₂ p (hB p hp fun q => hn (.tail _ q))).1, fun q => by
    have z := (N' p hp).1
    rw [show p.1 = st.TD from q, hf (st.TD, _) (in1)] at z; cases z⟩
  have mP₂ := rr _ (hB _ mP q0)
  have mO₂ := hs₂ (OD, _) (List.mem_append_right _ (.head _))
  clear N' F' hk₂ hO hH hf Nr Nr₂ hT hB rr N₂₀ hs₂
  try dsimp only
  k_steps
  refine Hold.out (Claim.use (abort_c O OD S2 SD2 DL2 t1 t2 t3 hh t4 n2 ps st hc [] 12 hm ⟨hlo.1, hlo.2.1, hlo.2.2.1, hlo.2.2.2.1, hlo.2.2.2.2, hlt⟩) B' F₂ X' N₂ T' rfl sub ?_ ?_ hpre ?_)
  · dsimp only [Around.deeper, ktrTop]; first | exact room2 hd (by decide) | exact room2 hu (by decide) | omega
  · dsimp only [Around.deeper, ktrTop]; first | exact room2 hd (by decide) | exact room2 hu (by decide) | omega
  rintro v' h₃ tk₃ hk₃ ⟨rfl, P₃⟩
  have F₃ := Fr.turns F₂ N₂ ((fa3 ⟨_, mP₂⟩ ⟨_, mO₂⟩ ⟨_, mTD⟩)) hk₃
  have K₃ := kept_end (mods := [505, OD]) N hG F₃.keep fun p hp hn => hk₃ _ _ (K₂ p hp hn).1 fun q => by
    rcases List.mem_cons.mp q with q | q
    · exact hn (q ▸ .head _)
    rcases List.mem_cons.mp q with q | q
    · exact hn (q ▸ in1)
    · exact (K₂ p hp hn).2 (List.mem_singleton.mp q)
  have N₃ : News g' L' h₃ [] := fun _ h => nomatch h
  clear N₂ F₂ hk₃ K₂
  try dsimp only
  k_steps
  refine hQF _ _ ?_
  refine leaveK_ (by assumption) (by assumption) fun _ _ => ?_
  exact hret _ _ _ K₃ ⟨rfl, P₃⟩
end
end Mine
end
section
open PySem PySem.W PyProof.Rows PySem.Calls PySem.Spec PyProof.V PySem.Builtin
namespace Mine
noncomputable def LenBool (Q : Bool → Shared → Prop) (v : Value) (s' : Shared) : Prop := match v with
  | .int n _ => (0 ≤ n ∧ n < 2 ^ 63) ∧ ∀ tk, Q (n != 0) { s' with toks := tk }
  | _ => False
theorem truthy_len_K {prog : Program} {w : World} {A : Around} {E : Value → Shared → Prop} {s : Shared} {K : Frag} {x C L f : Addr} {h₀ : Heap} {m : Str → Option Value} {ox : Obj} {od : Option Obj} {Q : Bool → Shared → Prop} (F : Fr h₀ L s.heap m) (X₀ : K.In h₀) (I : InstAt s.heap x ox C od) (hb : findIn K (.ref C) "__bool__" = some none) (hs : findIn K (.ref C) "__len__" = some (some (.ref f))) (hf : isFn K (.ref f) = true)
    (h : wpAny (model prog w) A.in1 (call (.ref f) [.ref x]) (LenBool Q) E s) : wpAny (model prog w) A (truthy (.ref x)) Q E s := by
  have X := X₀.keeps F.keep
  unfold truthy
  refine wpAny_bind (m := callSpecial? (.ref x) (Str.ofString "__bool__")) (wpAny_bind (wpAny_bind (I.type.here ((looks_findIn X hb).here (wpAny_pure ?_)))))
  refine wpAny_bind (wpAny_bind (I.type.here ((looks_findIn X hs).here ?_)))
  show wpAny _ _ (do match ← runValue (.builtin "len" ⟨[.ref x], []⟩) with | .int n _ => return n != 0 | _ => unsupported "internal:truth.len") _ _ _
  refine wpAny_bind (wpAny_runValue (codeAny_builtin entry_len ?_))
  rw [Around.under_plainId plain_len _]
  unfold Builtin.«len»
  refine wpAny_bind (m := oneArg "len" _) (wpAny_pure ?_)
  refine wpAny_bind (m := callSpecial? (.ref x) (Str.ofString "__len__")) (special_fn X I hs (beq_iff_eq.mp hf) (wpAny_mono h (fun r s' hr => ?_) fun _ _ y => y))
  cases r <;> first | exact hr.elim | skip
  rename_i n u
  obtain ⟨⟨h0, h1⟩, hq⟩ := hr
  refine wpAny_bind (wpAny_holding (wpAny_pure ?_))
  refine wpAny_bind (wpAny_letGo ?_)
  show wpAny _ _ (if n < 0 then _ else _) _ _ _
  rw [if_neg (by omega)]
  show wpAny _ _ (if n ≥ 2 ^ 63 then _ else _) _ _ _
  rw [if_neg (by omega)]
  exact wpAny_bind (wpAny_mkInt (wpAny_pure (wpAny_pure (hq _))))
end Mine
end
section
open PySem PySem.W PyProof.Rows PySem.Calls PySem.Spec PyProof.V
namespace Mine
noncomputable def begTail (o : Option Obj) : Option (Scope × Stmt × List Stmt) := match o with
  | some ⟨_, _, .func fd, _⟩ => (match fd.body with
    | .stmts (i :: r) => some (fd.scope, i, r)
    | _ => none)
  | _ => none
theorem beg_of {K : Frag} {a : Addr} {o : Obj} {r : Option (Scope × Stmt × List Stmt)} (hk : K.lookup a = some o) (h : begTail (K.lookup a) = r) : begTail (some o) = r := hk ▸ h
section
local macro_rules | `(tactic| k_lt $h:ident) => `(tactic| (replace $h := allLt_of $h; dsimp only [AllLt] at $h:ident))
local macro_rules | `(tactic| k_all) => `(tactic| first | exact List.forall_mem_nil _ | with_reducible assumption | (refine List.forall_mem_cons.mpr ⟨by k_ne, by k_all⟩))
local macro_rules | `(tactic| walk_at "call ref") => `(tactic| ((with_reducible show wpAny _ _ (call (Value.ref 542) _ _) _ _ _); refine hold ?_))
local macro_rules | `(tactic| walk_at "truthy ref") => `(tactic| (k_here; k_dflt (refine' truthy_len_K (by k_asm) (by k_asm) (by k_inst) (by k_is) (by k_is) (by k_is) ?_)))
local macro_rules | `(tactic| walk_at "eval Name") => `(tactic| (k_here; k_dflt (refine nameX_L (by k_asm) (by first | assumption | exact (if_neg (by decide)).trans (by assumption) | exact (if_neg (by decide)).trans ((if_neg (by decide)).trans (by assumption))) ?_)))
theorem begin_tail {w : World} {dp un : Nat} {gd : Option (List Code)} {scope : Scope} {tl : List Stmt} {cd : Value} {env : Env} {outer : List Env} {A₀ : Around} {base g : Heap} {L : Addr} {m mg mb : Str → Option Value} {mean : ExcName → Option Value} {s : Shared} {Q : Flow → Shared → Prop} {E : Value → Shared → Prop}
    (O OD S2 SD2 DL2 : Nat) (t1 t2 t3 : Tok) (hh : Int) (t4 : Tok) (n2 : Nat) (led : List (Addr × Obj)) (hparts : ∃ i0, begTail ((Mine.K39 w.params).lookup 681) = some (scope, i0, tl)) (B : Below A₀ base (env :: outer) g) (F : Fr g L s.heap m) (hm : m (Str.ofString "self") = some (.ref O)) (X : (Mine.K39 w.params).In g) (T : Top topProg LZ mean mg mb g)
    (N : News g L s.heap ((O, instObj 814 OD) :: (OD, dictOf [ent w "explicit" t1 (.bool false), ent w "_txn" t2 .none, ent w "_synchs" t3 (.ref S2)] 3) :: (S2, instObj 83 SD2) :: (SD2, dictOf [⟨hh, .str (Str.ofString "data") t4, .ref DL2⟩] 1) :: (DL2, listOf ([] : List Value).toArray n2) :: led))
    (hl : ∀ p ∈ led, @Ne Nat p.1 OD) (p1 : @Ne Nat O OD) (p2 : @Ne Nat SD2 OD) (p3 : @Ne Nat S2 OD) (p4 : @Ne Nat DL2 OD) (hd : dp + 60 < recursionLimit) (hu : un + 300 < cLine) (hk : env.scope.kind = .function)
    (k : ∀ (st : Tst) h' tk m', st.Chain → DL2 < st.TD → (∀ p ∈ led, p.1 < st.TD) → (∀ p ∈ st.led w S2 active (.ref O) [] 12, g.get? p.1 = none) → Fr g L h' m' → News g L h' ((O, instObj 814 OD) :: (OD, dictOf [ent w "explicit" t1 (.bool false), ent w "_txn" t2 (.ref st.T), ent w "_synchs" t3 (.ref S2)] 3) :: (S2, instObj 83 SD2) :: (SD2, dictOf [⟨hh, .str (Str.ofString "data") t4, .ref DL2⟩] 1) :: (DL2, listOf ([] : List Value).toArray n2) :: (st.led w S2 active (.ref O) [] 12 ++ led)) → Q (.ret (.ref st.T)) { s with heap := h', toks := tk }) :
    wpAny (model PySem.Challenge.rw_ac0032_01.row.prog w) (ktrTop dp un gd (Str.ofString "TransactionManager.begin") scope L 681 cd [] (env :: outer)) (execs tl (envOf (Str.ofString "TransactionManager.begin") scope L 681 cd)) Q E s := by
  obtain ⟨i0, hpart⟩ := hparts
  revert X
  k_fill
  intro X
  have hp := beg_of (by k_is) hpart
  dsimp only [begTail] at hp
  cases hp
  clear hpart
  k_steps
  rename News g L _ _ => N₁
  rename Fr g L _ _ => F₁
  refine Hold.out (txn_use B F₁ X N₁ T rfl rfl rfl ?_ ?_)
  · dsimp only [ktrTop]; omega
  intro st h₂ tk₂ F₂ N₂ hc l2
  clear F₁ N₁
  have gE := hc.ge (w := w) (S2 := S2) (n := 12) (sv := active) (mv := .ref O) (more := [])
  have e2 := l2 _ (in1)
  have e5 := l2 _ (in4)
  have l3 : ∀ p ∈ led, p.1 < st.TD := fun p hp => l2 p (.tail _ (.tail _ (.tail _ (.tail _ (.tail _ hp)))))
  have hf : ∀ p ∈ st.led w S2 active (.ref O) [] 12, g.get? p.1 = none := fun p hp => (N₂ p (List.mem_append_left _ hp)).2.2
  have N₃ := News.sub N₂ (fun p hp => by
    rcases List.mem_append.mp hp with hp | hp
    · exact List.mem_append_right _ (List.mem_append_left (as := [(O, instObj 814 OD), (OD, dictOf [ent w "explicit" t1 (.bool false), ent w "_txn" t2 .none, ent w "_synchs" t3 (.ref S2)] 3), (S2, instObj 83 SD2), (SD2, dictOf [⟨hh, .str (Str.ofString "data") t4, .ref DL2⟩] 1), (DL2, listOf ([] : List Value).toArray n2)]) led hp)
    rcases List.mem_append.mp hp with hp | hp
    · exact List.mem_append_left _ hp
    · exact List.mem_append_right _ (.tail _ (.tail _ (.tail _ (.tail _ (.tail _ hp))))) : ∀ p ∈ [(O, instObj 814 OD), (OD, dictOf [ent w "explicit" t1 (.bool false), ent w "_txn" t2 .none, ent w "_synchs" t3 (.ref S2)] 3), (S2, instObj 83 SD2), (SD2, dictOf [⟨hh, .str (Str.ofString "data") t4, .ref DL2⟩] 1), (DL2, listOf ([] : List Value).toArray n2)] ++ (st.led w S2 active (.ref O) [] 12 ++ led), p ∈ _)
  have hN : ∀ q ∈ st.led w S2 active (.ref O) [] 12 ++ led, @Ne Nat q.1 OD := fun q hq => (List.mem_append.mp hq).elim (fun h => Nat.ne_of_gt (Nat.lt_of_lt_of_le e2 (gE q h))) (hl q)
  clear N₂ l2
  generalize hX : st.led w S2 active (.ref O) [] 12 ++ led = ledT at *
  simp only [List.cons_append, List.nil_append] at N₃
  dsimp only
  k_steps
  refine ⟨⟨by decide, by decide⟩, fun tk => ?_⟩
  dsimp only
  k_steps
  rename News g L _ _ => N₄
  rename Fr g L _ _ => F₄
  subst hX
  exact k st _ _ _ hc e5 l3 hf F₄ (News.sub N₄ fun p hp => .tail _ hp)
end
end Mine
end
section
open PySem PySem.W PyProof.Rows PySem.Calls PySem.Spec PyProof.V
namespace Mine
theorem old_ne {OD O SD2 S2 DL2 TD T : Nat} (h : 875 < OD ∧ OD < O ∧ O < SD2 ∧ SD2 < S2 ∧ S2 < DL2 ∧ DL2 < TD) (c : TD < T) :
    O ∉ ([505, OD, TD] : List Nat) ∧ S2 ∉ ([505, OD, TD] : List Nat) ∧ SD2 ∉ ([505, OD, TD] : List Nat) ∧ DL2 ∉ ([505, OD, TD] : List Nat) ∧ ∀ a, T ≤ a → a ∉ ([505, OD, TD] : List Nat) :=
  (olds_ne (P := 505) (by decide) h c).2
section
local macro_rules | `(tactic| k_lt $h:ident) => `(tactic| (replace $h := allLt_of $h; dsimp only [AllLt] at $h:ident))
local macro_rules | `(tactic| k_all) => `(tactic| first | exact List.forall_mem_nil _ | with_reducible assumption | (refine List.forall_mem_cons.mpr ⟨by k_ne, by k_all⟩))
local macro_rules | `(tactic| walk_at "call ref") => `(tactic| ((with_reducible show wpAny _ _ (call (Value.ref 510) _ _) _ _ _); refine hold ?_))
local macro_rules | `(tactic| walk_at "execs cons") => `(tactic| (refine hold ?_))
theorem begin_new {w : World} (O OD S2 SD2 DL2 : Nat) (t1 t2 t3 : Tok) (hh : Int) (t4 : Tok) (n2 : Nat) (hlo : 875 < OD ∧ OD < O ∧ O < SD2 ∧ SD2 < S2 ∧ S2 < DL2) :
    Claim w 160 800 681 [.ref O] (ownerLed w O OD S2 .none t1 t2 t3 ++ setLed S2 SD2 DL2 hh t4 [] n2) [OD] (fun _ => True) (fun h v h' => ∃ st : Tst, v = .ref st.T ∧ st.Chain ∧ DL2 < st.TD ∧ Holds h' (st.led w S2 active (.ref O) [] 12) ∧ (∀ p ∈ st.led w S2 active (.ref O) [] 12, h.get? p.1 = none) ∧
      h'.get? OD = some (dictOf [ent w "explicit" t1 (.bool false), ent w "_txn" t2 (.ref st.T), ent w "_synchs" t3 (.ref S2)] 3)) := by
  unfold Claim ownerLed setLed
  k_fill
  intro dp un gd cn cs a ccd cl outer A₀ base h₀ L m mg mb mean s Q E B F X N T hk hd hu hpre hret
  obtain ⟨d1, d2, d3, d4, d5⟩ := hlo
  have p1 : @Ne Nat O OD := Nat.ne_of_gt d2
  have p2 : @Ne Nat SD2 OD := Nat.ne_of_gt (Nat.lt_trans d2 d3)
  have p3 : @Ne Nat S2 OD := Nat.ne_of_gt (Nat.lt_trans d2 (Nat.lt_trans d3 d4))
  have p4 : @Ne Nat DL2 OD := Nat.ne_of_gt (Nat.lt_trans d2 (Nat.lt_trans d3 (Nat.lt_trans d4 d5)))
  refine wpAny_call ?_
  k_dflt (refine' enter_plain (binds := [(Str.ofString "self", .ref O)]) B F X N T rfl rfl hk (by k_is) (by k_is) ?hr (BindsTo.of_eq rfl) (locs rfl) ?_ rfl rfl rfl (by decide))
  case hr => exact Nat.lt_of_le_of_lt (Nat.le_add_right _ _) hd
  intro g' L' h' hG hup l1 FG' F' N' B' X' T'
  refine wpAny_hide ?_
  intro QF EF hQF hEF
  clear l1
  simp only [List.cons_append, List.nil_append] at N'
  try dsimp only
  refine wpAny_execs_cons ?_
  k_steps
  refine Hold.out ?_
  try dsimp only
  refine begin_tail (dp := dp + 1) (un := un + 3) (gd := gd) (env := envX cn cs L a ccd cl) (outer := outer) O OD S2 SD2 DL2 t1 t2 t3 hh t4 n2 [] ?hpart B' F' rfl X' T' N' (fun _ h => nomatch h) p1 p2 p3 p4 ?_ ?_ hk ?_
  case hpart => exact ⟨_, (congrArg begTail (show (Mine.K39 w.params).lookup 681 = some _ by k_is)).trans rfl⟩
  · omega
  · omega
  intro st h₂ tk₂ m₂ hc e5 _ hf F₂ N₂
  rw [List.append_nil] at N₂
  have gE := hc.ge (w := w) (S2 := S2) (n := 12) (sv := active) (mv := .ref O) (more := [])
  k_steps
  have gg : ∀ q ∈ st.led w S2 active (.ref O) [] 12, s.heap.get? q.1 = none := fun q hq => not_in_heap hG (hf q hq) (notin_led ((fa5 (Nat.ne_of_lt (Nat.lt_trans d3 (Nat.lt_trans d4 (Nat.lt_trans d5 (Nat.lt_of_lt_of_le e5 (gE q hq)))))) (Nat.ne_of_lt (Nat.lt_trans d2 (Nat.lt_trans d3 (Nat.lt_trans d4 (Nat.lt_trans d5 (Nat.lt_of_lt_of_le e5 (gE q hq))))))) (Nat.ne_of_lt (Nat.lt_trans d5 (Nat.lt_of_lt_of_le e5 (gE q hq)))) (Nat.ne_of_lt (Nat.lt_trans d4 (Nat.lt_trans d5 (Nat.lt_of_lt_of_le e5 (gE q hq))))) (Nat.ne_of_lt (Nat.lt_of_lt_of_le e5 (gE q hq))))))
  refine hQF _ _ ?_
  refine leaveK_ (by assumption) (by assumption) fun _ _ => ?_
  refine hret _ _ _ (kept_end N hG F₂.keep ?_) ⟨st, rfl, hc, e5, fun p hp => (N₂ p (.tail _ (.tail _ (.tail _ (.tail _ (.tail _ hp)))))).1, gg, (N₂ _ (in1)).1⟩
  exact (fa5 (fun _ => (N₂ _ (.head _)).1) (fun q => absurd (.head _) q) (fun _ => (N₂ _ (in2)).1) (fun _ => (N₂ _ (in3)).1) (fun _ => (N₂ _ (in4)).1))
theorem begin_old {w : World} (O OD S2 SD2 DL2 : Nat) (t1 t2 t3 : Tok) (hh : Int) (t4 : Tok) (n2 : Nat) (ps : Array Value) (st : Tst) (hc : st.Chain) (more : List DictEntry) (n : Nat) (hm : MoreOk w more n) (hlo : 875 < OD ∧ OD < O ∧ O < SD2 ∧ SD2 < S2 ∧ S2 < DL2 ∧ DL2 < st.TD) :
    Claim w 160 800 681 [.ref O] ((505, tabObj ps) :: ownerLed w O OD S2 (.ref st.T) t1 t2 t3 ++ setLed S2 SD2 DL2 hh t4 [] n2 ++ st.led w S2 active (.ref O) more n) [505, OD, st.TD] (fun _ => TriplesOk ps.toList) (fun h v h' => (∃ ps', TriplesOk ps'.toList ∧ h'.get? 505 = some (tabObj ps')) ∧ ∃ st' : Tst, v = .ref st'.T ∧ st'.Chain ∧ DL2 < st'.TD ∧ Holds h' (st'.led w S2 active (.ref O) [] 12) ∧ (∀ p ∈ st'.led w S2 active (.ref O) [] 12, h.get? p.1 = none) ∧
      h'.get? OD = some (dictOf [ent w "explicit" t1 (.bool false), ent w "_txn" t2 (.ref st'.T), ent w "_synchs" t3 (.ref S2)] 3)) := by
  unfold Claim
  k_fill
  intro dp un gd cn cs a ccd cl outer A₀ base h₀ L m mg mb mean s Q E B F X N T hk hd hu hpre hret
  obtain ⟨d1, d2, d3, d4, d5, d6⟩ := id hlo
  obtain ⟨q1, q2, q3, q4, q5⟩ := old_ne hlo hc.c1
  have q6 := hc.lists
  have v0 : O < DL2 := Nat.lt_trans d3 (Nat.lt_trans d4 d5)
  have u0 : OD < st.TD := Nat.lt_trans d2 (Nat.lt_trans v0 d6)
  have p1 : @Ne Nat O OD := Nat.ne_of_gt d2
  have p2 : @Ne Nat SD2 OD := Nat.ne_of_gt (Nat.lt_trans d2 d3)
  have p3 : @Ne Nat S2 OD := Nat.ne_of_gt (Nat.lt_trans d2 (Nat.lt_trans d3 d4))
  have p4 : @Ne Nat DL2 OD := Nat.ne_of_gt (Nat.lt_trans d2 (Nat.lt_trans d3 (Nat.lt_trans d4 d5)))
  refine wpAny_call ?_
  k_dflt (refine' enter_plain (binds := [(Str.ofString "self", .ref O)]) B F X N T rfl rfl hk (by k_is) (by k_is) ?hr (BindsTo.of_eq rfl) (locs rfl) ?_ rfl rfl rfl (by decide))
  case hr => exact Nat.lt_of_le_of_lt (Nat.le_add_right _ _) hd
  intro g' L' h' hG hup l1 FG' F' N₀ B' X' T'
  refine wpAny_hide ?_
  intro QF EF hQF hEF
  clear l1
  try dsimp only
  have hN0 := Hold.out N₀
  unfold ownerLed setLed Tst.led at N₀
  simp only [List.cons_append, List.nil_append] at N₀
  have hm' := hm
  have hS : ∀ h₃ ps', (∀ b o, h'.get? b = some o → b ∉ ([505, OD, st.TD] : List Nat) → h₃.get? b = some o) → h₃.get? OD = some (dictOf [ent w "explicit" t1 (.bool false), ent w "_txn" t2 .none, ent w "_synchs" t3 (.ref S2)] 3) → h₃.get? 505 = some (tabObj ps') →
      News g' L' h₃ ((O, instObj 814 OD) :: (OD, dictOf [ent w "explicit" t1 (.bool false), ent w "_txn" t2 .none, ent w "_synchs" t3 (.ref S2)] 3) :: (S2, instObj 83 SD2) :: (SD2, dictOf [⟨hh, .str (Str.ofString "data") t4, .ref DL2⟩] 1) :: (DL2, listOf ([] : List Value).toArray n2) :: ((505, tabObj ps') :: (st.T, instObj 542 st.TD) :: st.lists)) := fun h₃ ps' hk hO hP => by
    have z : ∀ p ∈ ((505, tabObj ps) :: ownerLed w O OD S2 (.ref st.T) t1 t2 t3 ++ setLed S2 SD2 DL2 hh t4 [] n2 ++ st.led w S2 active (.ref O) more n), p.1 ∉ ([505, OD, st.TD] : List Nat) → h₃.get? p.1 = some p.2 ∧ p.1 ≠ L' ∧ g'.get? p.1 = none := fun p hp hn => ⟨hk _ _ (hold hN0 p hp).1 hn, (hold hN0 p hp).2⟩
    have i1 := (hold hN0 _ (in2)).2
    have i0 := (hold hN0 _ (.head _)).2
    refine News.cons0 (z _ (in1) q1) (News.cons0 ⟨hO, i1⟩ (News.cons0 (z _ (in3) q2) (News.cons0 (z _ (in4) q3) (News.cons0 (z _ (in5) q4) (News.cons0 ⟨hP, i0⟩ (News.cons0 (z _ (in6) (q5 _ (Nat.le_refl _))) fun p hp => z p (.tail _ (.tail _ (.tail _ (.tail _ (.tail _ (.tail _ (.tail _ (.tail _ hp)))))))) (q5 _ (Nat.le_of_lt (q6 p hp)))))))))
  have below : ∀ d, DL2 < d → st.T < d → (∀ p ∈ st.lists, p.1 < d) → 505 < d → ∀ b ∈ ((505, tabObj ps) :: ownerLed w O OD S2 (.ref st.T) t1 t2 t3 ++ setLed S2 SD2 DL2 hh t4 [] n2 ++ st.led w S2 active (.ref O) more n), b.1 < d := fun d e5 eT l5 e0 =>
    List.forall_mem_cons.mpr ⟨e0, List.forall_mem_cons.mpr ⟨Nat.lt_trans v0 e5, List.forall_mem_cons.mpr ⟨Nat.lt_trans d2 (Nat.lt_trans v0 e5), List.forall_mem_cons.mpr ⟨Nat.lt_trans d5 e5, List.forall_mem_cons.mpr ⟨Nat.lt_trans d4 (Nat.lt_trans d5 e5), List.forall_mem_cons.mpr ⟨e5, List.forall_mem_cons.mpr ⟨eT, List.forall_mem_cons.mpr ⟨Nat.lt_trans hc.c1 eT, fun p hp => l5 p hp⟩⟩⟩⟩⟩⟩⟩⟩
  rcases hm with ⟨rfl, rfl⟩ | ⟨t, v, rfl, rfl⟩
  all_goals (
    refine wpAny_execs_cons ?_
    k_steps
    refine Hold.out ?_
    refine wpAny_execs_cons ?_
    k_steps
    refine Hold.out ?_
    try dsimp only
    refine wpAny_execs_cons ?_
    k_steps
    rename News g' L' _ _ => N₁
    rename Fr g' L' _ _ => F₁
    refine Hold.out (Claim.use (abort_c O OD S2 SD2 DL2 t1 t2 t3 hh t4 n2 ps st hc _ _ hm' hlo) B' F₁ X' N₁ T' rfl (fun _ h => h) ?_ ?_ hpre ?_)
    · dsimp only [Around.deeper, ktrTop]; first | exact room2 hd (by decide) | exact room2 hu (by decide) | omega
    · dsimp only [Around.deeper, ktrTop]; first | exact room2 hd (by decide) | exact room2 hu (by decide) | omega
    rintro v' h₃ tk₃ hk₃ ⟨rfl, hO, ps', hps, hg⟩
    have F₂ := Fr.turns F₁ N₁ ((fa3 ⟨_, by k_mem⟩ ⟨_, by k_mem⟩ ⟨_, by k_mem⟩)) hk₃
    have N₂ := hS h₃ ps' hk₃ hO hg
    clear F₁ N₁ hk₃ hS hO hg
    try dsimp only
    k_steps
    refine Hold.out ?_
    try dsimp only
    refine begin_tail (dp := dp + 1) (un := un + 3) (gd := gd) (env := envX cn cs L a ccd cl) (outer := outer) O OD S2 SD2 DL2 t1 t2 t3 hh t4 n2 ((505, tabObj ps') :: (st.T, instObj 542 st.TD) :: st.lists) ?hpart B' F₂ rfl X' T' N₂ (List.forall_mem_cons.mpr ⟨Nat.ne_of_lt (Nat.lt_trans (show @LT.lt Nat _ 505 875 by decide) d1), List.forall_mem_cons.mpr ⟨Nat.ne_of_gt (Nat.lt_trans u0 hc.c1), fun p hp => Nat.ne_of_gt (Nat.lt_trans (Nat.lt_trans u0 hc.c1) (q6 p hp))⟩⟩) p1 p2 p3 p4 ?_ ?_ hk ?_
    case hpart => exact ⟨_, (congrArg begTail (show (Mine.K39 w.params).lookup 681 = some _ by k_is)).trans rfl⟩
    · omega
    · omega
    intro st' h₅ tk₅ m₅ hc5 e5 l5 hf5 F₅ N₅
    have gE := hc5.ge (w := w) (S2 := S2) (n := 12) (sv := active) (mv := .ref O) (more := [])
    have eT := l5 _ (in1)
    have below' := below st'.TD e5 eT (fun p hp => l5 p (.tail _ (.tail _ hp))) (l5 (505, tabObj ps') (.head _))
    k_steps
    refine hQF _ _ ?_
    refine leaveK_ (by assumption) (by assumption) fun _ _ => ?_
    refine hret _ _ _ (kept_end N hG F₅.keep (List.forall_mem_cons.mpr ⟨fun q => absurd (.head _) q, List.forall_mem_cons.mpr ⟨fun _ => (N₅ _ (.head _)).1, List.forall_mem_cons.mpr ⟨fun q => absurd (in1) q, List.forall_mem_cons.mpr ⟨fun _ => (N₅ _ (in2)).1, List.forall_mem_cons.mpr ⟨fun _ => (N₅ _ (in3)).1, List.forall_mem_cons.mpr ⟨fun _ => (N₅ _ (in4)).1, List.forall_mem_cons.mpr ⟨fun _ => (N₅ _ (.tail _ (.tail _ (.tail _ (.tail _ (.tail _ (List.mem_append_right _ (in1)))))))).1, List.forall_mem_cons.mpr ⟨fun q => absurd (in2) q, fun p hp _ => (N₅ _ (.tail _ (.tail _ (.tail _ (.tail _ (.tail _ (List.mem_append_right _ (.tail _ (.tail _ hp))))))))).1⟩⟩⟩⟩⟩⟩⟩⟩))
      ⟨⟨ps', hps, (N₅ _ (.tail _ (.tail _ (.tail _ (.tail _ (.tail _ (List.mem_append_right _ (.head _)))))))).1⟩, st', rfl, hc5, e5, fun p hp => (N₅ p (.tail _ (.tail _ (.tail _ (.tail _ (.tail _ (List.mem_append_left _ hp))))))).1, fun p hp => not_in_heap hG (hf5 p hp) (notin_led fun q hq => Nat.ne_of_lt (Nat.lt_of_lt_of_le (below' q hq) (gE p hp))), (N₅ _ (in1)).1⟩)
end
end Mine
end
section
open PySem PySem.W PyProof.Rows PySem.Calls PySem.Spec PyProof.V
namespace Mine
theorem wpAny_hideQ {α : Type} {M : Model} {A : Around} {E : Value → Shared → Prop} {t : Sem α} {Q : α → Shared → Prop} {s : Shared} (H : ∀ Q', (∀ a s, Q a s → Q' a s) → wpAny M A t Q' E s) : wpAny M A t Q E s := H Q (fun _ _ h => h)
structure Row where
  a : Nat
  x : Nat
  y : Nat
noncomputable def RowsAt (rows : List Row) (h : Heap) : Prop := ∀ r ∈ rows, IsTup h r.a #[.ref r.x, .ref r.y]
noncomputable def StandN (ths : List Nat) (h : Heap) : Prop := ∀ a ∈ ths, ∃ o, h.get? a = some o ∧ o.cls ≠ .type "tuple"
noncomputable abbrev rowVals (rows : List Row) : List Value := rows.map fun r => .ref r.a
noncomputable def rowKeep (rows : List Row) (x : Nat) (v : Value) : Bool := rows.any fun r => v == .ref r.a && r.x != x
theorem IsTup.same {h : Heap} {a : Addr} {u v : Array Value} (p : IsTup h a u) (q : IsTup h a v) : u = v := by
  obtain ⟨o, ho, _, n, hd⟩ := p
  obtain ⟨o', ho', _, n', hd'⟩ := q
  have e : o = o' := Option.some.inj (ho.symm.trans ho')
  subst e
  have := hd.symm.trans hd'
  injection this
theorem ref_beq (a b : Nat) : ((Value.ref a == Value.ref b) : Bool) = (a == b) := by
  by_cases e : a = b
  · subst e; rw [beq_self_eq_true, beq_self_eq_true]
  · rw [beq_false_of_ne e, beq_false_of_ne fun z => e (by injection z)]
theorem rowKeep_at {rows : List Row} {h : Heap} (R : RowsAt rows h) (x : Nat) {r : Row} (hr : r ∈ rows) : rowKeep rows x (.ref r.a) = (r.x != x) := by
  unfold rowKeep
  cases e : (r.x != x) with
  | true => exact List.any_eq_true.mpr ⟨r, hr, by rw [e, Bool.and_true]; exact beq_self_eq_true _⟩
  | false =>
    rw [List.any_eq_false]
    intro q hq
    by_cases hqa : q.a = r.a
    · have z := IsTup.same (hqa ▸ R q hq) (R r hr)
      have z' : q.x = r.x := by injection z with z; injection z with z1 z2; injection z1
      rw [z', e, Bool.and_false]; exact Bool.false_ne_true
    · have : (Value.ref r.a == Value.ref q.a) = false := by
        apply beq_false_of_ne
        intro z; injection z with z; exact hqa z.symm
      rw [this, Bool.false_and]; exact Bool.false_ne_true
theorem rowKeep_filter {rows all : List Row} {h : Heap} (R : RowsAt all h) (x : Nat) (hs : ∀ r ∈ rows, r ∈ all) : (rowVals rows).filter (rowKeep all x) = rowVals (rows.filter fun r => r.x != x) := by
  induction rows with
  | nil => rfl
  | cons r rows ih =>
    have e := rowKeep_at R x (hs r (.head _))
    have ih := ih fun q hq => hs q (.tail _ hq)
    unfold rowVals at ih ⊢
    rw [List.map_cons, List.filter_cons, List.filter_cons, e]
    cases (r.x != x) <;> simp [ih]
theorem RowsAt.keeps {rows : List Row} {h h' : Heap} (R : RowsAt rows h) (hk : ∀ b o, h.get? b = some o → h'.get? b = some o) : RowsAt rows h' := fun r hr => (R r hr).keeps hk
theorem StandN.keeps {ths : List Nat} {h h' : Heap} (R : StandN ths h) (hk : ∀ b o, h.get? b = some o → h'.get? b = some o) : StandN ths h' := fun a ha => let ⟨o, e, c⟩ := R a ha; ⟨o, hk _ _ e, c⟩
theorem StandN.one {ths : List Nat} {h : Heap} (R : StandN ths h) {a : Nat} (ha : a ∈ ths) : Stand [.ref a] h := fun v hv => by
  cases List.mem_singleton.mp hv
  obtain ⟨o, e, c⟩ := R a ha
  exact ⟨a, o, rfl, e, c⟩
theorem RowsAt.base {rows : List Row} {h₀ h g : Heap} {L : Addr} {led : List (Addr × Obj)} (R : RowsAt rows h) (N : News h₀ L h led) (hG : ∀ b o, h.get? b = some o → b ∉ led.map (·.1) → g.get? b = some o) (hc : ∀ p ∈ led, p.2.cls ≠ .type "tuple") : RowsAt rows g := fun r hr => by
  obtain ⟨o, e, c, q⟩ := R r hr
  refine ⟨o, hG _ _ e (notin_led fun p hp z => ?_), c, q⟩
  have := (N p hp).1
  rw [z, e] at this
  exact hc p hp (Option.some.inj this ▸ c)
theorem StandN.base {ths : List Nat} {h g : Heap} {led : List (Addr × Obj)} (R : StandN ths h) (hG : ∀ b o, h.get? b = some o → b ∉ led.map (·.1) → g.get? b = some o) (hp : ∀ p ∈ led, @Membership.mem Nat (List Nat) _ ths p.1 → False) : StandN ths g := fun a ha => by
  obtain ⟨o, e, c⟩ := R a ha
  refine ⟨o, hG _ _ e (notin_led fun p hp' z => ?_), c⟩
  have z' : @Eq Nat p.1 a := z
  exact hp p hp' (z' ▸ ha)
theorem add_D {prog : Program} {w : World} {A : Around} {E : Value → Shared → Prop} {s : Shared} {h₀ : Heap} {L : Addr} {m : Str → Option Value} {news : List (Addr × Obj)} {l b : Addr} {vs ws : List Value} {Q : Value → Shared → Prop} (F : Fr h₀ L s.heap m) (N : News h₀ L s.heap news) (hl : s.heap.IsList l vs.toArray) (hb : s.heap.IsList b ws.toArray)
    (hsz : vs.length + ws.length ≤ sizeLine)
    (h : ∀ D h', Fr h₀ L h' m → News h₀ L h' ((D, listOf (vs ++ ws).toArray 0) :: news) → (∀ p ∈ news, p.1 < D) → Q (.ref D) { s with heap := h' }) :
    wpAny (model prog w) A (binaryOp .Add (.ref l) (.ref b)) Q E s :=
  add_lists F N hl hb (fun h' F' N' => h _ h' F' N' fun p hp => Heap.lt_size (N p hp).1) hsz
section
local macro_rules | `(tactic| walk_at "eval ListComp") => `(tactic| (refine hold ?_))
local macro_rules | `(tactic| walk_at "pyIter ref") => `(tactic| (refine hold ?_))
local macro_rules | `(tactic| walk_at "exec Try") => `(tactic| (k_here; (first | refine wpAny_Try_except ?_ | refine wpAny_Try_finally ?_ | refine wpAny_Try_except_finally ?_); (try k_fold)))
theorem setdata_old_c {w : World} (st : Tst) (S2 : Nat) (mv : Value) (t : Tok) (DA nr : Nat) (rows : List Row) (x y : Nat) (ths : List Nat) (hlen : rows.length ≤ 8) (hx : x ∈ ths) (hrx : ∀ r ∈ rows, r.x ∈ ths) (hlo : st.T ∉ ths ∧ st.TD ∉ ths ∧ DA ∉ ths) :
    Claim w 80 400 503 [.ref st.T, .ref x, .ref y] [(st.T, instObj 542 st.TD), (st.TD, dictOf (st.ents w S2 active mv [ent w "_data" t (.ref DA)]) 13), (DA, listOf (rowVals rows).toArray nr)] [st.TD] (fun h => RowsAt rows h ∧ StandN ths h)
      (fun h v h' => v = .none ∧ ∃ (DA' : Nat) (nr' : Nat) (a' : Nat), h.get? DA' = none ∧ h.get? a' = none ∧ h'.get? st.TD = some (dictOf (st.ents w S2 active mv [ent w "_data" t (.ref DA')]) 13) ∧
        h'.get? DA' = some (listOf (rowVals (rows.filter (fun r => r.x != x) ++ [⟨a', x, y⟩])).toArray nr') ∧ IsTup h' a' #[.ref x, .ref y]) := by
  unfold Claim
  k_fill
  intro dp un gd cn cs a ccd cl outer A₀ base h₀ L m mg mb mean s Q E B F X N T hk hd hu hpre hret
  refine wpAny_call ?_
  k_dflt (refine' enter_cells (binds := [(Str.ofString "self", .ref st.T), (Str.ofString "ob", .ref x), (Str.ofString "ob_data", .ref y)]) B F X N T rfl rfl hk (by k_is) (by k_is) ?hr (BindsTo.of_eq rfl) ?kB ?kD ?_ rfl rfl rfl)
  case hr => exact Nat.lt_of_le_of_lt (Nat.le_add_right _ _) hd
  case kB => exact rfl
  case kD => decide +kernel
  intro g' L' h' tk' cells' hG hup l1 FG' F' N' Y' B' X' T'
  refine wpAny_hideQ ?_
  intro QF hQF
  k_lt l1
  k_cells Y'
  simp only [List.cons_append, List.nil_append] at N'
  try dsimp only
  obtain ⟨o1, o2, o3⟩ := hlo
  have hR : RowsAt rows g' := hpre.1.base N hG ((fa3 (fun q => Value.noConfusion q) (fun q => absurd (Value.type.inj q) (show ¬ ("dict" = "tuple") by decide)) (fun q => absurd (Value.type.inj q) (show ¬ ("list" = "tuple") by decide))))
  have hX : StandN ths g' := hpre.2.base hG ((fa3 o1 o2 o3))
  k_steps
  refine Hold.out (wpAny_ListComp_free (rowKeep rows x) (fun v y => y = (fun u : Value => u) v) (by with_unfolding_all rfl) (by decide) (by rfl) (by decide) (by rfl) ?_)
  k_steps
  rename News g' L' _ _ => N₁
  rename Fr g' L' _ _ => F₁
  refine Hold.out (lc_S (vs := rowVals rows) rfl ?hl (fits8 (by rw [List.length_map]; exact hlen)) ?_ ?_ ?_)
  case hl => exact News.isList (n := nr) (d := none) (sl := #[]) N₁ (by k_mem)
  · intro C v s₃ m₃ E' hv hn hm hk'
    obtain ⟨r, hr, rfl⟩ := List.mem_map.mp hv
    refine wpAny_tests_one (wpAny_isTrue_Compare1 (Subscript_ (ldVarK hn hm ?_)))
    refine wpAny_Constant_int ?_
    have R₃ := (hR.keeps F₁.keep).keeps hk'
    have X₃ := (hX.keeps F₁.keep).keeps hk'
    refine item_tuple (j := 0) (R₃ r hr) (by decide) (by decide) (by rfl) (by rfl) ?_
    refine ldCellK (c := L' + 1) rfl ⟨_, hk' _ _ (N₁.get (by k_mem)), by assumption⟩ ?_
    refine isNot_stand (X₃.one (hrx r hr)) (X₃.one hx) ?_
    rw [rowKeep_at R₃ x hr]
    exact wpAny_truthy_bool ⟨by show (!(Value.ref r.x == Value.ref x)) = _; rw [ref_beq]; rfl, _, _, rfl, fun _ _ e => e⟩
  · intro C v s₃ m₃ E' hv _ hn hm hk'
    exact ldVarK hn hm ⟨rfl, _, _, rfl, fun _ _ e => e⟩
  · intro D h₂ tk₂ hD hk₂ hpl
    obtain ⟨c₂, hD₂⟩ := hpl
    have N₂ := News.add F₁ N₁ hk₂ hD hD₂
    have F₂ := F₁.keeps hk₂
    clear F₁ N₁
    rw [rowKeep_filter hR x fun _ h => h, List.map_id'] at N₂
    k_steps
    rename News g' L' _ _ => N₃
    rename Fr g' L' _ _ => F₃
    k_dflt (refine' add_D (ws := [.ref _]) F₃ N₃ (News.isList N₃ (by k_mem)) (News.isList N₃ (by k_mem)) ?_ ?_)
    · have := List.length_filter_le (fun r : Row => r.x != x) rows
      rw [List.length_map]
      refine Nat.le_trans (m := 9) ?_ (by decide)
      simp only [List.length_cons, List.length_nil]
      omega
    intro DA' h₄ F₄ N₄ l4
    k_lt l4
    have f1 : @Ne Nat D st.TD := News.ne N₄ (by k_mem) (by k_mem) (fun q => absurd (Value.type.inj q) (show ¬ ("list" = "dict") by decide))
    have f2 : @Ne Nat DA st.TD := News.ne N₄ (by k_mem) (by k_mem) (fun q => absurd (Value.type.inj q) (show ¬ ("list" = "dict") by decide))
    have f3 : @Ne Nat st.T st.TD := News.ne N₄ (by k_mem) (by k_mem) (fun q => Value.noConfusion q)
    clear F₃ N₃
    k_steps
    rename News g' L' _ _ => N₅
    rename Fr g' L' _ _ => F₅

    refine hQF _ _ ?_
    refine leaveK_ (by assumption) (by assumption) fun _ _ => ?_
    refine hret _ _ _ (kept_end N hG F₅.keep ?_) ⟨rfl, DA', 0, _, not_in_heap hG (N₅.fresh (.head _)) (notin_led ?_), not_in_heap hG (N₅.fresh (in2)) (notin_led ?_), N₅.get (by k_mem), ?_, ⟨_, (N₅ _ (in2)).1, rfl, _, rfl⟩⟩
    · exact (fa3 (fun _ => N₅.get (by k_mem)) (fun q => absurd (.head _) q) (fun _ => N₅.get (by k_mem)))
    · exact (fa3 (fun q => by have q' := eqN q; dsimp only at q'; omega) (fun q => by have q' := eqN q; dsimp only at q'; omega) (fun q => by have q' := eqN q; dsimp only at q'; omega))
    · exact (fa3 (fun q => by have q' := eqN q; dsimp only at q'; omega) (fun q => by have q' := eqN q; dsimp only at q'; omega) (fun q => by have q' := eqN q; dsimp only at q'; omega))
    · rw [rowVals, List.map_append]; exact N₅.get (.head _)
end
end Mine
end
section
open PySem PySem.W PyProof.Rows PySem.Calls PySem.Spec
namespace Mine
noncomputable abbrev fsOf (l : List Env) : List Addr := l.filterMap (·.frame)
structure Moved (fs : List Addr) (h h' : Heap) : Prop where
  keep : ∀ b o, h.get? b = some o → b ∉ fs → h'.get? b = some o
  turn : h.UpToSlots h'
theorem Moved.trans {fs : List Addr} {h h₁ h₂ : Heap} (a : Moved fs h h₁) (b : Moved fs h₁ h₂) : Moved fs h h₂ := ⟨fun x o e n => b.keep x o (a.keep x o e n) n, a.turn.trans b.turn⟩
theorem Moved.of_keeps {fs : List Addr} {h h' : Heap} (k : ∀ b o, h.get? b = some o → h'.get? b = some o) : Moved fs h h' := ⟨fun b o e _ => k b o e, .of_keeps k⟩
section
variable {A₀ : Around} {base g h h' : Heap} {outer : List Env} {env : Env} {L e : Addr} {m : Str → Option Value} {news : List (Addr × Obj)}
theorem fs_cons (hf : env.frame = some L) : fsOf (env :: outer) = L :: fsOf outer := by
  show List.filterMap (·.frame) (env :: outer) = _
  rw [List.filterMap_cons, hf]
theorem ground_moved (K : Below A₀ base outer g) (F : Fr g L h m) (M : Moved (L :: fsOf outer) h h') : ∃ g', KtsTurn (fsOf outer) g g' ∧ Fr g' L h' m ∧ Below A₀ base outer g' := by
  obtain ⟨T, S⟩ := kts_turn_at (h := h') (fs := fsOf outer) (g := g)
    (fun b hb => by
      obtain ⟨_, o, ho, _⟩ := K.frames.mem hb
      exact ⟨o, ho⟩)
    (fun b o e nm => M.keep b o (F.keep b o e) (fun hm => by
      rcases List.mem_cons.mp hm with z | z
      · rw [z, kts_self F] at e; cases e
      · exact nm z))
    (fun b o e hm => by
      obtain ⟨_, o', ho', hd⟩ := K.frames.mem hm
      rw [e] at ho'; cases ho'
      exact M.turn b o (F.keep b o e) hd)
  refine ⟨_, T, ⟨M.turn.ns F.ns, S, by rw [T.size]; exact F.above⟩, ⟨K.stack, fun b o e => T.other b o (K.stays b o e) (fun hm => by
    rw [(K.frames.mem hm).1] at e; cases e), K.frames.of_keeps fun b o e _ => ?_⟩⟩
  obtain ⟨sl, hs⟩ := T.up e
  exact ⟨_, hs, rfl⟩
theorem News.apart (K : Below A₀ base outer g) (N : News g L h news) {p : Addr × Obj} (hp : p ∈ news) : p.1 ∉ (L :: fsOf outer) := fun hm => by
  rcases List.mem_cons.mp hm with z | z
  · exact (N p hp).2.1 z
  · obtain ⟨_, o, ho, _⟩ := K.frames.mem z
    rw [(N p hp).2.2] at ho; cases ho
theorem News.moved {g' : Heap} (K : Below A₀ base outer g) (N : News g L h news) (M : Moved (L :: fsOf outer) h h') (T : KtsTurn (fsOf outer) g g') : News g' L h' news := fun p hp =>
  ⟨M.keep _ _ (N p hp).1 (News.apart K N hp), (N p hp).2.1, T.none_ _ (N p hp).2.2⟩
theorem moved_turn {fs : List Addr} {g g' h' : Heap} (T : KtsTurn fs g g') (k : ∀ b o, g'.get? b = some o → h'.get? b = some o) : Moved fs g h' :=
  ⟨fun b o e n => k b o (T.other b o e n), fun b o e _ => by
    obtain ⟨sl, hs⟩ := T.up e
    exact ⟨sl, k _ _ hs⟩⟩
noncomputable def Flown (l : List Env) (h : Heap) (e : Addr) (X : String) (h' : Heap) : Prop := ∃ a0, Heap.FlyingW (hideAll h (fsOf l)) l e (.type X) a0 h' ∧ h.UpToSlots h'
theorem Flown.moved {l : List Env} {X : String} (R : Flown l h e X h') : Moved (fsOf l) h h' := by
  obtain ⟨a0, R, u⟩ := R
  exact ⟨fun b o x n => R.1 b o (hideAll_get _ x n), u⟩
theorem held_new {X : String} (K : Below A₀ base outer g) (F : Fr g L h m) (hf : env.frame = some L) (hke : env.scope.kind = .function) {M : Model} {E : Value → Shared → Prop} {s' : Shared} {Q : Unit → Shared → Prop} (hx : Heap.NewExcOf h s'.heap e X)
    (k : ∀ h₁ a0, Heap.HeldW (hideAll h (fsOf (env :: outer))) (env :: outer) e (.type X) a0 L h₁ → h.UpToSlots h₁ → Q () { s' with heap := h₁ }) :
    wpAny M (A₀.deeper env) (noteFrame (.ref e) env) Q E s' := by
  have K' := pushX K F hf hke
  have hin : ∀ v ∈ (env :: outer), ∀ b, v.frame = some b → b ∈ fsOf (env :: outer) := fun v he b hb => List.mem_filterMap.mpr ⟨v, he, hb⟩
  obtain ⟨ob, vs, he, hcls, hd, h1⟩ := hx.there
  have hen : (hideAll h (fsOf (env :: outer))).get? e = none := by
    cases q : (hideAll h (fsOf (env :: outer))).get? e with
    | none => rfl
    | some o => have := of_hideAll _ q; rw [hx.new] at this; cases this
  have h0 : ∃ a0, vs[0]? = some a0 := by
    have hs := (Array.getElem?_eq_some_iff.mp h1).1
    exact ⟨vs[0]'(by omega), Array.getElem?_eq_getElem _⟩
  obtain ⟨a0, h0⟩ := h0
  unfold noteFrame
  simp only [hf]
  refine wpAny_bind (wpAny_field he hd h1 ?_)
  rw [if_neg (by decide)]
  refine wpAny_entryW (a0 := a0) K'.stack ((funFrames_hide K'.frames hin).of_keeps fun b o hb _ => ⟨o, hx.keeps b o hb, rfl⟩) hf he (fun b o hb => hx.keeps b o (of_hideAll _ hb)) hen hd (Array.getElem?_eq_some_iff.mp h1).1 h0 fun h₁ hN => ?_
  obtain ⟨k1, k2, k3, k4⟩ := hN
  exact k h₁ a0 ⟨k1, hen, k2, by rw [← hcls]; exact k3⟩ ((Heap.UpToSlots.of_keeps hx.keeps).trans k4)
end
section
variable {prog : Program} {w : World} {A₀ : Around} {E : Value → Shared → Prop} {s' : Shared} {base g h : Heap} {outer : List Env} {L a e : Addr} {m : Str → Option Value} {name : Str} {scope : Scope} {cd : Value} {cl : List (Str × Addr)}
  {b₀ : Stmt} {suite : List Stmt} {pos np : Pos} {rest : List ExceptHandler} {Q : Flow → Shared → Prop} {news : List (Addr × Obj)} {KF : Frag}
  {p : Program} {loose : List Str} {mean : ExcName → Option Value} {mg mb : Str → Option Value} {x : Str} {X T' : String}
theorem taken (K : Below A₀ base outer g) (F : Fr g L h m) (N : News g L h news) (XB : KF.In base) (TB : Top p loose mean mg mb base) {a0 : Value}
    (hheld : Heap.HeldW (hideAll h (fsOf (envX name scope L a cd cl :: outer))) (envX name scope L a cd cl :: outer) e (.type X) a0 L s'.heap) (hsm : h.UpToSlots s'.heap)
    (ex : nsIn KF mainGlobals x = some none) (hv : bootBuiltins x = some (.type T')) (hn' : x ≠ "__name__")
    (hexc : isSubtype (.type T') (.type "BaseException") = pure true) (hnt : isSubtype (.type ((Manifest.find? T').elim "type" fun y => y.metatype)) (.type "tuple") = pure false) (hsub : isSubtype (.type X) (.type T') = pure true)
    (k : ∀ h' g', KtsTurn (fsOf outer) g g' → Fr g' L h' m → News g' L h' news → Below A₀ base outer g' → Moved (L :: fsOf outer) h h' →
      wpAny (model prog w) ((A₀.deeper (envX name scope L a cd cl)).mark (some (.ref e))) (execs (b₀ :: suite) (envX name scope L a cd cl)) Q E { s' with heap := h' })
    (hE : PassesOwnAt (model prog w) ((A₀.deeper (envX name scope L a cd cl)).mark (some (.ref e))) (A₀.deeper (envX name scope L a cd cl)) (envX name scope L a cd cl) E)
    (hk : scope.kind = .function := by rfl) (hx : (envX name scope L a cd cl).kindOf x = some .globalImplicit := by rfl) (hd : (x == ("__debug__" : Str)) = false := by decide) :
    wpAny (model prog w) (A₀.deeper (envX name scope L a cd cl)) (setFlight (.ref e) none) (fun _ s₃ =>
        wpAny (model prog w) (A₀.deeper (envX name scope L a cd cl)) (handleBy (.ref e) (envX name scope L a cd cl) (.ExceptHandler (some (.Name x np)) none (b₀ :: suite) pos :: rest)) Q E s₃) E s' := by
  have mv : ∀ h₁, (hideAll h (L :: fsOf outer)).StaysIn h₁ → h.UpToSlots h₁ → Moved (L :: fsOf outer) h h₁ := fun h₁ st u => ⟨fun b o x n => st b o (hideAll_get _ x n), u⟩
  refine wpAny_landsW hheld fun h₅ hheld₅ hsm₅ => ?_
  have M₅ := mv _ hheld₅.1 (hsm.trans hsm₅)
  obtain ⟨g₅, T₅, F₅, K₅⟩ := ground_moved K F M₅
  have X₅ : KF.In g₅ := XB.keeps K₅.stays
  have P₅ : TopRead p loose mg mb g₅ := topRead_of (TB.keeps K₅.stays)
  obtain ⟨ob, hob, hobc⟩ := hheld₅.there
  refine wpAny_handleBy_builtin (X := X) (T := T') (b := true) hexc hnt hsub (nameX_B F₅ X₅ P₅ ex hv hn' ⟨rfl, ⟨ob, hob, hobc⟩, ?_⟩ hk hx hd)
  refine lands_againW hheld₅ fun h₆ hfl₆ hsm₆ => ?_
  have M₆ := mv _ hfl₆.1 ((hsm.trans hsm₅).trans hsm₆)
  obtain ⟨g₆, T₆, F₆, K₆⟩ := ground_moved K F M₆
  exact wpAny_passesOwnAt hE (k h₆ g₆ T₆ F₆ (News.moved K N M₆ T₆) K₆ M₆)
theorem catch_here (K : Below A₀ base outer g) (F : Fr g L h m) (N : News g L h news) (XB : KF.In base) (TB : Top p loose mean mg mb base) (hx : Heap.NewExcOf h s'.heap e X)
    (ex : nsIn KF mainGlobals x = some none) (hv : bootBuiltins x = some (.type T')) (hn' : x ≠ "__name__")
    (hexc : isSubtype (.type T') (.type "BaseException") = pure true) (hnt : isSubtype (.type ((Manifest.find? T').elim "type" fun y => y.metatype)) (.type "tuple") = pure false) (hsub : isSubtype (.type X) (.type T') = pure true)
    (k : ∀ h' g', KtsTurn (fsOf outer) g g' → Fr g' L h' m → News g' L h' news → Below A₀ base outer g' → Moved (L :: fsOf outer) h h' →
      wpAny (model prog w) ((A₀.deeper (envX name scope L a cd cl)).mark (some (.ref e))) (execs (b₀ :: suite) (envX name scope L a cd cl)) Q E { s' with heap := h' })
    (hE : PassesOwnAt (model prog w) ((A₀.deeper (envX name scope L a cd cl)).mark (some (.ref e))) (A₀.deeper (envX name scope L a cd cl)) (envX name scope L a cd cl) E)
    (hk : scope.kind = .function := by rfl) (hx : (envX name scope L a cd cl).kindOf x = some .globalImplicit := by rfl) (hd : (x == ("__debug__" : Str)) = false := by decide) :
    wpAny (model prog w) (A₀.deeper (envX name scope L a cd cl)) (noteFrame (.ref e) (envX name scope L a cd cl))
      (fun _ s₂ => wpAny (model prog w) (A₀.deeper (envX name scope L a cd cl)) (setFlight (.ref e) none) (fun _ s₃ =>
        wpAny (model prog w) (A₀.deeper (envX name scope L a cd cl)) (handleBy (.ref e) (envX name scope L a cd cl) (.ExceptHandler (some (.Name x np)) none (b₀ :: suite) pos :: rest)) Q E s₃) E s₂) E s' :=
  held_new K F rfl hk ‹_› fun h₁ a0 hh u => taken (s' := { s' with heap := h₁ }) K F N XB TB hh u ex hv hn' hexc hnt hsub k hE hk hx hd
theorem catch_from (K : Below A₀ base outer g) (F : Fr g L h m) (N : News g L h news) (XB : KF.In base) (TB : Top p loose mean mg mb base) (R : Flown (envX name scope L a cd cl :: outer) h e X s'.heap)
    (ex : nsIn KF mainGlobals x = some none) (hv : bootBuiltins x = some (.type T')) (hn' : x ≠ "__name__")
    (hexc : isSubtype (.type T') (.type "BaseException") = pure true) (hnt : isSubtype (.type ((Manifest.find? T').elim "type" fun y => y.metatype)) (.type "tuple") = pure false) (hsub : isSubtype (.type X) (.type T') = pure true)
    (k : ∀ h' g', KtsTurn (fsOf outer) g g' → Fr g' L h' m → News g' L h' news → Below A₀ base outer g' → Moved (L :: fsOf outer) h h' →
      wpAny (model prog w) ((A₀.deeper (envX name scope L a cd cl)).mark (some (.ref e))) (execs (b₀ :: suite) (envX name scope L a cd cl)) Q E { s' with heap := h' })
    (hE : PassesOwnAt (model prog w) ((A₀.deeper (envX name scope L a cd cl)).mark (some (.ref e))) (A₀.deeper (envX name scope L a cd cl)) (envX name scope L a cd cl) E)
    (hk : scope.kind = .function := by rfl) (hx : (envX name scope L a cd cl).kindOf x = some .globalImplicit := by rfl) (hd : (x == ("__debug__" : Str)) = false := by decide) :
    wpAny (model prog w) (A₀.deeper (envX name scope L a cd cl)) (noteFrame (.ref e) (envX name scope L a cd cl))
      (fun _ s₂ => wpAny (model prog w) (A₀.deeper (envX name scope L a cd cl)) (setFlight (.ref e) none) (fun _ s₃ =>
        wpAny (model prog w) (A₀.deeper (envX name scope L a cd cl)) (handleBy (.ref e) (envX name scope L a cd cl) (.ExceptHandler (some (.Name x np)) none (b₀ :: suite) pos :: rest)) Q E s₃) E s₂) E s' := by
  obtain ⟨a0, hfl, u⟩ := R
  exact wpAny_looks_onW (Around.frames_deeper K.stack) rfl hfl fun h₄ hheld₄ hsm₄ => taken (s' := { s' with heap := h₄ }) K F N XB TB hheld₄ (u.trans hsm₄) ex hv hn' hexc hnt hsub k hE hk hx hd
end
section
variable {M : Model} {A₀ : Around} {E : Value → Shared → Prop} {s' : Shared} {base g h sh : Heap} {outer : List Env} {L e : Addr} {m : Str → Option Value} {env : Env} {Q : Unit → Shared → Prop} {X : String}
theorem fly_out (K : Below A₀ base outer g) (F : Fr g L h m) (hf : env.frame = some L) (hke : env.scope.kind = .function) (hx : Heap.NewExcOf h s'.heap e X) (hs : ∀ b o, sh.get? b = some o → h.get? b = some o ∨ b ∈ fsOf outer) (hu : sh.UpToSlots h) (hL : sh.get? L = none)
    (k : ∀ h', Flown outer sh e X h' → Q () { s' with heap := h' }) : wpAny M (A₀.deeper env) (leaving env (.ref e)) Q E s' := by
  have K' := pushX K F hf hke
  have hin' : ∀ v ∈ (env :: outer), ∀ b, v.frame = some b → b ∈ fsOf (env :: outer) := fun v he b hb => List.mem_filterMap.mpr ⟨v, he, hb⟩
  obtain ⟨ob, vs, he, hcls, hd, h1⟩ := hx.there
  have hen : (hideAll h (fsOf (env :: outer))).get? e = none := by
    cases q : (hideAll h (fsOf (env :: outer))).get? e with
    | none => rfl
    | some o => have := of_hideAll _ q; rw [hx.new] at this; cases this
  have h0 : ∃ a0, vs[0]? = some a0 := by
    have hs := (Array.getElem?_eq_some_iff.mp h1).1
    exact ⟨vs[0]'(by omega), Array.getElem?_eq_getElem _⟩
  obtain ⟨a0, h0⟩ := h0
  have sub : ∀ b o, (hideAll sh (fsOf outer)).get? b = some o → (hideAll h (fsOf (env :: outer))).get? b = some o := fun b o x => by
    have x' := of_hideAll _ x
    have nb : b ∉ fsOf outer := fun q => by rw [hideAll_none _ q] at x; cases x
    refine hideAll_get _ ((hs b o x').resolve_right nb) ?_
    rw [fs_cons hf]
    intro q
    rcases List.mem_cons.mp q with q | q
    · rw [q, hL] at x'; cases x'
    · exact nb q
  refine wpAny_leaving_firstW (a0 := a0) K'.stack ((funFrames_hide K'.frames hin').of_keeps fun b o hb _ => ⟨o, hx.keeps b o hb, rfl⟩) hf he (fun b o hb => hx.keeps b o (of_hideAll _ hb)) hen hd h1 h0 fun h' hL' => ?_
  obtain ⟨k1, ⟨_, _, k2⟩, k3, k4⟩ := hL'
  refine k h' ⟨a0, flyingW_base sub ⟨k1, hen, ?_, by rw [← hcls]; exact k3⟩, (hu.trans (Heap.UpToSlots.of_keeps hx.keeps)).trans k4⟩
  exact k2
end
end Mine
end
section
open PySem PySem.W PyProof.Rows PySem.Calls PySem.Spec
namespace Mine
theorem none_size (h : Heap) : h.get? h.objs.size = none := by
  cases q : h.get? h.objs.size with
  | none => rfl
  | some o => exact absurd (Heap.lt_size q) (Nat.lt_irrefl _)
theorem enterM_plain {prog : Program} {w : World} {A A₀ : Around} {s : Shared} {K : Frag} {base h₀ : Heap} {outer : List Env} {L : Addr} {m mg mb : Str → Option Value} {env : Env} {news : List (Addr × Obj)}
    {p : Program} {loose : List Str} {mean : ExcName → Option Value} {R : Result → Shared → Prop} {name qual : Str} {params : Arguments} {body : List Stmt} {scope : Scope} {dV kV doc pm cdv ct oc : Value} {an od : Option Addr}
    {osl : Array (Option Value)} {f : Addr} {args : Args} {binds : List (Str × Value)}
    (B : Below A₀ base outer h₀) (F : Fr h₀ L s.heap m) (XB : K.In base) (N : News h₀ L s.heap news) (TB : Top p loose mean mg mb base)
    (hA : A.frames = some (env :: outer)) (hf : env.frame = some L) (hke : env.scope.kind = .function)
    (ho : K.lookup f = some ⟨oc, od, .func (fnOf name qual params body scope dV kV doc pm an cdv ct), osl⟩) (hcd : codeIn K cdv qual = true) (hroom : A.depth < recursionLimit)
    (hbind : BindsTo s (fnOf name qual params body scope dV kV doc pm an cdv ct) args binds) (hloc : ∀ y ∈ binds, scope.names.lookup y.1 = some .local)
    (h : ∀ g L' h₁, (∀ b o, s.heap.get? b = some o → b ∉ news.map (·.1) → g.get? b = some o) → (∀ b o, s.heap.get? b = some o → h₁.get? b = some o) → (∀ p ∈ news, p.1 < L') → s.heap.get? L' = none → Fr h₀ L g m →
      Fr g L' h₁ (fun y => binds.reverse.lookup y) → News g L' h₁ news → Below A base (env :: outer) g → K.In g → Top p loose mean mg mb g →
      wpAny (model prog w) (A.deeper (envOf qual scope L' f cdv)) (execs body (envOf qual scope L' f cdv))
        (fun fl s' => R (.ok (.ret (match fl with | .ret v => v | _ => .none))) s')
        (fun e s' => wpAny (model prog w) (A.deeper (envOf qual scope L' f cdv)) (leaving (envOf qual scope L' f cdv) e) (fun _ s'' => R (.error e) s'') (fun e' s'' => R (.error e') s'') s')
        { s with heap := h₁, toks := s.toks + binds.length })
    (hco : scope.isCoroutine = false) (hgen : scope.isGenerator = false) (hk : scope.kind = .function) (hcell : ∀ x ∈ scope.names, x.2 ≠ .cell) :
    codeAny (model prog w) A (.call (.ref f) args) R s := by
  have X := XB.keeps B.stays
  have T := TB.keeps B.stays
  obtain ⟨FG, BG, st, lv⟩ := groundX (R := R) B F N hA hf hke
  refine codeAny_call_def (fd := fnOf name qual params body scope dV kV doc pm an cdv ct) (body := body) (binds := binds) hroom ((X.keeps F.keep) _ _ ho) rfl (T.nolimit.keeps F.keep)
    (codeRec_of (X.keeps F.keep) hcd) rfl hbind hcell hloc (fun h₁ hns hk₁ => ?_) hco hgen hk
  refine wpAny_mono (h _ s.heap.objs.size h₁ (fun b o e hb => hideAll_get _ e hb) hk₁ (fun q hq => Heap.lt_size (N q hq).1) (none_size _) FG
    ⟨hns, fun b o e => hk₁ b o (of_hideAll _ e), Nat.le_of_eq (hideAll_size _ _)⟩ (fun q hq => ⟨hk₁ _ _ (N q hq).1, Nat.ne_of_lt (Heap.lt_size (N q hq).1), hideAll_none _ (List.mem_map_of_mem hq)⟩)
    BG (X.keeps st) (T.keeps st)) (fun fl s' hl => hl) fun _ _ y => y

theorem enterM_cells {prog : Program} {w : World} {A A₀ : Around} {s : Shared} {K : Frag} {base h₀ : Heap} {outer : List Env} {L : Addr} {m mg mb : Str → Option Value} {env : Env} {news : List (Addr × Obj)}
    {p : Program} {loose : List Str} {mean : ExcName → Option Value} {R : Result → Shared → Prop} {name qual : Str} {params : Arguments} {body : List Stmt} {scope : Scope} {dV kV doc pm cdv ct oc : Value} {an od : Option Addr}
    {osl : Array (Option Value)} {f : Addr} {args : Args} {binds : List (Str × Value)}
    (B : Below A₀ base outer h₀) (F : Fr h₀ L s.heap m) (XB : K.In base) (N : News h₀ L s.heap news) (TB : Top p loose mean mg mb base)
    (hA : A.frames = some (env :: outer)) (hf : env.frame = some L) (hke : env.scope.kind = .function)
    (ho : K.lookup f = some ⟨oc, od, .func (fnOf name qual params body scope dV kV doc pm an cdv ct), osl⟩) (hcd : codeIn K cdv qual = true) (hroom : A.depth < recursionLimit)
    (hbind : BindsTo s (fnOf name qual params body scope dV kV doc pm an cdv ct) args binds)
    (hkind : (binds.all fun y => scope.names.lookup y.1 == some .local || scope.names.lookup y.1 == some .cell) = true) (hnd : ((cellsFrom 0 scope.names []).map (·.1)).Nodup)
    (h : ∀ g L' h₁ tk cells, (∀ b o, s.heap.get? b = some o → b ∉ news.map (·.1) → g.get? b = some o) → (∀ b o, s.heap.get? b = some o → h₁.get? b = some o) → (∀ p ∈ news, p.1 < L') → s.heap.get? L' = none → Fr h₀ L g m →
      Fr g L' h₁ (bindL (envOfC qual scope L' f cdv).kindOf binds fun _ => none) → News g L' h₁ (cells ++ news) →
      CellsAre (bindC (envOfC qual scope L' f cdv).kindOf binds fun _ => none) (cellsFrom (L' + 1) scope.names []) cells → Below A base (env :: outer) g → K.In g → Top p loose mean mg mb g →
      wpAny (model prog w) (A.deeper (envOfC qual scope L' f cdv)) (execs body (envOfC qual scope L' f cdv))
        (fun fl s' => R (.ok (.ret (match fl with | .ret v => v | _ => .none))) s')
        (fun e s' => wpAny (model prog w) (A.deeper (envOfC qual scope L' f cdv)) (leaving (envOfC qual scope L' f cdv) e) (fun _ s'' => R (.error e) s'') (fun e' s'' => R (.error e') s'') s')
        { s with heap := h₁, toks := tk })
    (hco : scope.isCoroutine = false) (hgen : scope.isGenerator = false) (hk : scope.kind = .function) :
    codeAny (model prog w) A (.call (.ref f) args) R s := by
  have X := XB.keeps B.stays
  have T := TB.keeps B.stays
  obtain ⟨FG, BG, st, lv⟩ := groundX (R := R) B F N hA hf hke
  refine codeAny_call_function hroom ((X.keeps F.keep) _ _ ho) rfl hco hgen rfl (codeRec_of (X.keeps F.keep) hcd) (hbind _ _ _ _ ?_)
  refine wpAny_newFunctionEnv_cells hk (kindsX hkind _) fun env' he s' x => ?_
  subst he
  refine ⟨(T.nolimit.keeps F.keep).keeps x.toInCall.keep, codeAny_func ?_⟩
  obtain ⟨h₁, tk, rfl, _⟩ := x.done
  have hk₁ := x.toInCall.keep
  obtain ⟨cells, NC, Y⟩ := Cl.news (h₀ := s.heap) (Nat.le_refl _) fun n c hm => ⟨x.cell n c (lookup_of_mem_nodup (cellsFrom_names scope.names 0 (s.heap.objs.size + 1) [] [] rfl ▸ hnd) hm), x.above n c hm⟩
  refine wpAny_mono (h _ s.heap.objs.size h₁ tk cells (fun b o e hb => hideAll_get _ e hb) hk₁ (fun q hq => Heap.lt_size (N q hq).1) (none_size _) FG
    ⟨x.toInCall.ns, fun b o e => hk₁ b o (of_hideAll _ e), Nat.le_of_eq (hideAll_size _ _)⟩ (fun q hq => ?_) Y BG (X.keeps st) (T.keeps st)) (fun fl s' hl => hl) fun _ _ y => y
  rcases List.mem_append.mp hq with hq | hq
  · refine ⟨(NC q hq).1, (NC q hq).2.1, ?_⟩
    cases z : (hideAll s.heap (news.map (·.1))).get? q.1 with
    | none => rfl
    | some o => have := of_hideAll _ z; rw [(NC q hq).2.2] at this; cases this
  · exact ⟨hk₁ _ _ (N q hq).1, Nat.ne_of_lt (Heap.lt_size (N q hq).1), hideAll_none _ (List.mem_map_of_mem hq)⟩

noncomputable def ClaimM (w : World) (D U : Nat) (f : Addr) (args : List Value) (led : List (Addr × Obj)) (mods : List Addr) (Pre : Heap → Prop) (Post : Heap → Value → Heap → Prop) (Perr : Prop) : Prop :=
  ∀ (dp un : Nat) (gd : Option (List Code)) (cn : Str) (cs : Scope) (a : Addr) (ccd : Value) (cl : List (Str × Addr)) (outer : List Env) (A₀ : Around) (base h₀ : Heap) (L : Addr) (m mg mb : Str → Option Value)
    (mean : ExcName → Option Value) (s : Shared) (Q E : Value → Shared → Prop),
    Below A₀ base outer h₀ → Fr h₀ L s.heap m → (Mine.K39 w.params).In base → News h₀ L s.heap led → Top topProg LZ mean mg mb base → cs.kind = .function → dp + D < recursionLimit → un + U < cLine → Pre s.heap →
    (∀ v h' tk h₀', KtsTurn (fsOf outer) h₀ h₀' → Fr h₀' L h' m → Below A₀ base outer h₀' → (∀ b o, s.heap.get? b = some o → b ∉ mods → b ∉ L :: fsOf outer → h'.get? b = some o) → Post s.heap v h' → Q v { s with heap := h', toks := tk }) →
    (∀ e h' tk, Perr → Flown (envX cn cs L a ccd cl :: outer) s.heap e "KeyError" h' → E (.ref e) { s with heap := h', toks := tk }) →
    wpAny (model PySem.Challenge.rw_ac0032_01.row.prog w) (ktrTop dp un gd cn cs L a ccd cl outer) (call (.ref f) args) Q E s
theorem ClaimM.use {w : World} {D U : Nat} {f : Addr} {args : List Value} {led news : List (Addr × Obj)} {mods : List Addr} {Pre : Heap → Prop} {Post : Heap → Value → Heap → Prop} {Perr : Prop} (C : ClaimM w D U f args led mods Pre Post Perr)
    {dp un : Nat} {gd : Option (List Code)} {cn : Str} {cs : Scope} {a : Addr} {ccd : Value} {cl : List (Str × Addr)} {outer : List Env} {A₀ : Around} {base h₀ : Heap} {L : Addr} {m mg mb : Str → Option Value}
    {mean : ExcName → Option Value} {s : Shared} {Q E : Value → Shared → Prop} (B : Below A₀ base outer h₀) (F : Fr h₀ L s.heap m) (XB : (Mine.K39 w.params).In base) (N : News h₀ L s.heap news) (TB : Top topProg LZ mean mg mb base)
    (hk : cs.kind = .function) (sub : ∀ p ∈ led, p ∈ news) (hd : dp + D < recursionLimit) (hu : un + U < cLine) (pre : Pre s.heap)
    (k : ∀ v h' tk h₀', KtsTurn (fsOf outer) h₀ h₀' → Fr h₀' L h' m → Below A₀ base outer h₀' → (∀ b o, s.heap.get? b = some o → b ∉ mods → b ∉ L :: fsOf outer → h'.get? b = some o) → Post s.heap v h' → Q v { s with heap := h', toks := tk })
    (kerr : ∀ e h' tk, Perr → Flown (envX cn cs L a ccd cl :: outer) s.heap e "KeyError" h' → E (.ref e) { s with heap := h', toks := tk }) :
    wpAny (model PySem.Challenge.rw_ac0032_01.row.prog w) (ktrTop dp un gd cn cs L a ccd cl outer) (call (.ref f) args) Q E s :=
  C dp un gd cn cs a ccd cl outer A₀ base h₀ L m mg mb mean s Q E B F XB (News.sub N sub) TB hk hd hu pre k kerr
theorem finishM {A₀ : Around} {base h₀ g g₂ h₂ : Heap} {outer : List Env} {L L₂ : Addr} {m m₂ : Str → Option Value} (B : Below A₀ base outer h₀) (FG : Fr h₀ L g m) (T : KtsTurn (L :: fsOf outer) g g₂) (F₂ : Fr g₂ L₂ h₂ m₂) :
    ∃ h₀', KtsTurn (fsOf outer) h₀ h₀' ∧ Fr h₀' L h₂ m ∧ Below A₀ base outer h₀' := ground_moved B FG (moved_turn T F₂.keep)
theorem keptM_end {h₀ h g g₂ h₂ : Heap} {outer : List Env} {L L₂ : Addr} {m₂ : Str → Option Value} {led : List (Addr × Obj)} {mods : List Addr} (N : News h₀ L h led) (hG : ∀ b o, h.get? b = some o → b ∉ led.map (·.1) → g.get? b = some o)
    (T : KtsTurn (L :: fsOf outer) g g₂) (F₂ : Fr g₂ L₂ h₂ m₂) (hl : ∀ p ∈ led, p.1 ∉ mods → h₂.get? p.1 = some p.2) : ∀ b o, h.get? b = some o → b ∉ mods → b ∉ L :: fsOf outer → h₂.get? b = some o := fun b o e hb hf => by
  by_cases hm : b ∈ led.map (·.1)
  · obtain ⟨p, hp, rfl⟩ := List.mem_map.mp hm
    have := (N p hp).1
    rw [e] at this; cases this
    exact hl p hp hb
  · exact F₂.keep b o (T.other b o (hG b o e hm) hf)
theorem none_back {fs : List Addr} {g g₂ : Heap} (T : KtsTurn fs g g₂) {b : Addr} (h : g₂.get? b = none) : g.get? b = none := by
  cases q : g.get? b with
  | none => rfl
  | some o =>
    obtain ⟨_, e⟩ := T.up q
    rw [h] at e; cases e
theorem old_kept {h₀ h g g₄ h₄ : Heap} {L L₄ : Addr} {fs : List Addr} {m₄ : Str → Option Value} {led : List (Addr × Obj)} (N : News h₀ L h led) (hG : ∀ b o, h.get? b = some o → b ∉ led.map (·.1) → g.get? b = some o)
    (T : KtsTurn fs g g₄) (F₄ : Fr g₄ L₄ h₄ m₄) (hl : ∀ p ∈ led, h₄.get? p.1 = some p.2) : (∀ b o, h.get? b = some o → h₄.get? b = some o ∨ b ∈ fs) ∧ h.UpToSlots h₄ := by
  have key : ∀ b o, h.get? b = some o → h₄.get? b = some o ∨ (b ∈ fs ∧ ∃ sl, h₄.get? b = some { o with slots := sl }) := fun b o e => by
    by_cases hm : b ∈ led.map (·.1)
    · obtain ⟨p, hp, rfl⟩ := List.mem_map.mp hm
      have := (N p hp).1
      rw [e] at this; cases this
      exact .inl (hl p hp)
    · have q := hG b o e hm
      by_cases hf : b ∈ fs
      · obtain ⟨sl, hs⟩ := T.frame b o q hf
        exact .inr ⟨hf, sl, F₄.keep _ _ hs⟩
      · exact .inl (F₄.keep _ _ (T.other b o q hf))
  refine ⟨fun b o e => (key b o e).imp id And.left, fun b o e _ => ?_⟩
  rcases key b o e with q | ⟨_, sl, q⟩
  · exact ⟨o.slots, q⟩
  · exact ⟨sl, q⟩
end Mine
end
section
open PySem PySem.W PyProof.Rows PySem.Calls PySem.Spec PyProof.V
namespace Mine
section
local macro_rules | `(tactic| walk_at "eval ListComp") => `(tactic| (refine hold ?_))
local macro_rules | `(tactic| walk_at "pyIter ref") => `(tactic| (refine hold ?_))
local macro_rules | `(tactic| walk_at "exec Try") => `(tactic| (k_here; (first | refine wpAny_Try_except ?_ | refine wpAny_Try_finally ?_ | refine wpAny_Try_except_finally ?_); (try k_fold)))
theorem setdata_new_c {w : World} (st : Tst) (S2 : Nat) (mv : Value) (x y : Nat) :
    ClaimM w 80 400 503 [.ref st.T, .ref x, .ref y] [(st.T, instObj 542 st.TD), (st.TD, dictOf (st.ents w S2 active mv []) 12)] [st.TD] (fun _ => True)
      (fun h v h' => v = .none ∧ ∃ (t : Tok) (DA' : Nat) (nr' : Nat) (a' : Nat), h.get? DA' = none ∧ h.get? a' = none ∧ h'.get? st.TD = some (dictOf (st.ents w S2 active mv [ent w "_data" t (.ref DA')]) 13) ∧
        h'.get? DA' = some (listOf (rowVals [⟨a', x, y⟩]).toArray nr') ∧ IsTup h' a' #[.ref x, .ref y]) False := by
  unfold ClaimM
  k_fill
  intro dp un gd cn cs a ccd cl outer A₀ base h₀ L m mg mb mean s Q E B F XB N TB hk hd hu hpre hret _
  have XH := XB.keeps B.stays
  refine wpAny_call ?_
  k_dflt (refine' enterM_cells (binds := [(Str.ofString "self", .ref st.T), (Str.ofString "ob", .ref x), (Str.ofString "ob_data", .ref y)]) B F XB N TB rfl rfl hk (by k_is) (by k_is) ?hr (BindsTo.of_eq rfl) ?kB ?kD ?_ rfl rfl rfl)
  case hr => exact Nat.lt_of_le_of_lt (Nat.le_add_right _ _) hd
  case kB => exact rfl
  case kD => decide +kernel
  intro g' L' h' tk' cells' hG hup l1 hL' FG' F' N' Y' B' X' T'
  refine wpAny_hideQ ?_
  intro QF hQF
  k_lt l1
  k_cells Y'
  simp only [List.cons_append, List.nil_append] at N'
  try dsimp only
  k_steps
  k_dflt (refine' miss_c ?F ?X ?I ?hg ?hh ?ha ?hc ?hl ?hcd ?h1 ?h2 ?hd ?_; (case F => k_asm); (case X => k_asm); (case I => k_inst); (case hg => k_is); (case hh => k_is); (case ha => k_is); (case hc => decide); (case hl => first | k_get | exact rfl); (case hcd => k_is); (case h1 => first | decide +kernel | exact rfl); (case h2 => first | decide +kernel | exact rfl); (case hd => exact rfl); k_whole)
  intro h₃ tk₃ e₃ H₃
  refine catch_here B' F' N' XB TB H₃.of (by k_is) PyProof.Rows.Boot.AttributeError (by decide +kernel) ?a1 ?a2 ?a3 ?a4 ?a5
  case a4 =>
    intro h₄ g₄ T₄ F₄ N₄ B₄ M₄
    have X₄ := XB.keeps B₄.stays
    have P₄ := TB.keeps B₄.stays
    have f3 : @Ne Nat st.T st.TD := News.ne N₄ (by k_mem) (by k_mem) (fun q => Value.noConfusion q)
    clear F' N' B' X' T'
    k_steps
    refine Hold.out (wpAny_ListComp_free (fun _ => true) (fun v y => y = (fun u : Value => u) v) (by with_unfolding_all rfl) (by decide) (by rfl) (by decide) (by rfl) ?_)
    k_steps
    rename News g₄ L' _ _ => N₁
    rename Fr g₄ L' _ _ => F₁
    refine Hold.out (lc_S (vs := []) rfl ?hl (by decide) ?_ ?_ ?_)
    case hl => exact News.isList (n := 0) (d := none) (sl := #[]) N₁ (by k_mem)
    · intro C v s₃ m₃ E' hv; exact nomatch hv
    · intro C v s₃ m₃ E' hv; exact nomatch hv
    · intro D h₂ tk₂ hD hk₂ hpl
      obtain ⟨c₂, hD₂⟩ := hpl
      have N₂ := News.add F₁ N₁ hk₂ hD hD₂
      have F₂ := F₁.keeps hk₂
      clear F₁ N₁
      dsimp only [List.filter_nil, List.map_nil] at N₂
      have f4 : @Ne Nat D st.TD := News.ne N₂ (by k_mem) (by k_mem) (fun q => absurd (Value.type.inj q) (show ¬ ("list" = "dict") by decide))
      k_steps
      rename News g₄ L' _ _ => N₆
      rename Fr g₄ L' _ _ => F₆
      obtain ⟨h₀', Q₁, Q₂, Q₃⟩ := finishM B FG' T₄ F₆
      refine hQF _ _ ?_
      refine hret _ _ _ h₀' Q₁ Q₂ Q₃ (keptM_end N hG T₄ F₆ ?_) ?_
      · exact (fa2 (fun _ => N₆.get (by k_mem)) (fun q => absurd (.head _) q))
      · refine ⟨rfl, _, _, 0, _, not_in_heap hG (none_back T₄ (N₆.fresh (.head _))) (notin_led ?_), not_in_heap hG (none_back T₄ (N₆.fresh (in2))) (notin_led ?_), N₆.get (by k_mem), N₆.get (.head _), ⟨_, (N₆ _ (in2)).1, rfl, _, rfl⟩⟩
        · exact (fa2 (fun q => by have q' := eqN q; dsimp only at q'; omega) (fun q => by have q' := eqN q; dsimp only at q'; omega))
        · exact (fa2 (fun q => by have q' := eqN q; dsimp only at q'; omega) (fun q => by have q' := eqN q; dsimp only at q'; omega))
  case a1 => rw [isSubtype_type]; kernel_rfl
  case a2 => (have e : (Manifest.find? "AttributeError").elim "type" (fun y => y.metatype) = "type" := by (with_unfolding_all decide +kernel)); rw [e, isSubtype_type]; kernel_rfl
  case a3 => rw [isSubtype_type]; kernel_rfl
  case a5 => passes_own
end
end Mine
end
section
open PySem PySem.W PyProof.Rows PySem.Calls PySem.Spec PyProof.V PyProof.Rows.LCg
namespace Mine
noncomputable def PtSrc (prog : Program) (w : World) (A : Around) (env : Env) (elt c : PySem.Expr) (x x₂ : Str) (scope : Scope) (cl : List (Str × Addr)) (p : Row → Bool) (f : Row → Value) (Q : Value → Shared → Prop) (xv : Value) (s₁ : Shared) : Prop :=
  ∃ (l : Addr) (its : List Row), xv = .ref l ∧ s₁.heap.IsList l (rowVals its).toArray ∧ its.length ≤ sizeLine ∧ RowsAt its s₁.heap ∧
      (∀ r ∈ its, ∀ C s₃ m₃ E', s₃.heap.Ns C m₃ → m₃ x = some (.ref r.x) → m₃ x₂ = some (.ref r.y) → (∀ b o, s₁.heap.get? b = some o → s₃.heap.get? b = some o) →
        wpAny (model prog w) A (isTrue c (compEnvC scope cl C env) (eval c (compEnvC scope cl C env))) (fun ok s₄ => ok = p r ∧ Keeps s₃ s₄) E' s₃) ∧
      (∀ r ∈ its, ∀ C s₃ m₃ E', p r = true → s₃.heap.Ns C m₃ → m₃ x = some (.ref r.x) → m₃ x₂ = some (.ref r.y) → (∀ b o, s₁.heap.get? b = some o → s₃.heap.get? b = some o) →
        wpAny (model prog w) A (eval elt (compEnvC scope cl C env)) (fun y s₄ => y = f r ∧ Keeps s₃ s₄) E' s₃) ∧
      (∀ D h' tk cnt, s₁.heap.get? D = none → (∀ b o, s₁.heap.get? b = some o → h'.get? b = some o) → h'.get? D = some (listOf ((its.filter p).map f).toArray cnt) → Q (.ref D) { s₁ with heap := h', toks := tk })
theorem ListComp_pt {prog : Program} {w : World} {A : Around} {E : Value → Shared → Prop} {s : Shared} {env : Env} {elt iter c : PySem.Expr} {x x₂ : Str} {px px₂ tp : Pos} {kk} {scope : Scope} {cl : List (Str × Addr)} {pos : Pos} {Q : Value → Shared → Prop}
    (p : Row → Bool) (f : Row → Value) (hh : A.handled = none)
    (hclos : closureFor scope env = pure cl) (hcell : ∀ y ∈ scope.names, y.2 ≠ .cell) (hkind : scope.kind = .function)
    (hnames : ∀ y ∈ scope.names, y.2 = .local → scope.names.lookup y.1 = some .local) (hx : scope.names.lookup x = some .local) (hx₂ : scope.names.lookup x₂ = some .local) (hxx : x ≠ x₂)
    (h : wpAny (model prog w) A (eval iter env) (PtSrc prog w A env elt c x x₂ scope cl p f Q) E s)
    (hs : ∀ x, foldedSetIterable iter env x = pure x := by intro _; rfl) :
    wpAny (model prog w) A (eval (.ListComp elt [⟨.Tuple [.Name x px, .Name x₂ px₂] kk tp, iter, [c], 0⟩] scope pos) env) Q E s := by
  rw [eval_ListComp]
  refine wpAny_comprehension_free (use := none) rfl hs hclos hkind hnames (wpAny_mono h (fun xv s₁ h₁ => ?_) fun _ _ e => e)
  obtain ⟨l, its, rfl, hl, hsz, hR, ht, he, hQ⟩ := h₁
  have hlt : @LT.lt Nat _ l s₁.heap.objs.size := by obtain ⟨_, e, _⟩ := hl; exact Heap.lt_size e
  refine wpAny_pyIter_list hl ?_
  have up : ∀ b o, s₁.heap.get? b = some o → (s₁.heap.push { cls := .type "list_iterator", data := .fields #[.ref l, .int 0 0] }).get? b = some o := fun b o e => Heap.get?_push_of_some _ e
  have hst : (s₁.heap.push { cls := .type "list_iterator", data := .fields #[.ref l, .int 0 0] }).IsListIter s₁.heap.objs.size l 0 ∧ (s₁.heap.push { cls := .type "list_iterator", data := .fields #[.ref l, .int 0 0] }).IsList l (rowVals its).toArray := ⟨⟨_, Heap.get?_push_size _ rfl, rfl, rfl⟩, hl.push _⟩
  have W := Walks.list (prog := prog) (w := w) hh s₁.heap.objs.size l (Nat.ne_of_lt hlt) (rowVals its).toArray
  generalize hH1 : s₁.heap.push { cls := .type "list_iterator", data := .fields #[.ref l, .int 0 0] } = H1 at hst up ⊢
  have s1 : H1.objs.size = s₁.heap.objs.size + 1 := by rw [← hH1, Heap.size_push]
  generalize hI : s₁.heap.objs.size = I at W hst s1 hlt ⊢
  refine wpAny_newObj_type (wpAny_newFunctionEnv hcell (by intro y hy; simp at hy) (fun h₁ hns₁ hsb₁ => ?_) hkind)
  dsimp only at hns₁ hsb₁ ⊢
  generalize hH2 : H1.push { cls := .type "list", dict := none, data := .seq ([] : List Value).toArray } = H2 at hns₁ hsb₁ ⊢
  have s2 : H2.objs.size = H1.objs.size + 1 := by rw [← hH2, Heap.size_push]
  have old : ∀ b o, H1.get? b = some o → h₁.get? b = some o := fun b o e => hsb₁.extBut b o (Nat.ne_of_lt (by have : @LT.lt Nat _ b H1.objs.size := Heap.lt_size e; omega)) (Heap.get?_push_of_some _ (hH2 ▸ Heap.get?_push_of_some _ e))
  have hacc : h₁.get? H1.objs.size = some (listOf #[] 0) := hsb₁.extBut _ _ (Nat.ne_of_lt (by omega)) (Heap.get?_push_of_some _ (hH2 ▸ Heap.get?_push_size _ rfl))
  have hD₁ : s₁.heap.get? H1.objs.size = none := by
    cases q : s₁.heap.get? H1.objs.size with
    | none => rfl
    | some o => have : @LT.lt Nat _ H1.objs.size s₁.heap.objs.size := Heap.lt_size q; omega
  have hlen : (rowVals its).toArray.size = its.length := by simp
  have hst₁ := W.frame _ _ _ hst fun b _ o e => old b o e
  have hs1lt : ∀ b o, s₁.heap.get? b = some o → @LT.lt Nat _ b I := fun b o e => hI ▸ Heap.lt_size e
  have loop : ∀ s₃ : Shared, s₃ = { s₁ with heap := h₁, toks := s₁.toks + ([] : List (Str × Value)).length } →
      codeAny (model prog w) A (.compLoop (.ListComp elt [⟨.Tuple [.Name x px, .Name x₂ px₂] kk tp, iter, [c], 0⟩] scope pos) 0 (.ref I) (.ref H1.objs.size) (compEnvC scope cl H2.objs.size env))
        (compPost (model prog w) A E none Q (.ref H1.objs.size) H2.objs.size) s₃ := by
    rintro s₃ rfl
    refine kct_loop
      (fun k s' => ∃ h' tk i m' cnt, s' = { s₁ with heap := h', toks := tk } ∧ i ≤ its.length ∧ k = its.length + 1 - i ∧ (h'.IsListIter I l i ∧ h'.IsList l (rowVals its).toArray) ∧ h'.Ns H2.objs.size m' ∧
        h'.get? H1.objs.size = some (listOf (((its.take i).filter p).map f).toArray cnt) ∧ ∀ b o, s₁.heap.get? b = some o → h'.get? b = some o) ?_ (its.length + 1)
      ⟨h₁, _, 0, _, 0, rfl, Nat.zero_le _, rfl, hst₁, hns₁, hacc, fun b o e => old b o (up b o e)⟩
    rintro k s' ⟨h', tk, i, m', cnt, rfl, hi, rfl, hst', hn', hD', hk'⟩
    by_cases hil : i < its.length
    · refine W.item i _ _ _ (by rw [hlen]; exact hil) hst' fun v h₂ tk₂ hPv hst₂ hk₂ => ?_
      have hv : v = .ref (its[i]'hil).a := by
        simp [hil] at hPv
        exact hPv.symm
      subst hv
      generalize hr : its[i]'hil = r
      have hrm : r ∈ its := hr ▸ List.getElem_mem hil
      have kk₂ : ∀ b o, s₁.heap.get? b = some o → h₂.get? b = some o := fun b o e => hk₂ b o (by simp only [List.mem_singleton]; exact Nat.ne_of_lt (hs1lt b o e)) (hk' b o e)
      have hD₂ := hk₂ _ _ (by simp only [List.mem_singleton]; exact Nat.ne_of_gt (by omega)) hD'
      have hn₂ := hn'.at' fun o e => hk₂ _ o (by simp only [List.mem_singleton]; exact Nat.ne_of_gt (by omega)) e
      refine wpAny_letOwnedTupleGo_listiter hst₂.1 ?_
      refine assign_Tuple_tuple hh ((hR r hrm).keeps kk₂) rfl rfl fun h₅ hex => ?_
      have he' : ∀ b o, h₂.get? b = some o → h₅.get? b = some o := fun b o e => hex b o (Nat.ne_of_lt (Heap.lt_size e)) e
      refine assignInOrder_cons (wpAny_assign_Name (wpAny_storeName_local (lookup_relabel_local hx) (hn₂.at' fun o e => he' _ o e) (fun h₆ hn₆ hs₆ => ?_) (by simp [compEnvC, relabel, hkind])))
      refine assignInOrder_cons (wpAny_assign_Name (wpAny_storeName_local (lookup_relabel_local hx₂) hn₆ (fun h₃ hn₃ hs₃ => ?_) (by simp [compEnvC, relabel, hkind])))
      refine assignInOrder_nil ?_
      have old3 : ∀ b o, b ≠ H2.objs.size → h₂.get? b = some o → h₃.get? b = some o := fun b o hb e => hs₃.extBut b o hb (hs₆.extBut b o hb (he' b o e))
      have kk₃ : ∀ b o, s₁.heap.get? b = some o → h₃.get? b = some o := fun b o e => old3 b o (Nat.ne_of_lt (by have := hs1lt b o e; omega)) (kk₂ b o e)
      have hD₃ := old3 _ _ (Nat.ne_of_lt (by omega)) hD₂
      have hst₃ := W.frame _ _ _ hst₂ fun b hb o e => old3 b o (by
        simp only [List.mem_cons, List.not_mem_nil, or_false] at hb
        rcases hb with rfl | rfl
        · exact Nat.ne_of_lt (by omega)
        · exact Nat.ne_of_lt (by omega)) e
      refine wpAny_mono (ht r hrm _ _ _ _ hn₃ (by simp [hxx]) (by simp) kk₃) (fun ok s₄ h₄ => ?_) fun _ _ e => e
      obtain ⟨rfl, h₄, tk₄, rfl, k₄⟩ := h₄
      dsimp only at k₄ ⊢
      have ef : (its.take (i + 1)).filter p = (its.take i).filter p ++ (if p r = true then [r] else []) := by
        rw [List.take_succ_eq_append_getElem hil, List.filter_append, hr]
        cases hpr : p r <;> simp [hpr]
      cases hp : p r with
      | true =>
        refine wpAny_mono (he r hrm _ _ _ _ hp (hn₃.at' fun o e => k₄ _ o e) (by simp [hxx]) (by simp) fun b o e => k₄ b o (kk₃ b o e)) (fun y s₅ h₅ => ?_) fun _ _ e => e
        obtain ⟨rfl, h₅, tk₅, rfl, k₅⟩ := h₅
        dsimp only at k₅ ⊢
        have hD₅ := k₅ _ _ (k₄ _ _ hD₃)
        refine append_at (hsz := by
          rw [List.size_toArray, List.length_map]
          exact Nat.le_trans (List.length_filter_le _ _) (Nat.le_trans (List.length_take_le _ _) (Nat.le_trans hi hsz))) hD₅ fun h₇ hs₇ hD₇ => ?_
        refine ⟨its.length + 1 - (i + 1), by omega, h₇, tk₅, i + 1, _, cnt + 1, rfl, hil, rfl, W.frame _ _ _ hst₃ fun b hb o e => hs₇.extBut b o (by
          simp only [List.mem_cons, List.not_mem_nil, or_false] at hb
          rcases hb with rfl | rfl
          · exact Nat.ne_of_lt (by omega)
          · exact Nat.ne_of_lt (by omega)) (k₅ _ _ (k₄ _ _ e)), (hn₃.at' fun o e => k₅ _ _ (k₄ _ o e)).sameBut hs₇ (show @Ne Nat H2.objs.size H1.objs.size by omega), ?_, fun b o e => hs₇.extBut b o (Nat.ne_of_lt (by have := hs1lt b o e; omega)) (k₅ _ _ (k₄ _ _ (kk₃ b o e)))⟩
        rw [hD₇, ef, hp]
        simp
      | false =>
        refine ⟨its.length + 1 - (i + 1), by omega, h₄, tk₄, i + 1, _, cnt, rfl, hil, rfl, W.frame _ _ _ hst₃ fun b _ o e => k₄ _ _ e, hn₃.at' fun o e => k₄ _ o e, ?_, fun b o e => k₄ _ _ (kk₃ b o e)⟩
        rw [k₄ _ _ hD₃, ef, hp]
        simp
    · obtain rfl : i = its.length := Nat.le_antisymm hi (Nat.not_lt.mp hil)
      refine W.done _ _ _ (by rw [hlen]; exact hst') fun h₂ tk₂ hk₂ => ?_
      have kk₂ : ∀ b o, s₁.heap.get? b = some o → h₂.get? b = some o := fun b o e => hk₂ b o (by simp only [List.mem_singleton]; exact Nat.ne_of_lt (hs1lt b o e)) (hk' b o e)
      have hD₂ := hk₂ _ _ (by simp only [List.mem_singleton]; exact Nat.ne_of_gt (by omega)) hD'
      have hn₂ := hn'.at' fun o e => hk₂ _ o (by simp only [List.mem_singleton]; exact Nat.ne_of_gt (by omega)) e
      rw [List.take_length] at hD₂
      exact ⟨_, hn₂, fun h'' hs'' => hQ _ h'' tk₂ cnt hD₁ (fun b o e => hs''.extBut b o (Nat.ne_of_lt (by have := hs1lt b o e; omega)) (kk₂ b o e)) (hs''.extBut _ _ (Nat.ne_of_lt (by omega)) hD₂)⟩
  exact codeAny_compStart_list (loop _ rfl) (W.self 0 _ _ _ hst₁ (loop _ rfl))
end Mine
end
section
open PySem PySem.W PyProof.Rows PySem.Calls PySem.Spec PyProof.V
namespace Mine
section
local macro_rules | `(tactic| walk_at "eval ListComp") => `(tactic| (refine hold ?_))
local macro_rules | `(tactic| walk_at "subscriptTail") => `(tactic| (refine hold ?_))
local macro_rules | `(tactic| walk_at "exec Try") => `(tactic| (k_here; (first | refine wpAny_Try_except ?_ | refine wpAny_Try_finally ?_ | refine wpAny_Try_except_finally ?_); (try k_fold)))
local macro_rules | `(tactic| walk_at "pad") => `(tactic| skip)
theorem data_hit_c {w : World} (st : Tst) (S2 : Nat) (mv : Value) (t : Tok) (DA nr : Nat) (rows : List Row) (x : Nat) (ths : List Nat) (hlen : rows.length ≤ 8) (hx : x ∈ ths) (hrx : ∀ r ∈ rows, r.x ∈ ths) (hlo : st.T ∉ ths ∧ st.TD ∉ ths ∧ DA ∉ ths) (r₀ : Row) (rs : List Row) (hr₀ : rows.filter (fun r => r.x == x) = r₀ :: rs) :
    Claim w 80 400 498 [.ref st.T, .ref x] [(st.T, instObj 542 st.TD), (st.TD, dictOf (st.ents w S2 active mv [ent w "_data" t (.ref DA)]) 13), (DA, listOf (rowVals rows).toArray nr)] [] (fun h => RowsAt rows h ∧ StandN ths h)
      (fun h v h' => v = .ref r₀.y) := by
  unfold Claim
  k_fill
  intro dp un gd cn cs a ccd cl outer A₀ base h₀ L m mg mb mean s Q E B F X N T hk hd hu hpre hret
  refine wpAny_call ?_
  k_dflt (refine' enter_cells (binds := [(Str.ofString "self", .ref st.T), (Str.ofString "ob", .ref x)]) B F X N T rfl rfl hk (by k_is) (by k_is) ?hr (BindsTo.of_eq rfl) ?kB ?kD ?_ rfl rfl rfl)
  case hr => exact Nat.lt_of_le_of_lt (Nat.le_add_right _ _) hd
  case kB => exact rfl
  case kD => decide +kernel
  intro g' L' h' tk' cells' hG hup l1 FG' F' N' Y' B' X' T'
  refine wpAny_hideQ ?_
  intro QF hQF
  k_lt l1
  k_cells Y'
  simp only [List.cons_append, List.nil_append] at N'
  try dsimp only
  obtain ⟨o1, o2, o3⟩ := hlo
  have hR : RowsAt rows g' := hpre.1.base N hG ((fa3 (fun q => Value.noConfusion q) (fun q => absurd (Value.type.inj q) (show ¬ ("dict" = "tuple") by decide)) (fun q => absurd (Value.type.inj q) (show ¬ ("list" = "tuple") by decide))))
  have hX : StandN ths g' := hpre.2.base hG ((fa3 o1 o2 o3))
  k_steps
  rename News g' L' _ _ => N₁
  rename Fr g' L' _ _ => F₁
  refine Hold.out (ListComp_pt (fun r => r.x == x) (fun r => .ref r.y) rfl (by with_unfolding_all rfl) (by decide) (by rfl) (by decide) (by rfl) (by rfl) (by decide) ?_)
  k_steps
  refine ⟨DA, rows, rfl, News.isList (n := nr) (d := none) (sl := #[]) N₁ (by k_mem), fits8 hlen, hR.keeps F₁.keep, ?_, ?_, ?_⟩
  · intro r hr C s₃ m₃ E' hn hm1 hm2 hk'
    refine wpAny_isTrue_Compare1 (ldVarK hn hm1 ?_)
    refine ldCellK (c := L' + 1) rfl ⟨_, hk' _ _ (N₁.get (by k_mem)), by assumption⟩ ?_
    have X₃ := (hX.keeps F₁.keep).keeps hk'
    refine is_stand (X₃.one (hrx r hr)) (X₃.one hx) ?_
    exact wpAny_truthy_bool ⟨ref_beq _ _, _, _, rfl, fun _ _ e => e⟩
  · intro r hr C s₃ m₃ E' _ hn hm1 hm2 hk'
    exact ldVarK hn hm2 ⟨rfl, _, _, rfl, fun _ _ e => e⟩
  · intro D h₂ tk₂ cnt hD hk₂ hD₂
    have N₂ := News.add F₁ N₁ hk₂ hD hD₂
    have F₂ := F₁.keeps hk₂
    clear F₁ N₁
    rw [hr₀] at N₂
    try rw [List.map_cons] at N₂
    k_steps
    refine Hold.out (item_litK (vs := .ref r₀.y :: rs.map fun r => .ref r.y) (News.isList (n := cnt) (d := none) (sl := #[]) N₂ (by k_mem)) (by decide) (by decide) rfl ?_)
    k_steps
    rename News g' L' _ _ => N₃
    rename Fr g' L' _ _ => F₃
    refine hQF _ _ ?_
    refine leaveK_ (by assumption) (by assumption) fun _ _ => ?_
    refine hret _ _ _ (kept_end N hG F₃.keep ?_) rfl
    exact (fa3 (fun _ => N₃.get (by k_mem)) (fun _ => N₃.get (by k_mem)) (fun _ => N₃.get (by k_mem)))
end
end Mine
end
section
open PySem
namespace Mine

structure KFacts (cls ow newId initId : String) : Prop where
  ends : newId.endsWith ".__new__" = true
  owner : newId.dropRight 8 = ow
  newEntry : entryFor table newId = some Builtin.«BaseException.__new__»
  sub : isSubtype (.type cls) (.type cls) = pure true
  subOw : isSubtype (.type cls) (.type ow) = pure true
  notAttr : isSubtype (.type cls) (.type "AttributeError") = pure false
  notName : isSubtype (.type cls) (.type "NameError") = pure false
  madeHere : Bind.madeHere "BaseException.__new__" (.type cls) = pure ()
  notType : (Value.type cls == Value.type "type") = false
  canMake : ((Manifest.find? cls).bind fun x => List.findSome? (fun t => (Manifest.find? t).bind fun b =>
    if b.noNew = true then some true else if (b.attrs.any fun x => x.fst == "__new__") = true then some false else none) x.mro).getD false = false
  noVector : ∀ args, checkTypeCall cls args = pure ()
  mro : ∃ m, mroOf (.type cls) = pure m ∧ m.isEmpty = false
  madeBy : Bind.madeBy (.type cls) = pure (some newId)
  quiet : newId.startsWith "lifetime." = false
  newOk : ∀ rest, checkBuiltinCall newId ⟨.type cls :: rest, []⟩ = pure ()
  init : Slot cls "__init__" initId
  initEntry : entryFor table initId = some Builtin.«BaseException.__init__»
  initSplit : splitId initId = some (cls, "__init__")
  initKind : builtinKind initId = some .slot
  initRow : Manifest.signature? initId = some ⟨.positional, "*", cls, .self, [⟨"args", .varPos, false⟩]⟩
  noStar : (cls != "*") = true
section
variable {prog : Program} {w : World} {A : Around} {R : Result → Shared → Prop} {cls ow newId initId : String}
theorem kf_new (K : KFacts cls ow newId initId) {rest : List Value} {hp : Heap} {g : Array GenState} {d : Drawn} {tk : Nat} {os : OsState}
    (h : R (.ok (.ret (.ref (hp.objs.size + 1)))) ⟨(hp.push { cls := .type "tuple", data := .seq rest.toArray }).push
      { cls := .type cls, data := .fields #[.ref hp.objs.size, .none, .none, .none, .bool false, .none] }, g, d, tk, os⟩)
    (hrest : rest.length ≤ sizeLine) :
    codeAny (model prog w) A (.builtin newId ⟨.type cls :: rest, []⟩) R ⟨hp, g, d, tk, os⟩ := by
  obtain ⟨hends, howner, hentry, hsub2, hsub, hna, hnn, hmade⟩ := K
  refine codeAny_builtinAt hentry ?_
  unfold Builtin.«BaseException.__new__»
  refine wpAt_bind ?_
  show wpAt _ _ _ (stack >>= _) _ _ _
  refine wpAt_bind (wpAt_stack fun p below => wpAt_of_wpAny ?_)
  wp_walk
  refine wpAt_of_wpAny ?_
  rw [howner]
  wp_walk
  show R _ _
  rw [Heap.size_push]
  exact h
theorem kf_checkInit (K : KFacts cls ow newId initId) {M : Model} {self : Value} {rest : List Value} {E : Value → Shared → Prop} {Q : Unit → Shared → Prop}
    {hp : Heap} {g : Array GenState} {d : Drawn} {tk : Nat} {os : OsState} (hT : Shared.TypeIs ⟨hp, g, d, tk, os⟩ self cls) (h : Q () ⟨hp, g, d, tk, os⟩) :
    wpAny M A (checkBuiltinCall initId ⟨self :: rest, []⟩) Q E ⟨hp, g, d, tk, os⟩ := by
  have hsub := K.sub
  have hshort := K.noStar
  simp only [checkBuiltinCall, K.initKind, K.initSplit, K.initRow]
  wp_walk
  refine wpAny_onRaise ?_
  rw [show ∀ (a b : String) (n : Nat), Bind.check ⟨.positional, "*", cls, .self, [⟨"args", .varPos, false⟩]⟩ a b n (List.map (fun x => x.fst) ({ pos := self :: rest } : Args).kw) = pure () from
    fun a b n => check_star_args _ _ _ _ _ _]
  exact wpAny_pure h
theorem kf_typeCall (K : KFacts cls ow newId initId) {rest : List Value} {E : Value → Shared → Prop} {Q : Fin → Shared → Prop}
    {hp : Heap} {g : Array GenState} {d : Drawn} {tk : Nat} {os : OsState}
    (h : ∀ h' e, Heap.MadeExc hp h' e cls rest → Q (.done (.ret (.ref e))) ⟨h', g, d, tk, os⟩) (hrest : rest.length ≤ sizeLine) :
    wpAny (model prog w) A (Builtin.«type.__call__» ⟨.type cls :: rest, []⟩) Q E ⟨hp, g, d, tk, os⟩ := by
  have hnt := K.notType
  have hcan := K.canMake
  have hchk := K.noVector ⟨rest, []⟩
  obtain ⟨m, hmro, hne⟩ := K.mro
  have hmade := K.madeBy
  wp_walk
  refine codeAny_call_builtin_code (Code.quiet_builtin _ K.quiet) (wpAny_of_eq (K.newOk rest) ?_)
  refine kf_new K ?_ hrest
  show wpAny _ _ _ _ _ _
  have hget : ((hp.push { cls := .type "tuple", data := .seq rest.toArray }).push
      { cls := .type cls, data := .fields #[.ref hp.objs.size, .none, .none, .none, .bool false, .none] }).get? (hp.objs.size + 1) = some
      { cls := .type cls, data := .fields #[.ref hp.objs.size, .none, .none, .none, .bool false, .none] } := by heap_get
  refine wpAny_bind (wpAny_isInstance ⟨_, hget, rfl⟩ K.sub ?_)
  wp_step
  refine wpAny_bind (wpAny_holding (wpAny_callSpecial?_slot ⟨_, hget, rfl⟩ K.init (wpAny_call (codeAny_call_builtin K.init.plain K.initEntry (kf_checkInit K ⟨_, hget, rfl⟩ ?_)))))
  wp_walk
  refine h _ _ ⟨fun b o hb => ?_, Heap.get?_none_of_le (Nat.le_succ _), hp.objs.size + 2, ?_, Heap.get?_none_of_le (by omega), ?_⟩
  · rw [Heap.get?_update_other _ _ (Nat.ne_of_gt (Nat.lt_succ_of_lt (Heap.lt_size hb)))]
    exact Heap.get?_push_of_some _ (Heap.get?_push_of_some _ (Heap.get?_push_of_some _ hb))
  · rw [Heap.get?_update_self _ (Heap.get?_push_of_some _ hget) rfl]
    simp only [Heap.size_push]
    rfl
  · rw [Heap.get?_update_other _ _ (show hp.objs.size + 1 ≠ hp.objs.size + 2 by omega)]
    exact Heap.get?_push_at (by simp only [Heap.size_push]) rfl
theorem kf_call (K : KFacts cls ow newId initId) {rest : List Value} {E : Value → Shared → Prop} {Q : Value → Shared → Prop}
    {hp : Heap} {g : Array GenState} {d : Drawn} {tk : Nat} {os : OsState}
    (h : ∀ h' e, Heap.MadeExc hp h' e cls rest → Q (.ref e) ⟨h', g, d, tk, os⟩) (hrest : rest.length ≤ sizeLine) :
    wpAny (model prog w) A (call (.type cls) rest) Q E ⟨hp, g, d, tk, os⟩ := by
  refine wpAny_call (codeAny_of_tree ?_)
  show wpAny _ _ (again (.builtin "type.__call__" ⟨.type cls :: rest, []⟩)) _ _ _
  exact wpAny_pure ⟨Code.quiet_builtin _ (by decide +kernel), codeAny_builtin entry_typeCall (kf_typeCall K (fun h' e hm => h h' e hm) hrest)⟩
end
theorem ke_facts : KFacts "KeyError" "LookupError" "LookupError.__new__" "KeyError.__init__" where
  ends := by decide +kernel
  owner := by decide +kernel
  newEntry := PySem.F.excCall_LookupError.entry
  sub := by rw [isSubtype_type]; kernel_rfl
  subOw := by rw [isSubtype_type]; kernel_rfl
  notAttr := by rw [isSubtype_type]; kernel_rfl
  notName := by rw [isSubtype_type]; kernel_rfl
  madeHere := by kernel_rfl
  notType := by decide +kernel
  canMake := by kernel_rfl
  noVector := fun args => by kernel_rfl
  mro := ⟨[.type "KeyError", .type "LookupError", .type "Exception", .type "BaseException", .type "object"], by rw [mroOf_type]; kernel_rfl, rfl⟩
  madeBy := by kernel_rfl
  quiet := by decide +kernel
  newOk := fun rest => by kernel_rfl
  init := .of (owner := "KeyError") (n := "__init__") (by rw [typeLookup_type, builtinLookup_eq_fast]; kernel_rfl) (by decide +kernel) (by decide +kernel) (by decide +kernel)
    (by first | exact .inl (by decide +kernel) | exact .inr (by decide +kernel)) (by rw [isSubtype_type]; kernel_rfl)
  initEntry := entryFor_alias (id' := "BaseException.__init__") (by rw [fastTable_eq_tree]; kernel_rfl) (by first | rfl | decide +kernel) (by decide +kernel) (by rw [fastTable_eq_tree]; kernel_rfl)
  initSplit := by kernel_rfl
  initKind := by kernel_rfl
  initRow := by kernel_rfl
  noStar := by decide +kernel
theorem ke_raise : ExcRaiseFacts "KeyError" where
  isExc := by rw [isSubtype_type]; kernel_rfl
  plainMeta := by kernel_rfl
end Mine
end
section
open PySem PySem.W PyProof.Rows PySem.Calls PySem.Spec
namespace Mine
noncomputable def Bare (h : Heap) (e : Addr) : Prop := ∃ oe vs, h.get? e = some oe ∧ oe.data = .fields vs ∧ vs[2]? = some .none
section
variable {M : Model} {A : Around} {E : Value → Shared → Prop} {s : Shared}
theorem entryC {base : Heap} {env : Env} {outer : List Env} {L e : Addr} {oe : Obj} {vs : Array Value} {head a0 : Value} {hadNext : Bool} {Q : Unit → Shared → Prop}
    (hfr : A.frames = some (env :: outer)) (hl : s.heap.FunFrames base (env :: outer)) (hf : env.frame = some L)
    (he : s.heap.get? e = some oe) (hkb : base.StaysIn s.heap) (hen : base.get? e = none) (hd : oe.data = .fields vs) (hsz : 1 < vs.size) (h0 : vs[0]? = some a0) (h2 : vs[2]? = some .none)
    (h : ∀ h', Heap.NotedW base (env :: outer) e oe.cls a0 (rawInt L) s.heap h' → Bare h' e → Q () { s with heap := h' }) :
    wpAny M A (do let a ← frameOf env; let pl ← entryPlaceOf L hadNext; let b ← EntryCells.newEntry head a .none (rawInt L) .none pl; setField (.ref e) 1 b) Q E s := by
  have hene : e ∉ (env :: outer).filterMap (·.frame) := fun hm => by
    obtain ⟨_, o, ho, hnf⟩ := hl.mem hm
    rw [he] at ho; injection ho with ho; subst ho; exact hnf vs hd
  refine wpAny_bind (wpAny_frameOf_fun hfr hl hf fun h₁ hs₁ => ?_)
  refine wpAny_bind (wpAny_entryPlaceOf fun pl hpl => ?_)
  unfold EntryCells.newEntry newFields
  refine wpAny_bind (wpAny_newObj_type ?_ (hpl.sizeOk5 _ _ _ _ _))
  have he₁ : h₁.get? e = some oe := (hs₁.2.1 e hene).trans he
  have kb₁ : base.StaysIn h₁ := fun b o hbo => (hs₁.2.1 b fun hm => by rw [(hl.mem hm).1] at hbo; cases hbo).trans (hkb b o hbo)
  have he₂ := Heap.get?_push_of_some (h := h₁) { cls := .type "traceback", dict := none, data := .fields ([head, .ref L, .none, rawInt L, .none] ++ (if pl.isEmpty then List.replicate 6 Value.none else pl)).toArray } he₁
  refine wpAny_setField he₂ hd hsz (h _ ?_ ⟨_, _, Heap.get?_update_self (Obj.mapFields (·.setIfInBounds 1 (Value.ref h₁.objs.size))) he₂ (Obj.isFreed_of_fields (Obj.data_mapFields hd (·.setIfInBounds 1 (Value.ref h₁.objs.size)))), Obj.data_mapFields hd (·.setIfInBounds 1 (Value.ref h₁.objs.size)), by rw [Array.getElem?_setIfInBounds_ne (by decide)]; exact h2⟩)
  have hTe : h₁.objs.size ≠ e := Nat.ne_of_gt (Heap.lt_size he₁)
  have hd₃ := Obj.data_mapFields hd (·.setIfInBounds 1 (Value.ref h₁.objs.size))
  have he₃ := Heap.get?_update_self (Obj.mapFields (·.setIfInBounds 1 (Value.ref h₁.objs.size))) he₂ (Obj.isFreed_of_fields hd₃)
  have hT₃ := (Heap.get?_update_other (h₁.push { cls := .type "traceback", dict := none, data := .fields ([head, .ref L, .none, rawInt L, .none] ++ (if pl.isEmpty then List.replicate 6 Value.none else pl)).toArray })
    (Obj.mapFields (·.setIfInBounds 1 (Value.ref h₁.objs.size))) (Ne.symm hTe)).trans (Heap.get?_push_size h₁ rfl)
  have keep : ∀ b o, b ≠ e → h₁.get? b = some o →
      ((h₁.push { cls := .type "traceback", dict := none, data := .fields ([head, .ref L, .none, rawInt L, .none] ++ (if pl.isEmpty then List.replicate 6 Value.none else pl)).toArray }).update e (Obj.mapFields (·.setIfInBounds 1 (Value.ref h₁.objs.size)))).get? b = some o :=
    fun b o hbe hb => by
      rw [Heap.get?_update_other _ _ (Ne.symm hbe)]
      exact Heap.get?_push_of_some _ hb
  have noRecord : ∀ b o, s.heap.get? b = some o → (∀ vs, o.data ≠ .fields vs) → b ≠ e := fun b o hb hnf q => by
    rw [q, he] at hb; injection hb with hb; subst hb; exact hnf vs hd
  refine ⟨fun b o hbo => keep b o (fun q => by rw [q, hen] at hbo; cases hbo) (kb₁ b o hbo), hl.of_keeps fun b o hb hnf => ?_, ?_, fun b o hb hnf => ?_⟩
  · obtain ⟨sl, hs⟩ := hs₁.2.2 b o hb
    exact ⟨_, keep b _ (noRecord b o hb hnf) hs, rfl⟩
  · exact ⟨_, _, h₁.objs.size, _, _, he₃, ⟨Obj.cls_mapFields _ _, by rw [Array.getElem?_setIfInBounds_ne (by decide)]; exact h0⟩, hd₃, by simp [hsz], kb₁.fresh, hTe, hT₃, rfl, by first | (simp; done) | (rcases hpl with rfl | ⟨_, _, _, _, _, _, _, rfl⟩ <;> simp)⟩
  · obtain ⟨sl, hs⟩ := hs₁.2.2 b o hb
    exact ⟨sl, keep b _ (noRecord b o hb hnf) hs⟩
theorem flightC {base : Heap} {l : List Env} {e : Addr} {cls a0 fl : Value} {Q : Unit → Shared → Prop}
    (hkb : base.StaysIn s.heap) (hl : s.heap.FunFrames base l) (ht : s.heap.TracedAtW base e cls a0 fl)
    (h : ∀ h', base.StaysIn h' → h'.FunFrames base l → h'.TracedW base e cls a0 → (∀ b o, s.heap.get? b = some o → (∀ vs, o.data ≠ .fields vs) → h'.get? b = some o) → h'.get? e = s.heap.get? e → Q () { s with heap := h' }) :
    wpAny M A (setFlight (.ref e) none) Q E s := by
  obtain ⟨oe, vs, T, oT, ts, he, hcls, hd, h1, hnT, hTe, hT, hdT, h3⟩ := ht
  have hsz3 : 3 < ts.size := (Array.getElem?_eq_some_iff.mp h3).1
  have other : ∀ b, b ≠ T → (s.heap.update T (Obj.mapFields (·.setIfInBounds 3 ((none : Option Addr).elim Value.none fun f => rawInt f)))).get? b = s.heap.get? b :=
    fun b hb => Heap.get?_update_other _ _ (Ne.symm hb)
  have noRecord : ∀ b o, s.heap.get? b = some o → (∀ vs, o.data ≠ .fields vs) → b ≠ T := fun b o hb hnf q => by
    rw [q, hT] at hb; injection hb with hb; subst hb; exact hnf ts hdT
  unfold setFlight
  refine wpAny_bind (wpAny_field he hd h1 ?_)
  rw [if_pos (show (Value.ref T != Value.none) = true from by simp)]
  refine wpAny_setField hT hdT hsz3 (h _ (fun b o hbo => (other b fun q => by rw [q, hnT] at hbo; cases hbo).trans (hkb b o hbo))
    (hl.of_keeps fun b o hb hnf => ⟨o, (other b (noRecord b o hb hnf)).trans hb, rfl⟩) ?_ (fun b o hb hnf => (other b (noRecord b o hb hnf)).trans hb) (other e (Ne.symm hTe)))
  exact ⟨oe, vs, T, _, _, (other e (Ne.symm hTe)).trans he, hcls, hd, h1, hnT, hTe, Heap.get?_update_self _ hT (Obj.isFreed_of_fields (Obj.data_mapFields hdT _)), Obj.data_mapFields hdT _, by simp [hsz3]⟩
theorem landsC {base : Heap} {l : List Env} {e L : Addr} {cls a0 : Value} {Q : Unit → Shared → Prop} (hh : Heap.HeldW base l e cls a0 L s.heap)
    (hQ : ∀ h', Heap.FlyingW base l e cls a0 h' → s.heap.UpToSlots h' → h'.get? e = s.heap.get? e → Q () { s with heap := h' }) : wpAny M A (setFlight (.ref e) none) Q E s := by
  obtain ⟨f1, f2, f3, f4⟩ := hh
  exact flightC f1 f3 f4 fun h' k1 k2 k3 k4 k5 => hQ h' ⟨k1, f2, k2, k3⟩ (fun b o hb hn => ⟨o.slots, k4 b o hb hn⟩) k5
theorem lands_againC {base : Heap} {l : List Env} {e : Addr} {cls a0 : Value} {Q : Unit → Shared → Prop} (hh : Heap.FlyingW base l e cls a0 s.heap)
    (hQ : ∀ h', Heap.FlyingW base l e cls a0 h' → s.heap.UpToSlots h' → h'.get? e = s.heap.get? e → Q () { s with heap := h' }) : wpAny M A (setFlight (.ref e) none) Q E s := by
  obtain ⟨f1, f2, f3, f4⟩ := hh
  exact flightC f1 f3 f4.at fun h' k1 k2 k3 k4 k5 => hQ h' ⟨k1, f2, k2, k3⟩ (fun b o hb hn => ⟨o.slots, k4 b o hb hn⟩) k5
end
section
variable {A₀ : Around} {base g h h' : Heap} {outer : List Env} {env : Env} {L e : Addr} {m : Str → Option Value} {news : List (Addr × Obj)}
theorem held_newC {X : String} (K : Below A₀ base outer g) (F : Fr g L h m) (hf : env.frame = some L) (hke : env.scope.kind = .function) {M : Model} {E : Value → Shared → Prop} {s' : Shared} {Q : Unit → Shared → Prop} (hx : Heap.NewExcOf h s'.heap e X) (hb : Bare s'.heap e)
    (k : ∀ h₁ a0, Heap.HeldW (hideAll h (fsOf (env :: outer))) (env :: outer) e (.type X) a0 L h₁ → h.UpToSlots h₁ → Bare h₁ e → Q () { s' with heap := h₁ }) :
    wpAny M (A₀.deeper env) (noteFrame (.ref e) env) Q E s' := by
  have K' := pushX K F hf hke
  have hin : ∀ v ∈ (env :: outer), ∀ b, v.frame = some b → b ∈ fsOf (env :: outer) := fun v he b hb => List.mem_filterMap.mpr ⟨v, he, hb⟩
  obtain ⟨ob, vs, he, hcls, hd, h1⟩ := hx.there
  have hen : (hideAll h (fsOf (env :: outer))).get? e = none := by
    cases q : (hideAll h (fsOf (env :: outer))).get? e with
    | none => rfl
    | some o => have := of_hideAll _ q; rw [hx.new] at this; cases this
  have h0 : ∃ a0, vs[0]? = some a0 := by
    have hs := (Array.getElem?_eq_some_iff.mp h1).1
    exact ⟨vs[0]'(by omega), Array.getElem?_eq_getElem _⟩
  obtain ⟨a0, h0⟩ := h0
  have h2 : vs[2]? = some .none := by
    obtain ⟨o2, v2, q1, q2, q3⟩ := hb
    have e1 : ob = o2 := Option.some.inj (he.symm.trans q1)
    subst e1
    rw [hd] at q2; cases q2
    exact q3
  unfold noteFrame
  simp only [hf]
  refine wpAny_bind (wpAny_field he hd h1 ?_)
  rw [if_neg (by decide)]
  refine entryC (a0 := a0) K'.stack ((funFrames_hide K'.frames hin).of_keeps fun b o hb _ => ⟨o, hx.keeps b o hb, rfl⟩) hf he (fun b o hb => hx.keeps b o (of_hideAll _ hb)) hen hd (Array.getElem?_eq_some_iff.mp h1).1 h0 h2 fun h₁ hN hB => ?_
  obtain ⟨k1, k2, k3, k4⟩ := hN
  exact k h₁ a0 ⟨k1, hen, k2, by rw [← hcls]; exact k3⟩ ((Heap.UpToSlots.of_keeps hx.keeps).trans k4) hB
end
section
variable {prog : Program} {w : World} {A₀ : Around} {E : Value → Shared → Prop} {s' : Shared} {base g h : Heap} {outer : List Env} {L a e : Addr} {m : Str → Option Value} {name : Str} {scope : Scope} {cd : Value} {cl : List (Str × Addr)}
  {b₀ : Stmt} {suite : List Stmt} {pos np : Pos} {rest : List ExceptHandler} {Q : Flow → Shared → Prop} {news : List (Addr × Obj)} {KF : Frag}
  {p : Program} {loose : List Str} {mean : ExcName → Option Value} {mg mb : Str → Option Value} {x : Str} {X T' : String}
theorem takenC (K : Below A₀ base outer g) (F : Fr g L h m) (N : News g L h news) (XB : KF.In base) (TB : Top p loose mean mg mb base) {a0 : Value}
    (hheld : Heap.HeldW (hideAll h (fsOf (envX name scope L a cd cl :: outer))) (envX name scope L a cd cl :: outer) e (.type X) a0 L s'.heap) (hsm : h.UpToSlots s'.heap) (hb : Bare s'.heap e)
    (ex : nsIn KF mainGlobals x = some none) (hv : bootBuiltins x = some (.type T')) (hn' : x ≠ "__name__")
    (hexc : isSubtype (.type T') (.type "BaseException") = pure true) (hnt : isSubtype (.type ((Manifest.find? T').elim "type" fun y => y.metatype)) (.type "tuple") = pure false) (hsub : isSubtype (.type X) (.type T') = pure true)
    (k : ∀ h' g', KtsTurn (fsOf outer) g g' → Fr g' L h' m → News g' L h' news → Below A₀ base outer g' → Moved (L :: fsOf outer) h h' → Bare h' e →
      wpAny (model prog w) ((A₀.deeper (envX name scope L a cd cl)).mark (some (.ref e))) (execs (b₀ :: suite) (envX name scope L a cd cl)) Q E { s' with heap := h' })
    (hE : PassesOwnAt (model prog w) ((A₀.deeper (envX name scope L a cd cl)).mark (some (.ref e))) (A₀.deeper (envX name scope L a cd cl)) (envX name scope L a cd cl) E)
    (hk : scope.kind = .function := by rfl) (hx : (envX name scope L a cd cl).kindOf x = some .globalImplicit := by rfl) (hd : (x == ("__debug__" : Str)) = false := by decide) :
    wpAny (model prog w) (A₀.deeper (envX name scope L a cd cl)) (setFlight (.ref e) none) (fun _ s₃ =>
        wpAny (model prog w) (A₀.deeper (envX name scope L a cd cl)) (handleBy (.ref e) (envX name scope L a cd cl) (.ExceptHandler (some (.Name x np)) none (b₀ :: suite) pos :: rest)) Q E s₃) E s' := by
  have mv : ∀ h₁, (hideAll h (L :: fsOf outer)).StaysIn h₁ → h.UpToSlots h₁ → Moved (L :: fsOf outer) h h₁ := fun h₁ st u => ⟨fun b o x n => st b o (hideAll_get _ x n), u⟩
  refine landsC hheld fun h₅ hheld₅ hsm₅ heq₅ => ?_
  have M₅ := mv _ hheld₅.1 (hsm.trans hsm₅)
  obtain ⟨g₅, T₅, F₅, K₅⟩ := ground_moved K F M₅
  have X₅ : KF.In g₅ := XB.keeps K₅.stays
  have P₅ : TopRead p loose mg mb g₅ := topRead_of (TB.keeps K₅.stays)
  obtain ⟨ob, hob, hobc⟩ := hheld₅.there
  refine wpAny_handleBy_builtin (X := X) (T := T') (b := true) hexc hnt hsub (nameX_B F₅ X₅ P₅ ex hv hn' ⟨rfl, ⟨ob, hob, hobc⟩, ?_⟩ hk hx hd)
  refine lands_againC hheld₅ fun h₆ hfl₆ hsm₆ heq₆ => ?_
  have M₆ := mv _ hfl₆.1 ((hsm.trans hsm₅).trans hsm₆)
  obtain ⟨g₆, T₆, F₆, K₆⟩ := ground_moved K F M₆
  exact wpAny_passesOwnAt hE (k h₆ g₆ T₆ F₆ (News.moved K N M₆ T₆) K₆ M₆ (by unfold Bare; rw [heq₆, heq₅]; exact hb))
theorem catch_hereC (K : Below A₀ base outer g) (F : Fr g L h m) (N : News g L h news) (XB : KF.In base) (TB : Top p loose mean mg mb base) (hx : Heap.NewExcOf h s'.heap e X) (hb : Bare s'.heap e)
    (ex : nsIn KF mainGlobals x = some none) (hv : bootBuiltins x = some (.type T')) (hn' : x ≠ "__name__")
    (hexc : isSubtype (.type T') (.type "BaseException") = pure true) (hnt : isSubtype (.type ((Manifest.find? T').elim "type" fun y => y.metatype)) (.type "tuple") = pure false) (hsub : isSubtype (.type X) (.type T') = pure true)
    (k : ∀ h' g', KtsTurn (fsOf outer) g g' → Fr g' L h' m → News g' L h' news → Below A₀ base outer g' → Moved (L :: fsOf outer) h h' → Bare h' e →
      wpAny (model prog w) ((A₀.deeper (envX name scope L a cd cl)).mark (some (.ref e))) (execs (b₀ :: suite) (envX name scope L a cd cl)) Q E { s' with heap := h' })
    (hE : PassesOwnAt (model prog w) ((A₀.deeper (envX name scope L a cd cl)).mark (some (.ref e))) (A₀.deeper (envX name scope L a cd cl)) (envX name scope L a cd cl) E)
    (hk : scope.kind = .function := by rfl) (hx : (envX name scope L a cd cl).kindOf x = some .globalImplicit := by rfl) (hd : (x == ("__debug__" : Str)) = false := by decide) :
    wpAny (model prog w) (A₀.deeper (envX name scope L a cd cl)) (noteFrame (.ref e) (envX name scope L a cd cl))
      (fun _ s₂ => wpAny (model prog w) (A₀.deeper (envX name scope L a cd cl)) (setFlight (.ref e) none) (fun _ s₃ =>
        wpAny (model prog w) (A₀.deeper (envX name scope L a cd cl)) (handleBy (.ref e) (envX name scope L a cd cl) (.ExceptHandler (some (.Name x np)) none (b₀ :: suite) pos :: rest)) Q E s₃) E s₂) E s' :=
  held_newC K F rfl hk ‹Heap.NewExcOf h s'.heap e X› hb fun h₁ a0 hh u hB => takenC (s' := { s' with heap := h₁ }) K F N XB TB hh u hB ex hv hn' hexc hnt hsub k hE hk hx hd
end
end Mine
end
section
open PySem PySem.W PyProof.Rows PySem.Calls PySem.Spec
namespace Mine
theorem entry_unchain : entryFor table "proto.unchain" = some Builtin.«proto.unchain» := by first | exact entryFor_of_fast (by kernel_rfl) | exact entryFor_of_tree (by kernel_rfl)
section
variable {prog : Program} {w : World} {A : Around} {E : Value → Shared → Prop} {s : Shared} {env : Env}
theorem raiseNew_in {α : Type} {e hE : Addr} {o : Obj} {vs : Array Value} {Q : α → Shared → Prop} (hh : A.handled = some (.ref hE)) (hne : hE ≠ e) (hb : Bare s.heap hE) (he : s.heap.get? e = some o) (hd : o.data = .fields vs) (hs : 2 < vs.size)
    (h : E (.ref e) { s with heap := s.heap.update e (Obj.mapFields (·.setIfInBounds 2 (.ref hE))) }) : wpAny (model prog w) A (raiseNew (.ref e) : Sem α) Q E s := by
  obtain ⟨oe, ws, q1, q2, q3⟩ := hb
  unfold raiseNew
  refine wpAny_bind (wpAny_handled ?_)
  rw [hh]
  dsimp only
  rw [if_pos (show ((Value.ref hE != Value.ref e) = true) from by simp [hne])]
  refine wpAny_bind (wpAny_holding (wpAny_runValue (codeAny_builtin entry_unchain ?_)))
  unfold Builtin.«proto.unchain»
  dsimp only
  refine wpAny_bind (wpAny_field q1 q2 q3 ?_)
  rw [if_pos (by rfl)]
  refine wpAny_pure ?_
  show wpAny _ _ (updateField e 2 (Value.ref hE) >>= fun _ => throw (Value.ref e)) _ _ _
  refine wpAny_bind ?_
  show wpAny _ _ (setField (.ref e) 2 (.ref hE)) _ _ _
  refine wpAny_setField he hd hs ?_
  exact wpAny_throw h
theorem raise_in {cls : String} (F : ExcRaiseFacts cls) {hE : Addr} {x : Sem Value} {Q : Flow → Shared → Prop} (hh : A.handled = some (.ref hE))
    (h : wpAny (model prog w) A x (fun v s₁ => ∃ e t, v = .ref e ∧ s₁.heap.get? e = some { cls := .type cls, data := .fields #[.ref t, .none, .none, .none, .bool false, .none] } ∧ hE ≠ e ∧ Bare s₁.heap hE ∧
      E (.ref e) { s₁ with heap := s₁.heap.update e (Obj.mapFields (·.setIfInBounds 2 (.ref hE))) }) E s) :
    wpAny (model prog w) A (raiseStmt env (some x) none) Q E s := by
  unfold raiseStmt
  refine wpAny_bind (wpAny_mono h (fun v s₁ h₁ => ?_) fun _ _ x => x)
  obtain ⟨e, t, rfl, he, hne, hb, hE⟩ := h₁
  obtain ⟨hp, g, d, tk, os⟩ := s₁
  have hsub := F.isExc
  have hmeta := F.plainMeta
  repeat (first | refine wpAny_loadPart he ?_ | wp_step)
  exact raiseNew_in hh hne hb he rfl (show 2 < 6 by decide) hE
theorem evalArgs_one {M : Model} {A : Around} {E : Value → Shared → Prop} {s : Shared} {env : Env} {f : Value} {pos : Pos} {e₀ : Expr} {Q : Args → Shared → Prop} (hs : starEach [e₀] env = [(false, eval e₀ env)])
    (h : wpAny M A (eval e₀ env) (fun v s₁ => Q ⟨[v], []⟩ s₁) E s) : wpAny M A (evalArgs f true (backTo pos (starEach [e₀] env)) []) Q E s := by
  rw [hs]
  show wpAny M A (evalArgs f true [(false, eval e₀ env)] []) Q E s
  refine evalArgs_plain (spliced_cons (wpAny_mono h (fun v s₁ h₁ => ?_) fun _ _ x => x))
  exact spliced_nil h₁
theorem Raise_KeyError_in {hE : Addr} {x : Str} {np cpos pos : Pos} {e₀ : Expr} {Q : Flow → Shared → Prop} (hh : A.handled = some (.ref hE)) (hplain : (backTo cpos (starEach [e₀] env)).any (·.1) = false)
    (h : wpAny (model prog w) A (eval (.Name x np) env) (fun f s₁ => f = .type "KeyError" ∧ wpAny (model prog w) A (evalArgs (.type "KeyError") true (backTo cpos (starEach [e₀] env)) [])
      (fun a s₂ => a.kw = [] ∧ a.pos.length ≤ sizeLine ∧ Bare s₂.heap hE ∧ ∀ h' e, Heap.NewExcOf s₂.heap h' e "KeyError" → E (.ref e) { s₂ with heap := h' }) E s₁) E s) :
    wpAny (model prog w) A (exec (.Raise (some (.Call (.Name x np) [e₀] [] cpos)) none pos) env) Q E s := by
  have inner : wpAny (model prog w) A (eval (.Call (.Name x np) [e₀] [] cpos) env) (fun v s₁ => ∃ e t, v = .ref e ∧ s₁.heap.get? e = some { cls := .type "KeyError", data := .fields #[.ref t, .none, .none, .none, .bool false, .none] } ∧ hE ≠ e ∧ Bare s₁.heap hE ∧
      E (.ref e) { s₁ with heap := s₁.heap.update e (Obj.mapFields (·.setIfInBounds 2 (.ref hE))) }) E s := by
    refine wpAny_Call_ofName (wpAny_mono h (fun f s₁ h₁ => ?_) fun _ _ x => x)
    obtain ⟨rfl, h₁⟩ := h₁
    refine callWith_excType hplain (wpAny_mono h₁ (fun a s₂ h₂ => ?_) fun _ _ x => x)
    obtain ⟨apos, akw⟩ := a
    obtain ⟨hkw, hlen, hb, h₂⟩ := h₂
    obtain rfl : akw = [] := hkw
    obtain ⟨hp, g, d, tk, os⟩ := s₂
    refine kf_call ke_facts (hrest := hlen) fun h' e hm => ?_
    obtain ⟨t, ht, _, _⟩ := hm.there
    obtain ⟨oe, ws, q1, q2, q3⟩ := hb
    have hne : hE ≠ e := fun q => by have := hm.new; rw [← q] at this; rw [this] at q1; cases q1
    refine ⟨e, t, rfl, ht, hne, ⟨oe, ws, hm.keeps _ _ q1, q2, q3⟩, h₂ _ e ⟨fun b o eb => ?_, hm.new, ?_⟩⟩
    · rw [Heap.get?_update_other _ _ (show e ≠ b from fun q => by rw [← q] at eb; have := hm.new; rw [this] at eb; cases eb)]
      exact hm.keeps _ _ eb
    · exact ⟨_, _, Heap.get?_update_self _ ht rfl, rfl, rfl, rfl⟩
  rw [arm_exec_Raise]
  first
    | exact wpAny_bind (wpAny_standAt (raise_in ke_raise hh (wpAny_bind (wpAny_mono inner (fun v s₁ h₁ => wpAny_bind (wpAny_standAt (wpAny_pure h₁))) fun _ _ x => x))))
    | (simp only [evalOpt, Option.map]; exact wpAny_bind (wpAny_standAt (raise_in ke_raise hh (wpAny_bind (wpAny_mono inner (fun v s₁ h₁ => wpAny_bind (wpAny_standAt (wpAny_pure h₁))) fun _ _ x => x)))))
    | (show wpAny (model prog w) A (do standAt pos; raiseStmt env (some (do let v ← eval (.Call (.Name x np) [e₀] [] cpos) env; standAt pos; pure v)) none) Q E s; exact wpAny_bind (wpAny_standAt (raise_in ke_raise hh (wpAny_bind (wpAny_mono inner (fun v s₁ h₁ => wpAny_bind (wpAny_standAt (wpAny_pure h₁))) fun _ _ x => x)))))
theorem Raise_KeyError {x : Str} {np cpos pos : Pos} {e₀ : Expr} {Q : Flow → Shared → Prop} (hh : A.handled = none) (hplain : (backTo cpos (starEach [e₀] env)).any (·.1) = false)
    (h : wpAny (model prog w) A (eval (.Name x np) env) (fun f s₁ => f = .type "KeyError" ∧ wpAny (model prog w) A (evalArgs (.type "KeyError") true (backTo cpos (starEach [e₀] env)) [])
      (fun a s₂ => a.kw = [] ∧ a.pos.length ≤ sizeLine ∧ ∀ h' e, Heap.NewExcOf s₂.heap h' e "KeyError" → E (.ref e) { s₂ with heap := h' }) E s₁) E s) :
    wpAny (model prog w) A (exec (.Raise (some (.Call (.Name x np) [e₀] [] cpos)) none pos) env) Q E s := by
  refine wpAny_Raise_made ke_raise hh (wpAny_Call_ofName (wpAny_mono h (fun f s₁ h₁ => ?_) fun _ _ x => x))
  obtain ⟨rfl, h₁⟩ := h₁
  refine callWith_excType hplain (wpAny_mono h₁ (fun a s₂ h₂ => ?_) fun _ _ x => x)
  obtain ⟨apos, akw⟩ := a
  obtain ⟨hkw, hlen, h₂⟩ := h₂
  obtain rfl : akw = [] := hkw
  obtain ⟨hp, g, d, tk, os⟩ := s₂
  refine kf_call ke_facts (hrest := hlen) fun h' e hm => ?_
  obtain ⟨t, ht, _, _⟩ := hm.there
  exact ⟨e, t, rfl, ht, h₂ h' e ⟨hm.keeps, hm.new, ⟨_, _, ht, rfl, rfl, rfl⟩⟩⟩
noncomputable def RaiseNow (hE : Addr) (E : Value → Shared → Prop) (s₂ : Shared) : Prop := Bare s₂.heap hE ∧ ∀ h' e, Heap.NewExcOf s₂.heap h' e "KeyError" → E (.ref e) { s₂ with heap := h' }
noncomputable def RaiseP (E : Value → Shared → Prop) (s₂ : Shared) : Prop := ∀ h' e, Heap.NewExcOf s₂.heap h' e "KeyError" → E (.ref e) { s₂ with heap := h' }
theorem raise_KeyError_in {hE : Addr} {x : Str} {np cpos pos : Pos} {e₀ : Expr} {Q : Flow → Shared → Prop} (hh : A.handled = some (.ref hE)) (hs : starEach [e₀] env = [(false, eval e₀ env)])
    (h : wpAny (model prog w) A (eval (.Name x np) env) (fun f s₁ => f = .type "KeyError" ∧ wpAny (model prog w) A (eval e₀ env)
      (fun _ s₂ => RaiseNow hE E s₂) E s₁) E s) :
    wpAny (model prog w) A (exec (.Raise (some (.Call (.Name x np) [e₀] [] cpos)) none pos) env) Q E s :=
  Raise_KeyError_in hh (by rw [hs]; rfl) (wpAny_mono h (fun f s₁ h₁ => ⟨h₁.1, evalArgs_one hs (wpAny_mono h₁.2 (fun v s₂ h₂ => ⟨rfl, (by decide : 1 ≤ sizeLine), h₂.1, h₂.2⟩) fun _ _ x => x)⟩) fun _ _ x => x)
theorem raise_KeyError {x : Str} {np cpos pos : Pos} {e₀ : Expr} {Q : Flow → Shared → Prop} (hh : A.handled = none) (hs : starEach [e₀] env = [(false, eval e₀ env)])
    (h : wpAny (model prog w) A (eval (.Name x np) env) (fun f s₁ => f = .type "KeyError" ∧ wpAny (model prog w) A (eval e₀ env)
      (fun _ s₂ => RaiseP E s₂) E s₁) E s) :
    wpAny (model prog w) A (exec (.Raise (some (.Call (.Name x np) [e₀] [] cpos)) none pos) env) Q E s :=
  Raise_KeyError hh (by rw [hs]; rfl) (wpAny_mono h (fun f s₁ h₁ => ⟨h₁.1, evalArgs_one hs (wpAny_mono h₁.2 (fun v s₂ h₂ => ⟨rfl, (by decide : 1 ≤ sizeLine), h₂⟩) fun _ _ x => x)⟩) fun _ _ x => x)
end
end Mine
end
section
open PySem PySem.W PyProof.Rows PySem.Calls PySem.Spec PyProof.V
namespace Mine
theorem ae_isExc : isSubtype (.type "AttributeError") (.type "BaseException") = pure true := by rw [isSubtype_type]; kernel_rfl
theorem ae_notTuple : isSubtype (.type ((Manifest.find? "AttributeError").elim "type" fun y => y.metatype)) (.type "tuple") = pure false := by
  (have e : (Manifest.find? "AttributeError").elim "type" (fun y => y.metatype) = "type" := by (with_unfolding_all decide +kernel)); rw [e, isSubtype_type]; kernel_rfl
theorem ae_self : isSubtype (.type "AttributeError") (.type "AttributeError") = pure true := by rw [isSubtype_type]; kernel_rfl
theorem newAttr_bare {h h' : Heap} {e : Addr} {o : Value} {name : Str} (H : Heap.NewAttrErr h h' e o name) : Bare h' e := by
  obtain ⟨t, u, he⟩ := H.there
  exact ⟨_, _, he, rfl, rfl⟩
section
local macro_rules | `(tactic| walk_at "exec Try") => `(tactic| (k_here; (first | refine wpAny_Try_except ?_ | refine wpAny_Try_finally ?_ | refine wpAny_Try_except_finally ?_); (try k_fold)))
local macro_rules | `(tactic| walk_at "exec Raise some none") => `(tactic| (refine hold ?_))
theorem data_none_c {w : World} (st : Tst) (S2 : Nat) (mv : Value) (x : Nat) :
    ClaimM w 80 400 498 [.ref st.T, .ref x] [(st.T, instObj 542 st.TD), (st.TD, dictOf (st.ents w S2 active mv []) 12)] [] (fun _ => True) (fun _ _ _ => False) True := by
  unfold ClaimM
  k_fill
  intro dp un gd cn cs a ccd cl outer A₀ base h₀ L m mg mb mean s Q E B F XB N TB hk hd hu hpre hret herr
  have XH := XB.keeps B.stays
  refine wpAny_call ?_
  k_dflt (refine' enterM_cells (binds := [(Str.ofString "self", .ref st.T), (Str.ofString "ob", .ref x)]) B F XB N TB rfl rfl hk (by k_is) (by k_is) ?hr (BindsTo.of_eq rfl) ?kB ?kD ?_ rfl rfl rfl)
  case hr => exact Nat.lt_of_le_of_lt (Nat.le_add_right _ _) hd
  case kB => exact rfl
  case kD => decide +kernel
  intro g' L' h' tk' cells' hG hup l1 hL' FG' F' N' Y' B' X' T'
  k_lt l1
  k_cells Y'
  simp only [List.cons_append, List.nil_append] at N'
  dsimp only
  k_steps
  k_dflt (refine' miss_c ?F ?X ?I ?hg ?hh ?ha ?hc ?hl ?hcd ?h1 ?h2 ?hd ?_; (case F => k_asm); (case X => k_asm); (case I => k_inst); (case hg => k_is); (case hh => k_is); (case ha => k_is); (case hc => decide); (case hl => first | k_get | exact rfl); (case hcd => k_is); (case h1 => first | decide +kernel | exact rfl); (case h2 => first | decide +kernel | exact rfl); (case hd => exact rfl); k_whole)
  intro h₃ tk₃ e₃ H₃
  refine catch_hereC B' F' N' XB TB H₃.of (newAttr_bare H₃) (by k_is) PyProof.Rows.Boot.AttributeError (by decide +kernel) ae_isExc ae_notTuple ae_self ?a4 (by passes_own)
  case a4 =>
    intro h₄ g₄ T₄ F₄ N₄ B₄ M₄ hB₄
    have X₄ := XB.keeps B₄.stays
    have P₄ := TB.keeps B₄.stays
    clear F' N' B' X' T'
    k_steps
    refine Hold.out (raise_KeyError_in rfl (by rfl) ?_)
    k_steps
    refine ⟨hB₄, ?_⟩
    intro h₅ e₅ H₅
    dsimp only at H₅ ⊢
    obtain ⟨k1, k2⟩ := old_kept N hG T₄ F₄ ((fa2 (N₄.get (by k_mem)) (N₄.get (by k_mem))))
    exact fly_out (sh := s.heap) B₄ F₄ rfl rfl H₅ k1 k2 hL' fun h₆ hf => herr _ _ _ trivial hf
end
end Mine
end
section
open PySem PySem.W PyProof.Rows PySem.Calls PySem.Spec PyProof.V
namespace Mine
theorem ie_isExc : isSubtype (.type "IndexError") (.type "BaseException") = pure true := by rw [isSubtype_type]; kernel_rfl
theorem ie_notTuple : isSubtype (.type ((Manifest.find? "IndexError").elim "type" fun y => y.metatype)) (.type "tuple") = pure false := by
  (have e : (Manifest.find? "IndexError").elim "type" (fun y => y.metatype) = "type" := by (with_unfolding_all decide +kernel)); rw [e, isSubtype_type]; kernel_rfl
theorem ie_self : isSubtype (.type "IndexError") (.type "IndexError") = pure true := by rw [isSubtype_type]; kernel_rfl
theorem newExc_bare {h h' : Heap} {e : Addr} {X : String} (H : Heap.NewExc h h' e X) : Bare h' e := by
  obtain ⟨o, t, he, _, hd⟩ := H.there
  exact ⟨_, _, he, hd, rfl⟩
section
local macro_rules | `(tactic| walk_at "exec Try") => `(tactic| (k_here; (first | refine wpAny_Try_except ?_ | refine wpAny_Try_finally ?_ | refine wpAny_Try_except_finally ?_); (try k_fold)))
local macro_rules | `(tactic| walk_at "eval ListComp") => `(tactic| (refine hold ?_))
local macro_rules | `(tactic| walk_at "subscriptTail") => `(tactic| (refine hold ?_))
local macro_rules | `(tactic| walk_at "exec Raise some none") => `(tactic| (refine hold ?_))
theorem data_miss_c {w : World} (st : Tst) (S2 : Nat) (mv : Value) (t : Tok) (DA nr : Nat) (rows : List Row) (x : Nat) (ths : List Nat) (hlen : rows.length ≤ 8) (hx : x ∈ ths) (hrx : ∀ r ∈ rows, r.x ∈ ths) (hlo : st.T ∉ ths ∧ st.TD ∉ ths ∧ DA ∉ ths) (hr₀ : rows.filter (fun r => r.x == x) = []) :
    ClaimM w 80 400 498 [.ref st.T, .ref x] [(st.T, instObj 542 st.TD), (st.TD, dictOf (st.ents w S2 active mv [ent w "_data" t (.ref DA)]) 13), (DA, listOf (rowVals rows).toArray nr)] [] (fun h => RowsAt rows h ∧ StandN ths h)
      (fun _ _ _ => False) True := by
  unfold ClaimM
  k_fill
  intro dp un gd cn cs a ccd cl outer A₀ base h₀ L m mg mb mean s Q E B F XB N TB hk hd hu hpre hret herr
  have XH := XB.keeps B.stays
  refine wpAny_call ?_
  k_dflt (refine' enterM_cells (binds := [(Str.ofString "self", .ref st.T), (Str.ofString "ob", .ref x)]) B F XB N TB rfl rfl hk (by k_is) (by k_is) ?hr (BindsTo.of_eq rfl) ?kB ?kD ?_ rfl rfl rfl)
  case hr => exact Nat.lt_of_le_of_lt (Nat.le_add_right _ _) hd
  case kB => exact rfl
  case kD => decide +kernel
  intro g' L' h' tk' cells' hG hup l1 hL' FG' F' N' Y' B' X' T'
  k_lt l1
  k_cells Y'
  simp only [List.cons_append, List.nil_append] at N'
  dsimp only
  obtain ⟨o1, o2, o3⟩ := hlo
  have hR : RowsAt rows g' := hpre.1.base N hG ((fa3 (fun q => Value.noConfusion q) (fun q => absurd (Value.type.inj q) (show ¬ ("dict" = "tuple") by decide)) (fun q => absurd (Value.type.inj q) (show ¬ ("list" = "tuple") by decide))))
  have hX : StandN ths g' := hpre.2.base hG ((fa3 o1 o2 o3))
  k_steps
  rename News g' L' _ _ => N₁
  rename Fr g' L' _ _ => F₁
  refine Hold.out (ListComp_pt (fun r => r.x == x) (fun r => .ref r.y) rfl (by with_unfolding_all rfl) (by decide) (by rfl) (by decide) (by rfl) (by rfl) (by decide) ?_)
  k_steps
  refine ⟨DA, rows, rfl, News.isList (n := nr) (d := none) (sl := #[]) N₁ (by k_mem), fits8 hlen, hR.keeps F₁.keep, ?_, ?_, ?_⟩
  · intro r hr C s₃ m₃ E' hn hm1 hm2 hk'
    refine wpAny_isTrue_Compare1 (ldVarK hn hm1 ?_)
    refine ldCellK (c := L' + 1) rfl ⟨_, hk' _ _ (N₁.get (by k_mem)), by assumption⟩ ?_
    have X₃ := (hX.keeps F₁.keep).keeps hk'
    refine is_stand (X₃.one (hrx r hr)) (X₃.one hx) ?_
    exact wpAny_truthy_bool ⟨ref_beq _ _, _, _, rfl, fun _ _ e => e⟩
  · intro r hr C s₃ m₃ E' _ hn hm1 hm2 hk'
    exact ldVarK hn hm2 ⟨rfl, _, _, rfl, fun _ _ e => e⟩
  · intro D h₂ tk₂ cnt hD hk₂ hD₂
    have N₂ := News.add F₁ N₁ hk₂ hD hD₂
    have F₂ := F₁.keeps hk₂
    clear F₁ N₁
    rw [hr₀] at N₂
    try rw [List.map_nil] at N₂
    k_steps
    refine Hold.out (item_outK rfl (News.isList (n := cnt) (d := none) (sl := #[]) N₂ (.head _)) ?_ (by decide) (by decide) ?_)
    · exact .inr (by decide)
    intro h₃ tk₃ e₃ H₃
    refine catch_hereC B' F₂ N₂ XB TB H₃.of (newExc_bare H₃) (by k_is) PyProof.Rows.Boot.IndexError (by decide +kernel) ie_isExc ie_notTuple ie_self ?a4 (by passes_own)
    case a4 =>
      intro h₄ g₄ T₄ F₄ N₄ B₄ M₄ hB₄
      have X₄ := XB.keeps B₄.stays
      have P₄ := TB.keeps B₄.stays
      clear F₂ N₂ B' X' T'
      k_steps
      refine Hold.out (raise_KeyError_in rfl (by rfl) ?_)
      k_steps
      refine ⟨hB₄, ?_⟩
      intro h₅ e₅ H₅
      dsimp only at H₅ ⊢
      obtain ⟨k1, k2⟩ := old_kept N hG T₄ F₄ ((fa3 (N₄.get (by k_mem)) (N₄.get (by k_mem)) (N₄.get (by k_mem))))
      exact fly_out (sh := s.heap) B₄ F₄ rfl rfl H₅ k1 k2 hL' fun h₆ hf => herr _ _ _ trivial hf
end
end Mine
end
section
open PySem PySem.W PyProof.Rows PySem.Calls PySem.Spec PyProof.V
namespace Mine
section
local macro_rules | `(tactic| walk_at "call ref") => `(tactic| (refine hold ?_))
local macro_rules | `(tactic| walk_at "eval ListComp") => `(tactic| (refine hold ?_))
local macro_rules | `(tactic| walk_at "pyIter ref") => `(tactic| (refine hold ?_))
local macro_rules | `(tactic| walk_at "exec Raise some none") => `(tactic| (refine hold ?_))
noncomputable def ValsN (vs : List Value) (ths : List Nat) : Prop := ∀ v ∈ vs, ∃ a ∈ ths, v = Value.ref a
theorem StandS_of {vs : List Value} {ths : List Nat} {h : Heap} (V : ValsN vs ths) (R : StandN ths h) : Stand vs h := fun v hv => by
  obtain ⟨a, ha, rfl⟩ := V v hv
  obtain ⟨o, e, c⟩ := R a ha
  exact ⟨a, o, rfl, e, c⟩
theorem ValsN.cons {vs : List Value} {ths : List Nat} (V : ValsN vs ths) {x : Nat} (hx : x ∈ ths) : ValsN (.ref x :: vs) ths := fun v hv => by
  rcases List.mem_cons.mp hv with rfl | hv
  · exact ⟨x, hx, rfl⟩
  · exact V v hv
local macro_rules | `(tactic| walk_at "pad") => `(tactic| skip)
theorem remove_hit_c {w : World} (S SD DL x : Nat) (hh : Int) (t1 : Tok) (n2 : Nat) (vs : List Value) (hl : vs.length ≤ 8) (ths : List Nat) (hx : x ∈ ths) (hV : ValsN vs ths) (hlo : S ∉ ths ∧ SD ∉ ths ∧ DL ∉ ths) (hv : vs.any (· == .ref x) = true) :
    Claim w 40 200 59 [.ref S, .ref x] (setLed S SD DL hh t1 vs n2) [SD] (StandN ths) (fun h v h' => v = .none ∧ ∃ (DL' : Nat) (n' : Nat), h.get? DL' = none ∧ h'.get? SD = some (dictOf [⟨hh, .str (Str.ofString "data") t1, .ref DL'⟩] 1) ∧ h'.get? DL' = some (listOf (vs.filter fun v => !(v == .ref x)).toArray n')) := by
  unfold Claim setLed
  k_fill
  intro dp un gd cn cs a ccd cl outer A₀ base h₀ L m mg mb mean s Q E B F X N T hk hd hu hpre hret
  refine wpAny_call ?_
  k_dflt (refine' enter_cells (binds := [(Str.ofString "self", .ref S), (Str.ofString "obj", .ref x)]) B F X N T rfl rfl hk (by k_is) (by k_is) ?hr (BindsTo.of_eq rfl) ?kB ?kD ?_ rfl rfl rfl)
  case hr => exact Nat.lt_of_le_of_lt (Nat.le_add_right _ _) hd
  case kB => exact rfl
  case kD => decide +kernel
  intro g' L' h' tk' cells' hG hup l1 FG' F' N' Y' B' X' T'
  refine wpAny_hide ?_
  intro QF EF hQF hEF
  k_lt l1
  k_cells Y'
  simp only [List.cons_append, List.nil_append] at N'
  try dsimp only
  obtain ⟨o1, o2, o3⟩ := hlo
  have hX : StandN ths g' := StandN.base hpre hG ((fa3 o1 o2 o3))
  k_steps
  rename News g' L' _ _ => N₁
  rename Fr g' L' _ _ => F₁
  refine Hold.out (Claim.use (contains_c S SD DL x hh t1 n2 vs hl) B' F₁ X' N₁ T' rfl ?_ ?_ ?_ (StandS_of (ValsN.cons hV hx) (hX.keeps F₁.keep)) ?_)
  · exact (fa3 (by k_mem) (by k_mem) (by k_mem))
  · dsimp only [Around.deeper, ktrTop]; first | exact room2 hd (by decide) | exact room2 hu (by decide) | omega
  · dsimp only [Around.deeper, ktrTop]; first | exact room2 hd (by decide) | exact room2 hu (by decide) | omega
  rintro v h₂ tk₂ hk₂ rfl
  have hk3 : ∀ b o, _ → h₂.get? b = some o := fun b o e => hk₂ b o e List.not_mem_nil
  have N₂ := News.keep N₁ hk3
  have F₂ := F₁.keptAll hk3
  clear hk₂ hk3 N₁ F₁
  rw [hv]
  try dsimp only
  k_steps
  refine Hold.out (wpAny_ListComp_free (fun v => !(v == .ref x)) (fun v y => y = (fun u : Value => u) v) (by with_unfolding_all rfl) (by decide) (by rfl) (by decide) (by rfl) ?_)
  k_steps
  rename News g' L' _ _ => N₁
  rename Fr g' L' _ _ => F₁
  refine Hold.out (lc_S (vs := vs) rfl ?hl (fits8 hl) ?_ ?_ ?_)
  case hl => exact News.isList (n := n2) (d := none) (sl := #[]) N₁ (by k_mem)
  · intro C v s₃ m₃ E' hv hn hm hk'
    refine wpAny_tests_one (wpAny_isTrue_Compare1 (ldVarK hn hm ?_))
    refine ldCellK (c := L' + 1) rfl ⟨_, hk' _ _ (N₁.get (by k_mem)), by assumption⟩ ?_
    have X₃ := (hX.keeps F₁.keep).keeps hk'
    obtain ⟨b, hb, rfl⟩ := hV v hv
    refine isNot_stand (X₃.one hb) (X₃.one hx) ?_
    exact wpAny_truthy_bool ⟨rfl, _, _, rfl, fun _ _ e => e⟩
  · intro C v s₃ m₃ E' hv _ hn hm hk'
    exact ldVarK hn hm ⟨rfl, _, _, rfl, fun _ _ e => e⟩
  · intro D h₃ tk₃ hD hk₃ hpl
    obtain ⟨c₃, hD₃⟩ := hpl
    rw [List.map_id'] at hD₃
    have N₃ := News.add F₁ N₁ hk₃ hD hD₃
    have F₃ := F₁.keeps hk₃
    have off := News.off N₁ hD
    have f0 : @Ne Nat DL D := off (DL, listOf vs.toArray n2) (by k_mem)
    have f0' : @Ne Nat S D := off (S, instObj 83 SD) (by k_mem)
    clear F₁ N₁
    have f1 : @Ne Nat D SD := News.ne N₃ (by k_mem) (by k_mem) (fun q => absurd (Value.type.inj q) (show ¬ ("list" = "dict") by decide))
    have f2 : @Ne Nat DL SD := News.ne N₃ (by k_mem) (by k_mem) (fun q => absurd (Value.type.inj q) (show ¬ ("list" = "dict") by decide))
    have f3 : @Ne Nat S SD := News.ne N₃ (by k_mem) (by k_mem) (fun q => Value.noConfusion q)
    k_steps
    rename News g' L' _ _ => N₅
    rename Fr g' L' _ _ => F₅
    refine hQF _ _ ?_
    refine leaveK_ (by assumption) (by assumption) fun _ _ => ?_
    refine hret _ _ _ (kept_end N hG F₅.keep ?_) ⟨rfl, D, c₃, not_in_heap hG (N₅.fresh (.head _)) (notin_led ?_), N₅.get (by k_mem), N₅.get (by k_mem)⟩
    · exact (fa3 (fun _ => N₅.get (by k_mem)) (fun q => absurd (.head _) q) (fun _ => N₅.get (by k_mem)))
    · exact (fa3 (fun q => f0' q) (fun q => f1 q.symm) (fun q => f0 q))
theorem remove_miss_c {w : World} (S SD DL x : Nat) (hh : Int) (t1 : Tok) (n2 : Nat) (vs : List Value) (hl : vs.length ≤ 8) (ths : List Nat) (hx : x ∈ ths) (hV : ValsN vs ths) (hlo : S ∉ ths ∧ SD ∉ ths ∧ DL ∉ ths) (hv : vs.any (· == .ref x) = false) :
    ClaimM w 40 200 59 [.ref S, .ref x] (setLed S SD DL hh t1 vs n2) [] (StandN ths) (fun _ _ _ => False) True := by
  unfold ClaimM setLed
  k_fill
  intro dp un gd cn cs a ccd cl outer A₀ base h₀ L m mg mb mean s Q E B F XB N TB hk hd hu hpre hret herr
  have XH := XB.keeps B.stays
  refine wpAny_call ?_
  k_dflt (refine' enterM_cells (binds := [(Str.ofString "self", .ref S), (Str.ofString "obj", .ref x)]) B F XB N TB rfl rfl hk (by k_is) (by k_is) ?hr (BindsTo.of_eq rfl) ?kB ?kD ?_ rfl rfl rfl)
  case hr => exact Nat.lt_of_le_of_lt (Nat.le_add_right _ _) hd
  case kB => exact rfl
  case kD => decide +kernel
  intro g' L' h' tk' cells' hG hup l1 hL' FG' F' N' Y' B' X' T'
  k_lt l1
  k_cells Y'
  simp only [List.cons_append, List.nil_append] at N'
  dsimp only
  obtain ⟨o1, o2, o3⟩ := hlo
  have hX : StandN ths g' := StandN.base hpre hG ((fa3 o1 o2 o3))
  k_steps
  rename News g' L' _ _ => N₁
  rename Fr g' L' _ _ => F₁
  refine Hold.out (Claim.use (contains_c S SD DL x hh t1 n2 vs hl) B' F₁ X' N₁ T' rfl ?_ ?_ ?_ (StandS_of (ValsN.cons hV hx) (hX.keeps F₁.keep)) ?_)
  · exact (fa3 (by k_mem) (by k_mem) (by k_mem))
  · dsimp only [Around.deeper, ktrTop]; first | exact room2 hd (by decide) | exact room2 hu (by decide) | omega
  · dsimp only [Around.deeper, ktrTop]; first | exact room2 hd (by decide) | exact room2 hu (by decide) | omega
  rintro v h₂ tk₂ hk₂ rfl
  have hk3 : ∀ b o, _ → h₂.get? b = some o := fun b o e => hk₂ b o e List.not_mem_nil
  have N₂ := News.keep N₁ hk3
  have F₂ := F₁.keptAll hk3
  clear hk₂ hk3 N₁ F₁
  rw [hv]
  dsimp only
  k_steps
  refine Hold.out (raise_KeyError rfl (by rfl) ?_)
  k_steps
  intro h₅ e₅ H₅
  dsimp only at H₅ ⊢
  obtain ⟨k1, k2⟩ := old_kept (fs := fsOf (envX cn cs L a ccd cl :: outer)) N hG .refl F₂ ((fa3 (N₂.get (by k_mem)) (N₂.get (by k_mem)) (N₂.get (by k_mem))))
  exact fly_out (sh := s.heap) B' F₂ rfl rfl H₅ k1 k2 hL' fun h₆ hf => herr _ _ _ trivial hf
end
end Mine
end
section
open PySem PySem.W PyProof.Rows PySem.Calls PySem.Spec PyProof.V
namespace Mine
local macro_rules | `(tactic| k_lt $h:ident) => `(tactic| (replace $h := allLt_of $h; dsimp only [AllLt] at $h:ident))
noncomputable def otherInt (k : Int) (v : Value) : Bool := match v with | .int i _ => i != k | _ => true
theorem IntsAre.other {is : List Value} {ns : List Int} (k : Int) : IntsAre is ns → IntsAre (is.filter (otherInt k)) (ns.filter fun n => n != k)
  | .nil => .nil
  | .cons n t h => by
    have ih := IntsAre.other k h
    rw [List.filter_cons, List.filter_cons]
    show IntsAre (if (n != k) = true then _ else _) (if (n != k) = true then _ else _)
    cases (n != k)
    · exact ih
    · exact .cons n t ih
theorem ints_mem {is : List Value} {ns : List Int} (h : IntsAre is ns) {v : Value} (hv : v ∈ is) : ∃ n t, v = .int n t := by
  induction h with
  | nil => cases hv
  | cons n t h ih => rcases List.mem_cons.mp hv with rfl | hv; exact ⟨n, t, rfl⟩; exact ih hv
noncomputable abbrev things (ths : List Nat) : List Value := ths.map .ref
section
local macro_rules | `(tactic| walk_at "subscriptTail") => `(tactic| (k_here; (try dsimp only); (with_reducible show wpAny _ _ (subscriptTail _ _ (Value.ref _) (Value.int _ _)) _ _ _); k_dflt (refine item_L (by k_asm) (by k_mem) (by assumption) (by assumption) (by assumption) ?_)))
local macro_rules | `(tactic| walk_at "exec Try") => `(tactic| (k_here; (first | refine wpAny_Try_except ?_ | refine wpAny_Try_finally ?_ | refine wpAny_Try_except_finally ?_); (try k_fold)))
local macro_rules | `(tactic| walk_at "call ref") => `(tactic| (refine hold ?_))
local macro_rules | `(tactic| walk_at "eval ListComp") => `(tactic| (refine hold ?_))
local macro_rules | `(tactic| walk_at "pyIter ref") => `(tactic| (refine hold ?_))
local macro_rules | `(tactic| walk_at "pad") => `(tactic| skip)
theorem out_hit_c {w : World} (W TH S SD DL IN O DD x : Nat) (oW : Obj) (c : Int) (tc : Tok) (hh : Int) (t1 : Tok) (n2 n3 n4 : Nat) (ths : List Nat) (vs is : List Value) (ns : List Int) (k : Int) (tk : Tok) (hl : vs.length ≤ 8) (hln : ns.length ≤ 8)
    (hW : oW.IsDictOf (strKind PySem.Challenge.rw_ac0032_01.row.prog w) (worldKvs TH S IN O DD c tc)) (hi : IntsAre is ns) (hk0 : 0 ≤ k) (hk8 : k < 8) (hx : (things ths)[k.toNat]? = some (.ref x)) (hxm : x ∈ ths) (hV : ValsN vs ths)
    (hlo : TH < W ∧ W < SD ∧ SD < S) (hoff : W ∉ ths ∧ TH ∉ ths ∧ IN ∉ ths ∧ S ∉ ths ∧ SD ∉ ths ∧ DL ∉ ths) (hv : vs.any (· == .ref x) = true) (hn : ns.any (· == k) = true) :
    Claim w 80 400 842 [.ref W, .int k tk] ((W, oW) :: (TH, listOf (things ths).toArray n3) :: (IN, listOf is.toArray n4) :: setLed S SD DL hh t1 vs n2) [W, SD] (StandN ths) (fun h v h' => v = .bool true ∧
      ∃ (DL' n' : Nat) (oW' : Obj) (IN' : Nat) (is' : List Value) (n5 : Nat), @Ne Nat DL' IN' ∧ h.get? DL' = none ∧ h'.get? SD = some (dictOf [⟨hh, .str (Str.ofString "data") t1, .ref DL'⟩] 1) ∧ h'.get? DL' = some (listOf (vs.filter fun v => !(v == .ref x)).toArray n') ∧
      h'.get? W = some oW' ∧ oW'.IsDictOf (strKind PySem.Challenge.rw_ac0032_01.row.prog w) (worldKvs TH S IN' O DD c tc) ∧ h.get? IN' = none ∧ h'.get? IN' = some (listOf is'.toArray n5) ∧ IntsAre is' (ns.filter fun n => n != k)) := by
  unfold Claim setLed
  k_fill
  intro dp un gd cn cs a ccd cl outer A₀ base h₀ L m mg mb mean s Q E B F X N T hk hd hu hpre hret
  refine wpAny_call ?_
  k_dflt (refine' enter_cells (binds := [(Str.ofString "world", .ref W), (Str.ofString "k", .int k tk)]) B F X N T rfl rfl hk (by k_is) (by k_is) ?hr (BindsTo.of_eq rfl) ?kB ?kD ?_ rfl rfl rfl)
  case hr => exact Nat.lt_of_le_of_lt (Nat.le_add_right _ _) hd
  case kB => exact rfl
  case kD => decide +kernel
  intro g' L' h' tk' cells' hG hup l1 FG' F' N' Y' B' X' T'
  refine wpAny_hide ?_
  intro QF EF hQF hEF
  k_lt l1
  k_cells Y'
  simp only [List.cons_append, List.nil_append] at N'
  try dsimp only
  obtain ⟨o2, o3, o5⟩ := hlo
  obtain ⟨p1, p2, p3, p4, p5, p6⟩ := hoff
  have hX : StandN ths g' := StandN.base hpre hG ((fa6 p1 p2 p3 p4 p5 p6))
  k_steps
  rename News g' L' _ _ => N₁
  rename Fr g' L' _ _ => F₁
  rename Obj => oc
  have f5 : @Ne Nat DL SD := News.ne N₁ (by k_mem) (by k_mem) (fun q => absurd (Value.type.inj q) (show ¬ ("list" = "dict") by decide))
  have f4 : @Ne Nat IN SD := News.ne N₁ (by k_mem) (by k_mem) (fun q => absurd (Value.type.inj q) (show ¬ ("list" = "dict") by decide))
  refine Hold.out (Claim.use (remove_hit_c S SD DL x hh t1 n2 vs hl ths hxm hV ⟨p4, p5, p6⟩ hv) B' F₁ X' N₁ T' rfl ?_ ?_ ?_ (hX.keeps F₁.keep) ?_)
  · exact (fa3 (by k_mem) (by k_mem) (by k_mem))
  · dsimp only [Around.deeper, ktrTop]; first | exact room2 hd (by decide) | exact room2 hu (by decide) | omega
  · dsimp only [Around.deeper, ktrTop]; first | exact room2 hd (by decide) | exact room2 hu (by decide) | omega
  rintro v h₂ tk₂ hk₂ ⟨rfl, DL', n', hD0, hS2, hD2⟩
  have F₂ := Fr.turns F₁ N₁ ((fa1 ⟨_, by k_mem⟩)) hk₂
  have N₂ := News.grow (extra := [(DL', listOf (vs.filter fun v => !(v == .ref x)).toArray n')]) F₁ ((fa1 hD2)) ((fa1 hD0))
    (News.turns ((L' + 1, oc) :: (W, oW) :: (TH, listOf (things ths).toArray n3) :: (IN, listOf is.toArray n4) :: (S, instObj 83 SD) :: (SD, dictOf [⟨hh, .str (Str.ofString "data") t1, .ref DL'⟩] 1) :: [(DL, listOf vs.toArray n2)]) N₁ hk₂ ((fa7 (.inl ⟨by k_mem, notin_cons (a := L' + 1) (by omega) notin_nil⟩) (.inl ⟨by k_mem, notin_cons (a := W) (by omega) notin_nil⟩) (.inl ⟨by k_mem, notin_cons (a := TH) (by omega) notin_nil⟩) (.inl ⟨by k_mem, notin_cons f4 notin_nil⟩) (.inl ⟨by k_mem, notin_cons (a := S) (by omega) notin_nil⟩) (.inr ⟨hS2, _, by k_mem⟩) (.inl ⟨by k_mem, notin_cons (a := DL) (by omega) notin_nil⟩))))
  simp only [List.cons_append, List.nil_append] at N₂
  have off := News.off N₁ hD0
  have g1 : @Ne Nat W DL' := off (W, oW) (by k_mem)
  have g2 : @Ne Nat SD DL' := off (SD, _) (in5)
  have g3 : @Ne Nat S DL' := off (S, instObj 83 SD) (by k_mem)
  have g4 : @Ne Nat DL DL' := off (DL, listOf vs.toArray n2) (by k_mem)
  have g5 : @Ne Nat TH DL' := off (TH, listOf (things ths).toArray n3) (by k_mem)
  have g6 : @Ne Nat IN DL' := off (IN, listOf is.toArray n4) (by k_mem)
  clear off
  have hD0s : s.heap.get? DL' = none := not_in_heap hG (by
    cases q : g'.get? DL' with
    | none => rfl
    | some o => have := F₁.keep _ _ q; rw [hD0] at this; cases this) (notin_led ((fa6 (fun q => g1 q) (fun q => g5 q) (fun q => g6 q) (fun q => g3 q) (fun q => g2 q) (fun q => g4 q))))
  clear N₁ F₁ hk₂
  try dsimp only
  k_steps
  refine Hold.out (wpAny_ListComp_free (otherInt k) (fun v y => y = (fun u : Value => u) v) (by with_unfolding_all rfl) (by decide) (by rfl) (by decide) (by rfl) ?_)
  k_steps
  rename News g' L' _ _ => N₁
  rename Fr g' L' _ _ => F₁
  refine Hold.out (lc_S (vs := is) rfl ?hl (fits8 (by rw [hi.length]; exact hln)) ?_ ?_ ?_)
  case hl => exact News.isList (n := n4) (d := none) (sl := #[]) N₁ (by k_mem)
  · intro C v s₃ m₃ E' hv hn hm hk'
    obtain ⟨i, t, rfl⟩ := ints_mem hi hv
    refine wpAny_tests_one (wpAny_isTrue_Compare1 (ldVarK hn hm ?_))
    refine ldCellK (c := L' + 1) rfl ⟨_, hk' _ _ (N₁.get (by k_mem)), by assumption⟩ ?_
    refine PyProof.Rows.ne_int ?_
    exact wpAny_truthy_bool ⟨rfl, _, _, rfl, fun _ _ e => e⟩
  · intro C v s₃ m₃ E' hv _ hn hm hk'
    exact ldVarK hn hm ⟨rfl, _, _, rfl, fun _ _ e => e⟩
  · intro D h₃ tk₃ hD hk₃ hpl
    obtain ⟨c₃, hD₃⟩ := hpl
    rw [List.map_id'] at hD₃
    have N₃ := News.add F₁ N₁ hk₃ hD hD₃
    have F₃ := F₁.keeps hk₃
    have off := News.off N₁ hD
    have j1 : @Ne Nat W D := off (W, oW) (by k_mem)
    have j3 : @Ne Nat S D := off (S, instObj 83 SD) (by k_mem)
    have j4 : @Ne Nat DL D := off (DL, listOf vs.toArray n2) (by k_mem)
    have j5 : @Ne Nat TH D := off (TH, listOf (things ths).toArray n3) (by k_mem)
    have j6 : @Ne Nat IN D := off (IN, listOf is.toArray n4) (by k_mem)
    have j7 : @Ne Nat DL' D := off (DL', listOf (vs.filter fun v => !(v == .ref x)).toArray n') (by k_mem)
    have j8 : @Ne Nat W IN := News.ne N₁ (by k_mem) (by k_mem) (by rw [isDictOf_cls hW]; intro q; exact absurd (Value.type.inj q) (by decide))
    have j9 : @Ne Nat W DL := News.ne N₁ (by k_mem) (by k_mem) (by rw [isDictOf_cls hW]; intro q; exact absurd (Value.type.inj q) (by decide))
    have j2 : @Ne Nat SD D := News.ne N₃ (by k_mem) (.head _) (fun q => absurd (Value.type.inj q) (show ¬ ("dict" = "list") by decide))
    clear off F₁ N₁
    k_steps
    rename News g' L' _ _ => N₅
    rename Fr g' L' _ _ => F₅
    rename Obj.IsDictOf _ _ _ => hd₅
    refine hQF _ _ ?_
    refine leaveK_ (by assumption) (by assumption) fun _ _ => ?_
    refine hret _ _ _ (kept_end N hG F₅.keep ?_) ⟨by rw [hn], DL', n', _, D, is.filter (otherInt k), c₃, j7, hD0s, N₅.get (by k_mem), N₅.get (by k_mem), N₅.get (in3), hd₅, not_in_heap hG (N₅.fresh (.head _)) (notin_led ?_), N₅.get (.head _), IntsAre.other k hi⟩
    · exact (fa6 (fun q => absurd (.head _) q) (fun _ => N₅.get (by k_mem)) (fun _ => N₅.get (by k_mem)) (fun _ => N₅.get (by k_mem)) (fun q => absurd (in1) q) (fun _ => N₅.get (by k_mem)))
    · exact (fa6 (fun q => j1 q) (fun q => j5 q) (fun q => j6 q) (fun q => j3 q) (fun q => j2 q) (fun q => j4 q))
end
end Mine
end
section
open PySem PySem.W PyProof.Rows PySem.Calls PySem.Spec PyProof.V
namespace Mine
theorem ke_self : isSubtype (.type "KeyError") (.type "KeyError") = pure true := by rw [isSubtype_type]; kernel_rfl
section
local macro_rules | `(tactic| walk_at "subscriptTail") => `(tactic| (k_here; (try dsimp only); (with_reducible show wpAny _ _ (subscriptTail _ _ (Value.ref _) (Value.int _ _)) _ _ _); k_dflt (refine item_L (by k_asm) (by k_mem) (by assumption) (by assumption) (by assumption) ?_)))
local macro_rules | `(tactic| walk_at "exec Try") => `(tactic| (k_here; (first | refine wpAny_Try_except ?_ | refine wpAny_Try_finally ?_ | refine wpAny_Try_except_finally ?_); (try k_fold)))
local macro_rules | `(tactic| walk_at "call ref") => `(tactic| (refine hold ?_))
theorem out_miss_c {w : World} (W TH S SD DL IN O DD x : Nat) (oW : Obj) (c : Int) (tc : Tok) (hh : Int) (t1 : Tok) (n2 n3 n4 : Nat) (ths : List Nat) (vs is : List Value) (ns : List Int) (k : Int) (tk : Tok) (hl : vs.length ≤ 8) (hln : ns.length ≤ 8)
    (hW : oW.IsDictOf (strKind PySem.Challenge.rw_ac0032_01.row.prog w) (worldKvs TH S IN O DD c tc)) (hi : IntsAre is ns) (hk0 : 0 ≤ k) (hk8 : k < 8) (hx : (things ths)[k.toNat]? = some (.ref x)) (hxm : x ∈ ths) (hV : ValsN vs ths)
    (hlo : TH < W ∧ W < SD ∧ SD < S) (hoff : W ∉ ths ∧ TH ∉ ths ∧ IN ∉ ths ∧ S ∉ ths ∧ SD ∉ ths ∧ DL ∉ ths) (hv : vs.any (· == .ref x) = false) (hn : ns.any (· == k) = false) :
    ClaimM w 80 400 842 [.ref W, .int k tk] ((W, oW) :: (TH, listOf (things ths).toArray n3) :: (IN, listOf is.toArray n4) :: setLed S SD DL hh t1 vs n2) [] (StandN ths) (fun h v h' => v = .bool true) False := by
  unfold ClaimM setLed
  k_fill
  intro dp un gd cn cs a ccd cl outer A₀ base h₀ L m mg mb mean s Q E B F XB N TB hk hd hu hpre hret _
  have XH := XB.keeps B.stays
  refine wpAny_call ?_
  k_dflt (refine' enterM_cells (binds := [(Str.ofString "world", .ref W), (Str.ofString "k", .int k tk)]) B F XB N TB rfl rfl hk (by k_is) (by k_is) ?hr (BindsTo.of_eq rfl) ?kB ?kD ?_ rfl rfl rfl)
  case hr => exact Nat.lt_of_le_of_lt (Nat.le_add_right _ _) hd
  case kB => exact rfl
  case kD => decide +kernel
  intro g' L' h' tk' cells' hG hup l1 hL' FG' F' N' Y' B' X' T'
  k_lt l1
  k_cells Y'
  simp only [List.cons_append, List.nil_append] at N'
  dsimp only
  obtain ⟨o2, o3, o5⟩ := hlo
  obtain ⟨p1, p2, p3, p4, p5, p6⟩ := hoff
  have hX : StandN ths g' := StandN.base hpre hG ((fa6 p1 p2 p3 p4 p5 p6))
  k_steps
  rename News g' L' _ _ => N₁
  rename Fr g' L' _ _ => F₁
  refine Hold.out (ClaimM.use (remove_miss_c S SD DL x hh t1 n2 vs hl ths hxm hV ⟨p4, p5, p6⟩ hv) B' F₁ XB N₁ TB rfl ?_ ?_ ?_ (hX.keeps F₁.keep) ?_ ?_)
  · exact (fa3 (by k_mem) (by k_mem) (by k_mem))
  · dsimp only [Around.deeper, ktrTop]; first | exact room2 hd (by decide) | exact room2 hu (by decide) | omega
  · dsimp only [Around.deeper, ktrTop]; first | exact room2 hd (by decide) | exact room2 hu (by decide) | omega
  · intro v h₂ tk₂ g₂ _ _ _ _ hf; exact hf.elim
  intro e h₂ tk₂ _ hfl
  refine catch_from B' F₁ N₁ XB TB hfl (by k_is) PyProof.Rows.Boot.KeyError (by decide +kernel) kr_isExc_KeyError kr_notTuple_KeyError ke_self ?a4 (by passes_own)
  case a4 =>
    intro h₄ g₄ T₄ F₄ N₄ B₄ M₄
    have X₄ := XB.keeps B₄.stays
    have P₄ := TB.keeps B₄.stays
    clear F₁ N₁ B' X' T'
    k_steps
    dsimp only
    rename News g₄ L' _ _ => N₅
    rename Fr g₄ L' _ _ => F₅
    obtain ⟨h₀', Q₁, Q₂, Q₃⟩ := finishM B FG' T₄ F₅
    refine hret _ _ _ h₀' Q₁ Q₂ Q₃ (keptM_end N hG T₄ F₅ ?_) (by rw [hn]; rfl)
    exact (fa6 (fun _ => N₅.get (by k_mem)) (fun _ => N₅.get (by k_mem)) (fun _ => N₅.get (by k_mem)) (fun _ => N₅.get (by k_mem)) (fun _ => N₅.get (by k_mem)) (fun _ => N₅.get (by k_mem)))
end
end Mine
end
section
open PySem PySem.W PyProof.Rows PySem.Calls PySem.Spec
namespace Mine
noncomputable def intIs (pI : Int → Bool) (v : Value) : Bool := match v with | .int i _ => pI i | _ => false
theorem ints_filter {is : List Value} {ns : List Int} (pI : Int → Bool) : IntsAre is ns → IntsAre (is.filter (intIs pI)) (ns.filter pI)
  | .nil => .nil
  | .cons n t h => by
    have ih := ints_filter pI h
    rw [List.filter_cons, List.filter_cons]
    show IntsAre (if pI n = true then _ else _) (if pI n = true then _ else _)
    cases pI n
    · exact ih
    · exact .cons n t ih
theorem ints_from : ∀ (vs : List Value) (a : Nat), (∀ j v, vs[j]? = some v → ∃ t, v = Value.int ((a + j : Nat) : Int) t) → IntsAre vs ((List.range' a vs.length).map fun (i : Nat) => (i : Int))
  | [], _, _ => .nil
  | v :: r, a, h => by
    obtain ⟨t, rfl⟩ := h 0 v rfl
    have ih := ints_from r (a + 1) fun j v e => by
      obtain ⟨t, rfl⟩ := h (j + 1) v (by simpa using e)
      exact ⟨t, by congr 1; omega⟩
    rw [List.length_cons, List.range'_succ, List.map_cons]
    exact .cons _ t ih
theorem walks_lt {prog : Program} {w : World} {A : Around} {I : Addr} {fp wr : List Addr} {n : Nat} {P : Nat → Value → Prop} {St : Nat → Heap → Prop} (W : Walks prog w A I fp wr n P St) : Walks prog w A I fp wr n (fun i v => i < n ∧ P i v) St where
  sub := W.sub
  frame := W.frame
  item := fun i s Q E hi st hQ => W.item i s Q E hi st fun v h' tk p st' k => hQ v h' tk ⟨hi, p⟩ st' k
  done := W.done
  self := W.self
theorem rc_A {prog : Program} {w : World} {A : Around} {E : Value → Shared → Prop} {s : Shared} {env : Env} {r : Addr} {n : Nat} {t u v : Tok} {m₀ : Str → Option Value} {x y : Str} {ifs : List PySem.Expr} {elt : PySem.Expr} {scope : Scope} {cl : List (Str × Addr)} {pI : Int → Bool} {Q : Flow → Shared → Prop}
    (hh : A.handled = none) (hr : IsRange s.heap r 0 n 1 t u v) (hn : n ≤ 1000) (hL : s.heap.Ns env.locals m₀)
    (ht : ∀ C (i : Nat) (tk : Tok) s₃ m₃ E', i < n → s₃.heap.Ns C m₃ → m₃ x = some (.int i tk) → (∀ b o, s.heap.get? b = some o → s₃.heap.get? b = some o) →
      wpAny (model prog w) A (forIn ifs true fun c r => if r = true then do let ok ← isTrue c (compEnvC scope cl C env) (eval c (compEnvC scope cl C env)); pure (ForInStep.yield ok) else pure (ForInStep.yield r))
        (fun ok s₄ => ok = pI i ∧ Keeps s₃ s₄) E' s₃)
    (he : ∀ C (i : Nat) (tk : Tok) s₃ m₃ E', i < n → s₃.heap.Ns C m₃ → m₃ x = some (.int i tk) → (∀ b o, s.heap.get? b = some o → s₃.heap.get? b = some o) →
      wpAny (model prog w) A (eval elt (compEnvC scope cl C env)) (fun z s₄ => z = .int i tk ∧ Keeps s₃ s₄) E' s₃)
    (hQ : ∀ s₂ D h' tk vs, s.heap.get? D = none → h'.PlainList D vs.toArray → IntsAre vs (((List.range n).map fun (i : Nat) => (i : Int)).filter pI) → h'.Ns env.locals (fun z => if z = y then some (.ref D) else m₀ z) →
      (∀ b o, b ≠ env.locals → s.heap.get? b = some o → h'.get? b = some o) → (∃ h₂, s₂ = { s with heap := h₂ }) → Q .next { s₂ with heap := h', toks := tk }) :
    wpAny (model prog w) A (pyIter (.ref r)) (fun it s₂ => ∃ I fp wr n P St m, it = .ref I ∧ Walks prog w A I fp wr n P St ∧ n ≤ sizeLine ∧ St 0 s₂.heap ∧ (∀ b ∈ fp, b < s₂.heap.objs.size) ∧
      env.locals ∉ wr ∧ s₂.heap.Ns env.locals m ∧ QuietOnC prog w A env scope cl x ifs elt wr P (intIs pI) (fun v y => y = (fun u : Value => u) v) s₂ ∧
      (∀ D h' tk ys (vs : List Value), s₂.heap.get? D = none → h'.IsList D ys → h'.PlainList D ys → vs.length = n → (∀ j v, vs[j]? = some v → P j v) → Paired (fun v y => y = (fun u : Value => u) v) (vs.filter (intIs pI)) ys.toList →
        h'.Ns env.locals (fun z => if z = y then some (.ref D) else m z) → (∀ b o, b ≠ env.locals → b ∉ wr → s₂.heap.get? b = some o → h'.get? b = some o) → Q .next { s₂ with heap := h', toks := tk })) E s := by
  refine wpAny_pyIter_range hr (small_one (by decide) (by decide) (by omega) (by omega)) ?_
  have hsz : Builtin.Range.rangeSize 0 (n : Int) 1 = ((n : Nat) : Int) := by
    unfold Builtin.Range.rangeSize
    rw [if_pos (by decide)]
    split
    · rw [Int.ediv_one]; omega
    · omega
  have up : ∀ b o, s.heap.get? b = some o → (s.heap.push { cls := .type "range_iterator", data := .fields #[rawInt 0, rawInt (Builtin.Range.rangeSize 0 (n : Int) 1), rawInt 1] }).get? b = some o := fun b o e => Heap.get?_push_of_some _ e
  have hLlt := hL.lt
  refine ⟨s.heap.objs.size, _, _, n, _, _, m₀, rfl, walks_lt (Walks.range hh _ 0 1 n), Nat.le_trans hn (by decide), ?_, ?_, ?_, hL.keeps up, ⟨?_, ?_⟩, ?_⟩
  · have e1 : ((0 : Int) + ((0 : Nat) : Int) * 1) = 0 := by simp
    have e2 : (((n : Nat) : Int) - ((0 : Nat) : Int)) = Builtin.Range.rangeSize 0 (n : Int) 1 := by rw [hsz]; simp
    show IsRangeIter _ _ ((0 : Int) + ((0 : Nat) : Int) * 1) (((n : Nat) : Int) - ((0 : Nat) : Int)) 1
    rw [e1, e2]
    exact Heap.get?_push_size _ rfl
  · intro b hb
    rw [List.mem_singleton.mp hb]
    show _ < (s.heap.push _).objs.size
    rw [Heap.size_push]; exact Nat.lt_succ_self _
  · exact fun q => Nat.ne_of_lt hLlt (List.mem_singleton.mp q)
  · intro C i v s₃ m₃ E' _ hP hn' hm hk _
    obtain ⟨hi, tk, rfl⟩ := hP
    have hx : ((0 : Int) + (i : Nat) * 1) = (i : Int) := by simp
    rw [hx] at hm ⊢
    exact ht C i tk s₃ m₃ E' hi hn' hm fun b o e => hk b o (by simp only [List.mem_singleton]; exact Nat.ne_of_lt (Heap.lt_size e)) (up b o e)
  · intro C i v s₃ m₃ E' _ hP hp hn' hm hk _
    obtain ⟨hi, tk, rfl⟩ := hP
    have hx : ((0 : Int) + (i : Nat) * 1) = (i : Int) := by simp
    rw [hx] at hm ⊢
    exact he C i tk s₃ m₃ E' hi hn' hm fun b o e => hk b o (by simp only [List.mem_singleton]; exact Nat.ne_of_lt (Heap.lt_size e)) (up b o e)
  · intro D h' tk ys vs hD _ hpl hlen hP hF hns hk
    have hy : ys.toList = vs.filter (intIs pI) := by rw [paired_map hF, List.map_id']
    have hi := ints_from vs 0 fun j v e => by
      obtain ⟨_, t, rfl⟩ := hP j v e
      exact ⟨t, by congr 1; omega⟩
    rw [hlen, ← List.range_eq_range'] at hi
    refine hQ _ D h' tk ys.toList ?_ (by simpa using hpl) (by rw [hy]; exact ints_filter pI hi) hns (fun b o hb e => hk b o hb (by simp only [List.mem_singleton]; exact Nat.ne_of_lt (Heap.lt_size e)) (up b o e)) ⟨_, rfl⟩
    cases q : s.heap.get? D with
    | none => rfl
    | some o => have := up _ _ q; rw [hD] at this; cases this

noncomputable def RcSrc (prog : Program) (w : World) (A : Around) (env : Env) (x y : Str) (ifs : List PySem.Expr) (elt : PySem.Expr) (scope : Scope) (cl : List (Str × Addr)) (pI : Int → Bool) (Q : Flow → Shared → Prop) (xv : Value) (s : Shared) : Prop :=
  ∃ (r : Addr) (n : Nat) (t u v : Tok) (m₀ : Str → Option Value), xv = .ref r ∧ A.handled = none ∧ IsRange s.heap r 0 n 1 t u v ∧ n ≤ 1000 ∧ s.heap.Ns env.locals m₀ ∧
    (∀ C (i : Nat) (tk : Tok) s₃ m₃ E', i < n → s₃.heap.Ns C m₃ → m₃ x = some (.int i tk) → (∀ b o, s.heap.get? b = some o → s₃.heap.get? b = some o) →
      wpAny (model prog w) A (forIn ifs true fun c r => if r = true then do let ok ← isTrue c (compEnvC scope cl C env) (eval c (compEnvC scope cl C env)); pure (ForInStep.yield ok) else pure (ForInStep.yield r))
        (fun ok s₄ => ok = pI i ∧ Keeps s₃ s₄) E' s₃) ∧
    (∀ C (i : Nat) (tk : Tok) s₃ m₃ E', i < n → s₃.heap.Ns C m₃ → m₃ x = some (.int i tk) → (∀ b o, s.heap.get? b = some o → s₃.heap.get? b = some o) →
      wpAny (model prog w) A (eval elt (compEnvC scope cl C env)) (fun z s₄ => z = .int i tk ∧ Keeps s₃ s₄) E' s₃) ∧
    (∀ s₂ D h' tk vs, s.heap.get? D = none → h'.PlainList D vs.toArray → IntsAre vs (((List.range n).map fun (i : Nat) => (i : Int)).filter pI) → h'.Ns env.locals (fun z => if z = y then some (.ref D) else m₀ z) →
      (∀ b o, b ≠ env.locals → s.heap.get? b = some o → h'.get? b = some o) → (∃ h₂, s₂ = { s with heap := h₂ }) → Q .next { s₂ with heap := h', toks := tk })
theorem Assign_range_comp {prog : Program} {w : World} {A : Around} {E : Value → Shared → Prop} {s : Shared} {env : Env} {elt iter : PySem.Expr} {x y : Str} {px py : Pos} {ifs : List PySem.Expr} {scope : Scope} {cl : List (Str × Addr)} {pos spos : Pos} {Q : Flow → Shared → Prop}
    (pI : Int → Bool)
    (hsw : swapsWith (.ListComp elt [⟨.Name x px, iter, ifs, 0⟩] scope pos) (some (.Name y py)) spos.line env = pure true)
    (hclos : closureFor scope env = pure cl) (hcell : ∀ z ∈ scope.names, z.2 ≠ .cell) (hkind : scope.kind = .function)
    (hnames : ∀ z ∈ scope.names, z.2 = .local → scope.names.lookup z.1 = some .local) (hx : scope.names.lookup x = some .local)
    (hy : env.kindOf y = some .local) (hp : (env.scope.kind == .class || (env.scope.kind == .module && env.locals != env.globals)) = false)
    (h : wpAny (model prog w) A (eval iter env) (RcSrc prog w A env x y ifs elt scope cl pI Q) E s)
    (hs : ∀ x, foldedSetIterable iter env x = pure x := by intro _; rfl) :
    wpAny (model prog w) A (exec (.Assign [.Name y py] (.ListComp elt [⟨.Name x px, iter, ifs, 0⟩] scope pos) spos) env) Q E s := by
  refine wpAny_Assign_ListComp_free (intIs pI) (fun v y => y = (fun u : Value => u) v) hsw hclos hcell hkind hnames hx hy hp (wpAny_mono h (fun xv s₁ h₁ => ?_) fun _ _ e => e) hs
  obtain ⟨r, n, t, u, v, m₀, rfl, hh, hr, hn, hL, ht, he, hQ⟩ := h₁
  exact rc_A hh hr hn hL ht he hQ
end Mine
end
section
open PySem PySem.W PyProof.Rows PySem.Calls PySem.Spec PyProof.V
namespace Mine
section
local macro_rules | `(tactic| walk_at "subscriptTail") => `(tactic| (k_here; (try dsimp only); (with_reducible show wpAny _ _ (subscriptTail _ _ (Value.ref _) (Value.int _ _)) _ _ _); k_dflt (refine item_L (by k_asm) (by k_mem) (by assumption) (by assumption) (by assumption) ?_)))
local macro_rules | `(tactic| walk_at "exec Assign cons ListComp") => `(tactic| (refine hold ?_))
theorem none_of_up {h h' : Heap} {b : Addr} (k : ∀ b o, h.get? b = some o → h'.get? b = some o) (hn : h'.get? b = none) : h.get? b = none := by
  cases hq : h.get? b with
  | none => rfl
  | some o => have := k b o hq; rw [hn] at this; cases this
theorem only_j {ths : List Nat} {j x : Nat} (hlen : ths.length = 8) (hnd : ths.Nodup) (hx : ths[j]? = some x) : ((List.range 8).map fun (i : Nat) => (i : Int)).filter (fun i : Int => ths[i.toNat]? == some x) = [(j : Int)] := by
  have hj : j < 8 := by rw [← hlen]; exact (List.getElem?_eq_some_iff.mp hx).1
  have e : ∀ i : Nat, (ths[((i : Int)).toNat]? == some x) = (i == j) := fun i => by
    rw [Int.toNat_natCast]
    by_cases q : i = j
    · subst q; rw [hx, beq_self_eq_true, beq_self_eq_true]
    · rw [beq_false_of_ne q]
      apply beq_false_of_ne
      intro z
      obtain ⟨h1, h2⟩ := List.getElem?_eq_some_iff.mp z
      obtain ⟨h3, h4⟩ := List.getElem?_eq_some_iff.mp hx
      have hp := List.pairwise_iff_getElem.mp hnd
      rcases Nat.lt_or_gt_of_ne q with l | l
      · exact hp i j h1 h3 l (h2.trans h4.symm)
      · exact hp j i h3 h1 l (h4.trans h2.symm)
  rw [List.filter_map]
  have e2 : ((fun i : Int => ths[i.toNat]? == some x) ∘ fun (i : Nat) => (i : Int)) = fun i => i == j := by
    funext i; exact e i
  rw [e2]
  have : (List.range 8).filter (fun i => i == j) = [j] := by
    have : j = 0 ∨ j = 1 ∨ j = 2 ∨ j = 3 ∨ j = 4 ∨ j = 5 ∨ j = 6 ∨ j = 7 := lt8 hj
    rcases this with rfl | rfl | rfl | rfl | rfl | rfl | rfl | rfl <;> decide
  rw [this]; rfl
theorem place_c {w : World} (W TH S IN O DD x : Nat) (oW : Obj) (c : Int) (tc : Tok) (n3 : Nat) (ths : List Nat) (j : Nat)
    (hW : oW.IsDictOf (strKind PySem.Challenge.rw_ac0032_01.row.prog w) (worldKvs TH S IN O DD c tc)) (hlen : ths.length = 8) (hnd : ths.Nodup) (hx : ths[j]? = some x) (hlo : TH < W) (hoff : W ∉ ths ∧ TH ∉ ths) :
    Claim w 40 200 830 [.ref W, .ref x] [(W, oW), (TH, listOf (things ths).toArray n3)] [] (StandN ths) (fun h v h' => ∃ t, v = .int j t) := by
  unfold Claim
  k_fill
  intro dp un gd cn cs a ccd cl outer A₀ base h₀ L m mg mb mean s Q E B F X N T hk hd hu hpre hret
  refine wpAny_call ?_
  k_dflt (refine' enter_cells (binds := [(Str.ofString "world", .ref W), (Str.ofString "one", .ref x)]) B F X N T rfl rfl hk (by k_is) (by k_is) ?hr (BindsTo.of_eq rfl) ?kB ?kD ?_ rfl rfl rfl)
  case hr => exact Nat.lt_of_le_of_lt (Nat.le_add_right _ _) hd
  case kB => exact rfl
  case kD => decide +kernel
  intro g' L' h' tk' cells' hG hup l1 FG' F' N' Y' B' X' T'
  refine wpAny_hide ?_
  intro QF EF hQF hEF
  k_lt l1
  k_cells Y'
  simp only [List.cons_append, List.nil_append] at N'
  try dsimp only
  obtain ⟨p1, p2⟩ := hoff
  have hX : StandN ths g' := StandN.base hpre hG ((fa2 p1 p2))
  k_steps
  refine Hold.out (Assign_range_comp (fun i => ths[i.toNat]? == some x) (by with_unfolding_all rfl) (by with_unfolding_all rfl) (by decide) (by rfl) (by decide) (by rfl) (by rfl) (by rfl) ?_)
  k_steps
  have hsz : (things ths).toArray.size = 8 := by rw [List.size_toArray, List.length_map, hlen]
  rename News g' L' _ _ => N₁
  rename Fr g' L' _ _ => F₁
  refine len_list (News.isList (n := n3) (d := none) (sl := #[]) (items := (things ths).toArray) N₁ (by k_mem)) (by rw [hsz]; decide) ?_
  rw [hsz]
  k_steps
  rename News g' L' _ _ => N₁
  rename Fr g' L' _ _ => F₁
  refine ⟨_, 8, _, _, _, _, rfl, rfl, by assumption, by decide, F₁.ns, ?_, ?_, ?_⟩
  · intro C i tk s₃ m₃ E' hi hn hm hk'
    have N₃ := News.keep N₁ hk'
    have F₃ := F₁.keeps hk'
    have X₃ := (hX.keeps F₁.keep).keeps hk'
    refine wpAny_tests_one (wpAny_isTrue_Compare1 (Subscript_ (Subscript_ (ldCellK (c := L' + 1) rfl ⟨_, N₃.get (by k_mem), by assumption⟩ ?_))))
    k_steps
    try dsimp only
    obtain ⟨b, hb⟩ : ∃ b, ths[i]? = some b := ⟨_, List.getElem?_eq_getElem (by rw [hlen]; exact hi)⟩
    have hbm : b ∈ ths := List.mem_of_getElem? hb
    refine item_L (x := .ref b) N₃ (by k_mem) (by omega) (by omega) (by rw [Int.toNat_natCast, List.getElem?_map, hb]; rfl) ?_
    refine ldCellK (c := L' + 1 + 1) rfl ⟨_, N₃.get (by k_mem), by assumption⟩ ?_
    refine is_stand (X₃.one hbm) (X₃.one (List.mem_of_getElem? hx)) ?_
    exact wpAny_truthy_bool ⟨by rw [ref_beq, Int.toNat_natCast, hb]; rfl, _, _, rfl, fun _ _ e => e⟩
  · intro C i tk s₃ m₃ E' hi hn hm hk'
    exact ldVarK hn hm ⟨rfl, _, _, rfl, fun _ _ e => e⟩
  · rintro _ D h₂ tk₂ vs hD hpl hints hns hk₂ ⟨h₃, rfl⟩
    rw [only_j hlen hnd hx] at hints
    obtain ⟨t, rfl⟩ : ∃ t, vs = [.int j t] := by
      cases hints with
      | cons n t h => cases h with | nil => exact ⟨t, rfl⟩
    obtain ⟨n₂, hD₂⟩ := hpl
    have F₂ : Fr g' L' h₂ _ := ⟨hns, fun b o e => hk₂ b o (fun q => by rw [show b = L' from q, kts_self F₁] at e; cases e) (F₁.keep b o e), F₁.above⟩
    have N₂ : News g' L' h₂ ((D, listOf #[.int j t] n₂) :: [_, _, _, _]) := fun p hp => by
      rcases List.mem_cons.mp hp with rfl | hp
      · refine ⟨hD₂, fun q => ?_, none_of_up F₁.keep hD⟩
        obtain ⟨oL, _, _, hL, _⟩ := F₁.ns
        rw [show D = L' from q, hL] at hD; cases hD
      · exact ⟨hk₂ _ _ (fun q => (N₁ p hp).2.1 q) (N₁ p hp).1, (N₁ p hp).2⟩
    clear F₁ N₁
    try dsimp only
    k_steps
    rename News g' L' _ _ => N₃
    rename Fr g' L' _ _ => F₃
    refine hQF _ _ ?_
    refine leaveK_ (by assumption) (by assumption) fun _ _ => ?_
    refine hret _ _ _ (kept_end N hG F₃.keep ?_) ⟨_, rfl⟩
    exact (fa2 (fun _ => N₃.get (by k_mem)) (fun _ => N₃.get (by k_mem)))
end
end Mine
end
section
open PySem PySem.W PyProof.Rows PySem.Calls PySem.Spec
namespace Mine
section
variable {prog : Program} {w : World} {A : Around} {E : Value → Shared → Prop} {s : Shared} {d : Addr} {o : Obj} {kvs : List (Int × Value)} {i : Int} {t : Tok}
theorem in_D {Q : Value → Shared → Prop} (lo : (d == sysModules) = false) (ho : s.heap.get? d = some o) (hd : o.IsDictOf (intKind prog w) kvs) (h : Q (.bool (valueAt kvs i).isSome) { s with toks := s.toks + 1 }) :
    wpAny (model prog w) A (compareOp .In (.int i t) (.ref d)) Q E s := wpAny_in_of (intKind_is prog w i t) lo (Heap.dictOf_iff.mpr ⟨o, ho, hd⟩).mapOf h
theorem notin_D {Q : Value → Shared → Prop} (lo : (d == sysModules) = false) (ho : s.heap.get? d = some o) (hd : o.IsDictOf (intKind prog w) kvs) (h : Q (.bool (!(valueAt kvs i).isSome)) { s with toks := s.toks + 1 }) :
    wpAny (model prog w) A (compareOp .NotIn (.int i t) (.ref d)) Q E s := wpAny_notIn_of (intKind_is prog w i t) lo (Heap.dictOf_iff.mpr ⟨o, ho, hd⟩).mapOf h
theorem getItem_D {v : Value} {Q : Value → Shared → Prop} (ho : s.heap.get? d = some o) (hd : o.IsDictOf (intKind prog w) kvs) (hv : valueAt kvs i = some v) (h : Q v { s with toks := s.toks + 1 }) :
    wpAny (model prog w) A (getItem (.ref d) (.int i t)) Q E s := wpAny_getItem_of (intKind_is prog w i t) (Heap.dictOf_iff.mpr ⟨o, ho, hd⟩).mapOf hv h
end
end Mine
end
section
open PySem PySem.W PyProof.Rows PySem.Calls PySem.Spec PyProof.V
namespace Mine
section
local macro_rules | `(tactic| walk_at "subscriptTail") => `(tactic| (k_here; (try dsimp only); (with_reducible show wpAny _ _ (subscriptTail _ _ (Value.ref _) (Value.int _ _)) _ _ _); k_dflt (refine item_L (by k_asm) (by k_mem) (by assumption) (by assumption) (by assumption) ?_)))
local macro_rules | `(tactic| walk_at "compareOp In int ref") => `(tactic| (refine hold ?_))
local macro_rules | `(tactic| walk_at "compareOp NotIn int ref") => `(tactic| (refine hold ?_))
local macro_rules | `(tactic| walk_at "exec Try") => `(tactic| (k_here; (first | refine wpAny_Try_except ?_ | refine wpAny_Try_finally ?_ | refine wpAny_Try_except_finally ?_); (try k_fold)))
local macro_rules | `(tactic| walk_at "call ref") => `(tactic| (refine hold ?_))
theorem not_mod {d : Nat} (h : 875 < d) : ((d : Addr) == sysModules) = false := by
  apply beq_false_of_ne
  intro q
  have h' : sysModules < 875 := by decide
  have q' : d = sysModules := q
  rw [q'] at h
  exact absurd h (Nat.not_lt.mpr (Nat.le_of_lt h'))
theorem borne_none_c {w : World} (W TH S IN O OD S2 DD x : Nat) (oW oD : Obj) (c : Int) (tc : Tok) (t1 t2 t3 : Tok) (n3 : Nat) (ths : List Nat) (kvs : List (Int × Value)) (k : Int) (tk : Tok) (st : Tst)
    (hW : oW.IsDictOf (strKind PySem.Challenge.rw_ac0032_01.row.prog w) (worldKvs TH S IN O DD c tc)) (hD : oD.IsDictOf (intKind PySem.Challenge.rw_ac0032_01.row.prog w) kvs) (hk0 : 0 ≤ k) (hk8 : k < 8) (hx : (things ths)[k.toNat]? = some (.ref x)) (hxm : x ∈ ths)
    (hDD : ((DD : Addr) == sysModules) = false) (hv : valueAt kvs k = none) :
    ClaimM w 160 800 856 [.ref W, .int k tk] ((W, oW) :: (TH, listOf (things ths).toArray n3) :: (DD, oD) :: ownerLed w O OD S2 (.ref st.T) t1 t2 t3 ++ [(st.T, instObj 542 st.TD), (st.TD, dictOf (st.ents w S2 active (.ref O) []) 12)]) [] (fun _ => True) (fun _ v _ => v = .bool true) False := by
  unfold ClaimM ownerLed
  k_fill
  intro dp un gd cn cs a ccd cl outer A₀ base h₀ L m mg mb mean s Q E B F XB N TB hk hd hu hpre hret _
  have XH := XB.keeps B.stays
  simp only [List.cons_append, List.nil_append] at N
  refine wpAny_call ?_
  k_dflt (refine' enterM_plain (binds := [(Str.ofString "world", .ref W), (Str.ofString "k", .int k tk)]) B F XB N TB rfl rfl hk (by k_is) (by k_is) ?hr (BindsTo.of_eq rfl) (locs rfl) ?_ rfl rfl rfl (by decide))
  case hr => exact Nat.lt_of_le_of_lt (Nat.le_add_right _ _) hd
  intro g' L' h' hG hup l1 hL' FG' F' N' B' X' T'
  refine wpAny_hideQ ?_
  intro QF hQF
  k_lt l1
  try dsimp only
  k_steps
  rename News g' L' _ _ => N₁
  rename Fr g' L' _ _ => F₁
  refine Hold.out (Claim.use (get_old_c O OD S2 t1 t2 t3 st.T) B' F₁ X' N₁ T' rfl ?_ ?_ ?_ trivial ?_)
  · exact (fa2 (by k_mem) (by k_mem))
  · dsimp only [Around.deeper, ktrTop]; first | exact room2 hd (by decide) | exact room2 hu (by decide) | omega
  · dsimp only [Around.deeper, ktrTop]; first | exact room2 hd (by decide) | exact room2 hu (by decide) | omega
  rintro v h₂ tk₂ hk₂ rfl
  have hk3 : ∀ b o, _ → h₂.get? b = some o := fun b o e => hk₂ b o e List.not_mem_nil
  have N₂ := News.keep N₁ hk3
  have F₂ := F₁.keptAll hk3
  clear N₁ F₁ hk₂ hk3
  try dsimp only
  k_steps
  rename News g' L' _ _ => N₁
  rename Fr g' L' _ _ => F₁
  refine Hold.out (ClaimM.use (data_none_c st S2 (.ref O) x) B' F₁ XB N₁ TB rfl ?_ ?_ ?_ trivial ?_ ?_)
  · exact (fa2 (by k_mem) (by k_mem))
  · dsimp only [Around.deeper, ktrTop]; first | exact room2 hd (by decide) | exact room2 hu (by decide) | omega
  · dsimp only [Around.deeper, ktrTop]; first | exact room2 hd (by decide) | exact room2 hu (by decide) | omega
  · intro v h₂ tk₂ g₂ _ _ _ _ hf; exact hf.elim
  intro e h₂ tk₂ _ hfl
  refine catch_from B' F₁ N₁ XB TB hfl (by k_is) PyProof.Rows.Boot.KeyError (by decide +kernel) kr_isExc_KeyError kr_notTuple_KeyError ke_self ?a4 (by passes_own)
  case a4 =>
    intro h₄ g₄ T₄ F₄ N₄ B₄ M₄
    have X₄ := XB.keeps B₄.stays
    have P₄ := TB.keeps B₄.stays
    clear F₁ N₁ B' X' T'
    k_steps
    rename News g₄ L' _ _ => N₁
    refine Hold.out (notin_D hDD (N₁.get (by k_mem)) hD ?_)
    rw [hv]
    k_steps
    try dsimp only
    rename News g₄ L' _ _ => N₅
    rename Fr g₄ L' _ _ => F₅
    obtain ⟨h₀', Q₁, Q₂, Q₃⟩ := finishM B FG' T₄ F₅
    refine hQF _ _ ?_
    refine hret _ _ _ h₀' Q₁ Q₂ Q₃ (keptM_end N hG T₄ F₅ ?_) rfl
    exact (fa7 (fun _ => N₅.get (by k_mem)) (fun _ => N₅.get (by k_mem)) (fun _ => N₅.get (by k_mem)) (fun _ => N₅.get (by k_mem)) (fun _ => N₅.get (by k_mem)) (fun _ => N₅.get (by k_mem)) (fun _ => N₅.get (by k_mem)))
theorem borne_miss_c {w : World} (W TH S IN O OD S2 DD x : Nat) (oW oD : Obj) (c : Int) (tc : Tok) (t1 t2 t3 : Tok) (n3 : Nat) (ths : List Nat) (kvs : List (Int × Value)) (k : Int) (tk : Tok) (st : Tst)
    (hW : oW.IsDictOf (strKind PySem.Challenge.rw_ac0032_01.row.prog w) (worldKvs TH S IN O DD c tc)) (hD : oD.IsDictOf (intKind PySem.Challenge.rw_ac0032_01.row.prog w) kvs) (hk0 : 0 ≤ k) (hk8 : k < 8) (hx : (things ths)[k.toNat]? = some (.ref x)) (hxm : x ∈ ths)
    (hDD : ((DD : Addr) == sysModules) = false) (t : Tok) (DA nr : Nat) (rows : List Row) (hlen : rows.length ≤ 8) (hrx : ∀ r ∈ rows, r.x ∈ ths) (hlo : W ∉ ths ∧ TH ∉ ths ∧ DD ∉ ths ∧ O ∉ ths ∧ OD ∉ ths ∧ st.T ∉ ths ∧ st.TD ∉ ths ∧ DA ∉ ths) (hr₀ : rows.filter (fun r => r.x == x) = []) (hv : valueAt kvs k = none) :
    ClaimM w 160 800 856 [.ref W, .int k tk] ((W, oW) :: (TH, listOf (things ths).toArray n3) :: (DD, oD) :: ownerLed w O OD S2 (.ref st.T) t1 t2 t3 ++ [(st.T, instObj 542 st.TD), (st.TD, dictOf (st.ents w S2 active (.ref O) [ent w "_data" t (.ref DA)]) 13), (DA, listOf (rowVals rows).toArray nr)]) [] (fun h => RowsAt rows h ∧ StandN ths h) (fun _ v _ => v = .bool true) False := by
  unfold ClaimM ownerLed
  k_fill
  intro dp un gd cn cs a ccd cl outer A₀ base h₀ L m mg mb mean s Q E B F XB N TB hk hd hu hpre hret _
  have XH := XB.keeps B.stays
  simp only [List.cons_append, List.nil_append] at N
  refine wpAny_call ?_
  k_dflt (refine' enterM_plain (binds := [(Str.ofString "world", .ref W), (Str.ofString "k", .int k tk)]) B F XB N TB rfl rfl hk (by k_is) (by k_is) ?hr (BindsTo.of_eq rfl) (locs rfl) ?_ rfl rfl rfl (by decide))
  case hr => exact Nat.lt_of_le_of_lt (Nat.le_add_right _ _) hd
  intro g' L' h' hG hup l1 hL' FG' F' N' B' X' T'
  refine wpAny_hideQ ?_
  intro QF hQF
  k_lt l1
  try dsimp only
  obtain ⟨o1, o2, o3, o4, o5, o6, o7, o8⟩ := hlo
  have hR : RowsAt rows g' := hpre.1.base N hG ((fa8 (by rw [isDictOf_cls hW]; exact fun q => absurd (Value.type.inj q) (show ¬ ("dict" = "tuple") by decide)) (fun q => absurd (Value.type.inj q) (show ¬ ("list" = "tuple") by decide)) (by rw [isDictOf_cls hD]; exact fun q => absurd (Value.type.inj q) (show ¬ ("dict" = "tuple") by decide)) (fun q => Value.noConfusion q) (fun q => absurd (Value.type.inj q) (show ¬ ("dict" = "tuple") by decide)) (fun q => Value.noConfusion q) (fun q => absurd (Value.type.inj q) (show ¬ ("dict" = "tuple") by decide)) (fun q => absurd (Value.type.inj q) (show ¬ ("list" = "tuple") by decide))))
  have hX : StandN ths g' := hpre.2.base hG ((fa8 o1 o2 o3 o4 o5 o6 o7 o8))
  k_steps
  rename News g' L' _ _ => N₁
  rename Fr g' L' _ _ => F₁
  refine Hold.out (Claim.use (get_old_c O OD S2 t1 t2 t3 st.T) B' F₁ X' N₁ T' rfl ?_ ?_ ?_ trivial ?_)
  · exact (fa2 (by k_mem) (by k_mem))
  · dsimp only [Around.deeper, ktrTop]; first | exact room2 hd (by decide) | exact room2 hu (by decide) | omega
  · dsimp only [Around.deeper, ktrTop]; first | exact room2 hd (by decide) | exact room2 hu (by decide) | omega
  rintro v h₂ tk₂ hk₂ rfl
  have hk3 : ∀ b o, _ → h₂.get? b = some o := fun b o e => hk₂ b o e List.not_mem_nil
  have N₂ := News.keep N₁ hk3
  have F₂ := F₁.keptAll hk3
  clear N₁ F₁ hk₂ hk3
  try dsimp only
  k_steps
  rename News g' L' _ _ => N₁
  rename Fr g' L' _ _ => F₁
  refine Hold.out (ClaimM.use (data_miss_c st S2 (.ref O) t DA nr rows x ths hlen hxm hrx ⟨o6, o7, o8⟩ hr₀) B' F₁ XB N₁ TB rfl ?_ ?_ ?_ ⟨hR.keeps F₁.keep, hX.keeps F₁.keep⟩ ?_ ?_)
  · exact (fa3 (by k_mem) (by k_mem) (by k_mem))
  · dsimp only [Around.deeper, ktrTop]; first | exact room2 hd (by decide) | exact room2 hu (by decide) | omega
  · dsimp only [Around.deeper, ktrTop]; first | exact room2 hd (by decide) | exact room2 hu (by decide) | omega
  · intro v h₂ tk₂ g₂ _ _ _ _ hf; exact hf.elim
  intro e h₂ tk₂ _ hfl
  refine catch_from B' F₁ N₁ XB TB hfl (by k_is) PyProof.Rows.Boot.KeyError (by decide +kernel) kr_isExc_KeyError kr_notTuple_KeyError ke_self ?a4 (by passes_own)
  case a4 =>
    intro h₄ g₄ T₄ F₄ N₄ B₄ M₄
    have X₄ := XB.keeps B₄.stays
    have P₄ := TB.keeps B₄.stays
    clear F₁ N₁ B' X' T'
    k_steps
    rename News g₄ L' _ _ => N₁
    refine Hold.out (notin_D hDD (N₁.get (by k_mem)) hD ?_)
    rw [hv]
    k_steps
    try dsimp only
    rename News g₄ L' _ _ => N₅
    rename Fr g₄ L' _ _ => F₅
    obtain ⟨h₀', Q₁, Q₂, Q₃⟩ := finishM B FG' T₄ F₅
    refine hQF _ _ ?_
    refine hret _ _ _ h₀' Q₁ Q₂ Q₃ (keptM_end N hG T₄ F₅ ?_) rfl
    exact (fa8 (fun _ => N₅.get (by k_mem)) (fun _ => N₅.get (by k_mem)) (fun _ => N₅.get (by k_mem)) (fun _ => N₅.get (by k_mem)) (fun _ => N₅.get (by k_mem)) (fun _ => N₅.get (by k_mem)) (fun _ => N₅.get (by k_mem)) (fun _ => N₅.get (by k_mem)))
theorem borne_hit_c {w : World} (W TH S IN O OD S2 DD x : Nat) (oW oD : Obj) (c : Int) (tc : Tok) (t1 t2 t3 : Tok) (n3 : Nat) (ths : List Nat) (kvs : List (Int × Value)) (k : Int) (tk : Tok) (st : Tst)
    (hW : oW.IsDictOf (strKind PySem.Challenge.rw_ac0032_01.row.prog w) (worldKvs TH S IN O DD c tc)) (hD : oD.IsDictOf (intKind PySem.Challenge.rw_ac0032_01.row.prog w) kvs) (hk0 : 0 ≤ k) (hk8 : k < 8) (hx : (things ths)[k.toNat]? = some (.ref x)) (hxm : x ∈ ths)
    (hDD : ((DD : Addr) == sysModules) = false) (t : Tok) (DA nr : Nat) (rows : List Row) (hlen : rows.length ≤ 8) (hrx : ∀ r ∈ rows, r.x ∈ ths) (hlo : W ∉ ths ∧ TH ∉ ths ∧ DD ∉ ths ∧ O ∉ ths ∧ OD ∉ ths ∧ st.T ∉ ths ∧ st.TD ∉ ths ∧ DA ∉ ths) (r₀ : Row) (rs : List Row) (hr₀ : rows.filter (fun r => r.x == x) = r₀ :: rs) (hv : valueAt kvs k = some (.ref r₀.y)) :
    Claim w 160 800 856 [.ref W, .int k tk] ((W, oW) :: (TH, listOf (things ths).toArray n3) :: (DD, oD) :: ownerLed w O OD S2 (.ref st.T) t1 t2 t3 ++ [(st.T, instObj 542 st.TD), (st.TD, dictOf (st.ents w S2 active (.ref O) [ent w "_data" t (.ref DA)]) 13), (DA, listOf (rowVals rows).toArray nr)]) [] (fun h => RowsAt rows h ∧ StandN ths h) (fun _ v _ => v = .bool true) := by
  unfold Claim ownerLed
  k_fill
  intro dp un gd cn cs a ccd cl outer A₀ base h₀ L m mg mb mean s Q E B F X N T hk hd hu hpre hret
  simp only [List.cons_append, List.nil_append] at N
  refine wpAny_call ?_
  k_dflt (refine' enter_plain (binds := [(Str.ofString "world", .ref W), (Str.ofString "k", .int k tk)]) B F X N T rfl rfl hk (by k_is) (by k_is) ?hr (BindsTo.of_eq rfl) (locs rfl) ?_ rfl rfl rfl (by decide))
  case hr => exact Nat.lt_of_le_of_lt (Nat.le_add_right _ _) hd
  intro g' L' h' hG hup l1 FG' F' N' B' X' T'
  refine wpAny_hideQ ?_
  intro QF hQF
  k_lt l1
  try dsimp only
  obtain ⟨o1, o2, o3, o4, o5, o6, o7, o8⟩ := hlo
  have hR : RowsAt rows g' := hpre.1.base N hG ((fa8 (by rw [isDictOf_cls hW]; exact fun q => absurd (Value.type.inj q) (show ¬ ("dict" = "tuple") by decide)) (fun q => absurd (Value.type.inj q) (show ¬ ("list" = "tuple") by decide)) (by rw [isDictOf_cls hD]; exact fun q => absurd (Value.type.inj q) (show ¬ ("dict" = "tuple") by decide)) (fun q => Value.noConfusion q) (fun q => absurd (Value.type.inj q) (show ¬ ("dict" = "tuple") by decide)) (fun q => Value.noConfusion q) (fun q => absurd (Value.type.inj q) (show ¬ ("dict" = "tuple") by decide)) (fun q => absurd (Value.type.inj q) (show ¬ ("list" = "tuple") by decide))))
  have hX : StandN ths g' := hpre.2.base hG ((fa8 o1 o2 o3 o4 o5 o6 o7 o8))
  k_steps
  rename News g' L' _ _ => N₁
  rename Fr g' L' _ _ => F₁
  refine Hold.out (Claim.use (get_old_c O OD S2 t1 t2 t3 st.T) B' F₁ X' N₁ T' rfl ?_ ?_ ?_ trivial ?_)
  · exact (fa2 (by k_mem) (by k_mem))
  · dsimp only [Around.deeper, ktrTop]; first | exact room2 hd (by decide) | exact room2 hu (by decide) | omega
  · dsimp only [Around.deeper, ktrTop]; first | exact room2 hd (by decide) | exact room2 hu (by decide) | omega
  rintro v h₂ tk₂ hk₂ rfl
  have hk3 : ∀ b o, _ → h₂.get? b = some o := fun b o e => hk₂ b o e List.not_mem_nil
  have N₂ := News.keep N₁ hk3
  have F₂ := F₁.keptAll hk3
  clear N₁ F₁ hk₂ hk3
  try dsimp only
  k_steps
  rename News g' L' _ _ => N₁
  rename Fr g' L' _ _ => F₁
  refine Hold.out (Claim.use (data_hit_c st S2 (.ref O) t DA nr rows x ths hlen hxm hrx ⟨o6, o7, o8⟩ r₀ rs hr₀) B' F₁ X' N₁ T' rfl ?_ ?_ ?_ ⟨hR.keeps F₁.keep, hX.keeps F₁.keep⟩ ?_)
  · exact (fa3 (by k_mem) (by k_mem) (by k_mem))
  · dsimp only [Around.deeper, ktrTop]; first | exact room2 hd (by decide) | exact room2 hu (by decide) | omega
  · dsimp only [Around.deeper, ktrTop]; first | exact room2 hd (by decide) | exact room2 hu (by decide) | omega
  rintro v h₂ tk₂ hk₂ rfl
  have hk3 : ∀ b o, _ → h₂.get? b = some o := fun b o e => hk₂ b o e List.not_mem_nil
  have N₂ := News.keep N₁ hk3
  have F₂ := F₁.keptAll hk3
  clear N₁ F₁ hk₂ hk3
  try dsimp only
  k_steps
  rename News g' L' _ _ => N₁
  refine Hold.out (in_D hDD (N₁.get (by k_mem)) hD ?_)
  rw [hv]
  simp only [Option.isSome_some]
  k_steps
  rename News g' L' _ _ => N₁
  refine getItem_D (N₁.get (by k_mem)) hD hv ?_
  refine wpAny_is_ref_self ?_
  k_steps
  rename News g' L' _ _ => N₃
  rename Fr g' L' _ _ => F₃
  refine hQF _ _ ?_
  refine leaveK_ (by assumption) (by assumption) fun _ _ => ?_
  refine hret _ _ _ (kept_end N hG F₃.keep ?_) rfl
  exact (fa8 (fun _ => N₃.get (by k_mem)) (fun _ => N₃.get (by k_mem)) (fun _ => N₃.get (by k_mem)) (fun _ => N₃.get (by k_mem)) (fun _ => N₃.get (by k_mem)) (fun _ => N₃.get (by k_mem)) (fun _ => N₃.get (by k_mem)) (fun _ => N₃.get (by k_mem)))
end
end Mine
end
section
open PySem PySem.W PyProof.Rows PySem.Calls PySem.Spec PyProof.V
namespace Mine
section
local macro_rules | `(tactic| walk_at "subscriptTail") => `(tactic| (k_here; (try dsimp only); (with_reducible show wpAny _ _ (subscriptTail _ _ (Value.ref _) (Value.int _ _)) _ _ _); k_dflt (refine item_L (by k_asm) (by k_mem) (by assumption) (by assumption) (by assumption) ?_)))
local macro_rules | `(tactic| walk_at "compareOp NotIn int ref") => `(tactic| (refine hold ?_))
local macro_rules | `(tactic| walk_at "exec Try") => `(tactic| (k_here; (first | refine wpAny_Try_except ?_ | refine wpAny_Try_finally ?_ | refine wpAny_Try_except_finally ?_); (try k_fold)))
local macro_rules | `(tactic| walk_at "call ref") => `(tactic| (refine hold ?_))
theorem borne_new_c {w : World} (W TH S IN O OD S2 DD x : Nat) (oW oD : Obj) (c : Int) (tc : Tok) (t1 t2 t3 : Tok) (n3 : Nat) (ths : List Nat) (kvs : List (Int × Value)) (k : Int) (tk : Tok) (SD2 DL2 : Nat) (h2 : Int) (t4 : Tok) (m2 : Nat) (hlo : 875 < OD ∧ OD < O ∧ O < SD2 ∧ SD2 < S2 ∧ S2 < DL2)
    (hW : oW.IsDictOf (strKind PySem.Challenge.rw_ac0032_01.row.prog w) (worldKvs TH S IN O DD c tc)) (hD : oD.IsDictOf (intKind PySem.Challenge.rw_ac0032_01.row.prog w) kvs) (hk0 : 0 ≤ k) (hk8 : k < 8) (hx : (things ths)[k.toNat]? = some (.ref x))
    (hDD : ((DD : Addr) == sysModules) = false) (hv : valueAt kvs k = none) (apart : @Ne Nat W OD ∧ @Ne Nat DD OD) :
    ClaimM w 160 800 856 [.ref W, .int k tk] ((W, oW) :: (TH, listOf (things ths).toArray n3) :: (DD, oD) :: ownerLed w O OD S2 .none t1 t2 t3 ++ setLed S2 SD2 DL2 h2 t4 [] m2) [OD] (fun _ => True) (fun h v h' => v = .bool true ∧ ∃ st : Tst, st.Chain ∧ DL2 < st.TD ∧ Holds h' (st.led w S2 active (.ref O) [] 12) ∧ (∀ p ∈ st.led w S2 active (.ref O) [] 12, h.get? p.1 = none) ∧
      h'.get? OD = some (dictOf [ent w "explicit" t1 (.bool false), ent w "_txn" t2 (.ref st.T), ent w "_synchs" t3 (.ref S2)] 3)) False := by
  unfold ClaimM ownerLed setLed
  k_fill
  intro dp un gd cn cs a ccd cl outer A₀ base h₀ L m mg mb mean s Q E B F XB N TB hk hd hu hpre hret _
  have XH := XB.keeps B.stays
  simp only [List.cons_append, List.nil_append] at N
  refine wpAny_call ?_
  k_dflt (refine' enterM_plain (binds := [(Str.ofString "world", .ref W), (Str.ofString "k", .int k tk)]) B F XB N TB rfl rfl hk (by k_is) (by k_is) ?hr (BindsTo.of_eq rfl) (locs rfl) ?_ rfl rfl rfl (by decide))
  case hr => exact Nat.lt_of_le_of_lt (Nat.le_add_right _ _) hd
  intro g' L' h' hG hup l1 hL' FG' F' N' B' X' T'
  refine wpAny_hideQ ?_
  intro QF hQF
  k_lt l1
  try dsimp only
  have hlo' := hlo
  obtain ⟨d1, d2, d3, d4, d5⟩ := hlo
  obtain ⟨a1, a2⟩ := apart
  k_steps
  rename News g' L' _ _ => N₁
  rename Fr g' L' _ _ => F₁
  have a3 : @Ne Nat TH OD := News.ne N₁ (by k_mem) (by k_mem) (fun q => absurd (Value.type.inj q) (show ¬ ("list" = "dict") by decide))
  refine Hold.out (Claim.use (get_new2_c O OD S2 SD2 DL2 t1 t2 t3 h2 t4 m2 hlo') B' F₁ X' N₁ T' rfl ?_ ?_ ?_ trivial ?_)
  · exact (fa5 (by k_mem) (by k_mem) (by k_mem) (by k_mem) (by k_mem))
  · dsimp only [Around.deeper, ktrTop]; first | exact room2 hd (by decide) | exact room2 hu (by decide) | omega
  · dsimp only [Around.deeper, ktrTop]; first | exact room2 hd (by decide) | exact room2 hu (by decide) | omega
  rintro v h₂ tk₂ hk₂ ⟨st, rfl, hc, hlt, hH, hf, hO⟩
  have F₂ := Fr.turns F₁ N₁ ((fa1 ⟨_, by k_mem⟩)) hk₂
  have hf' : ∀ p ∈ st.led w S2 active (.ref O) [] 12, s.heap.get? p.1 = none := fun p hp => none_of_up (fun b o e => by
    by_cases hm : b ∈ ([(W, oW), (TH, listOf (things ths).toArray n3), (DD, oD), (O, instObj 814 OD), (OD, dictOf [ent w "explicit" t1 (.bool false), ent w "_txn" t2 .none, ent w "_synchs" t3 (.ref S2)] 3), (S2, instObj 83 SD2), (SD2, dictOf [⟨h2, .str (Str.ofString "data") t4, .ref DL2⟩] 1), (DL2, listOf ([] : List Value).toArray m2)] : List (Addr × Obj)).map (·.1)
    · obtain ⟨p, hp, rfl⟩ := List.mem_map.mp hm
      have z := (N p hp).1
      rw [e] at z; cases z
      exact N₁.get hp
    · exact F₁.keep _ _ (hG b o e hm)) (hf p hp)
  have N₂ := News.grow F₁ hH hf (News.turns ((W, oW) :: (TH, listOf (things ths).toArray n3) :: (DD, oD) :: (OD, dictOf [ent w "explicit" t1 (.bool false), ent w "_txn" t2 (.ref st.T), ent w "_synchs" t3 (.ref S2)] 3) :: (O, instObj 814 OD) :: setLed S2 SD2 DL2 h2 t4 [] m2) N₁ hk₂ ((fa8 (.inl ⟨by k_mem, notin_cons a1 notin_nil⟩) (.inl ⟨by k_mem, notin_cons a3 notin_nil⟩) (.inl ⟨by k_mem, notin_cons a2 notin_nil⟩) (.inr ⟨hO, _, by k_mem⟩) (.inl ⟨by k_mem, (notin_cons (a := O) (by omega) notin_nil)⟩) (.inl ⟨by k_mem, (notin_cons (a := S2) (by omega) notin_nil)⟩) (.inl ⟨by k_mem, (notin_cons (a := SD2) (by omega) notin_nil)⟩) (.inl ⟨by k_mem, (notin_cons (a := DL2) (by omega) notin_nil)⟩))))
  unfold Tst.led setLed at N₂
  simp only [List.cons_append, List.nil_append] at N₂
  clear N₁ F₁ hk₂
  try dsimp only
  k_steps
  rename News g' L' _ _ => N₁
  rename Fr g' L' _ _ => F₁
  refine Hold.out (ClaimM.use (data_none_c st S2 (.ref O) x) B' F₁ XB N₁ TB rfl ?_ ?_ ?_ trivial ?_ ?_)
  · exact (fa2 (by k_mem) (by k_mem))
  · dsimp only [Around.deeper, ktrTop]; first | exact room2 hd (by decide) | exact room2 hu (by decide) | omega
  · dsimp only [Around.deeper, ktrTop]; first | exact room2 hd (by decide) | exact room2 hu (by decide) | omega
  · intro v h₂ tk₂ g₂ _ _ _ _ hf; exact hf.elim
  intro e h₂ tk₂ _ hfl
  refine catch_from B' F₁ N₁ XB TB hfl (by k_is) PyProof.Rows.Boot.KeyError (by decide +kernel) kr_isExc_KeyError kr_notTuple_KeyError ke_self ?a4 (by passes_own)
  case a4 =>
    intro h₄ g₄ T₄ F₄ N₄ B₄ M₄
    have X₄ := XB.keeps B₄.stays
    have P₄ := TB.keeps B₄.stays
    clear F₁ N₁ B' X' T'
    k_steps
    rename News g₄ L' _ _ => N₁
    refine Hold.out (notin_D hDD (N₁.get (by k_mem)) hD ?_)
    rw [hv]
    k_steps
    try dsimp only
    rename News g₄ L' _ _ => N₅
    rename Fr g₄ L' _ _ => F₅
    obtain ⟨h₀', Q₁, Q₂, Q₃⟩ := finishM B FG' T₄ F₅
    refine hQF _ _ ?_
    refine hret _ _ _ h₀' Q₁ Q₂ Q₃ (keptM_end N hG T₄ F₅ ?_) ⟨rfl, st, hc, hlt, ?_, hf', N₅.get (by k_mem)⟩
    · exact (fa8 (fun _ => N₅.get (by k_mem)) (fun _ => N₅.get (by k_mem)) (fun _ => N₅.get (by k_mem)) (fun _ => N₅.get (by k_mem)) (fun q => absurd (.head _) q) (fun _ => N₅.get (by k_mem)) (fun _ => N₅.get (by k_mem)) (fun _ => N₅.get (by k_mem)))
    · exact (fa8 (N₅.get (by k_mem)) (N₅.get (by k_mem)) (N₅.get (by k_mem)) (N₅.get (by k_mem)) (N₅.get (by k_mem)) (N₅.get (by k_mem)) (N₅.get (by k_mem)) (N₅.get (by k_mem)))
end
end Mine
end
section
open PySem PySem.W PyProof.Rows PySem.Calls PySem.Spec PyProof.V
namespace Mine
theorem Claim.wk {w : World} {D U D' U' : Nat} {f : Addr} {args : List Value} {led led' : List (Addr × Obj)} {mods mods' : List Addr} {Pre Pre' : Heap → Prop} {Post Post' : Heap → Value → Heap → Prop} (C : Claim w D U f args led mods Pre Post)
    (sub : ∀ p ∈ led, p ∈ led') (hmm : ∀ b ∈ mods, b ∈ mods') (pre : ∀ h, Holds h led' → Pre' h → Pre h)
    (post : ∀ h v h', Holds h led' → Pre' h → (∀ b o, h.get? b = some o → b ∉ mods → h'.get? b = some o) → Post h v h' → Post' h v h') (hD : D ≤ D' := by decide) (hU : U ≤ U' := by decide) : Claim w D' U' f args led' mods' Pre' Post' := by
  intro dp un gd cn cs a ccd cl outer A₀ base h₀ L m mg mb mean s Q E B F X N T hk hd hu hpre k
  have H : Holds s.heap led' := fun p hp => (N p hp).1
  exact C dp un gd cn cs a ccd cl outer A₀ base h₀ L m mg mb mean s Q E B F X (News.sub N sub) T hk (Nat.lt_of_le_of_lt (Nat.add_le_add_left hD _) hd) (Nat.lt_of_le_of_lt (Nat.add_le_add_left hU _) hu) (pre _ H hpre)
    fun v h' tk hkk hp => k v h' tk (fun b o e n => hkk b o e fun q => n (hmm b q)) (post _ _ _ H hpre hkk hp)
noncomputable def Goes (I : List (Addr × Obj) → Prop) (led : List (Addr × Obj)) (h h' : Heap) : Prop := ∃ led', I led' ∧ Holds h' led' ∧ ∀ p ∈ led', p.1 ∈ led.map (·.1) ∨ h.get? p.1 = none
theorem News.goes {h₀ h h' : Heap} {L : Addr} {m : Str → Option Value} {led led' : List (Addr × Obj)} (F : Fr h₀ L h m) (N : News h₀ L h led) (H : Holds h' led') (hf : ∀ p ∈ led', p.1 ∈ led.map (·.1) ∨ h.get? p.1 = none) : News h₀ L h' led' := fun p hp => by
  refine ⟨H p hp, ?_⟩
  rcases hf p hp with q | q
  · obtain ⟨r, hr, e⟩ := List.mem_map.mp q
    rw [← e]; exact (N r hr).2
  · refine ⟨fun e => ?_, none_of_up F.keep q⟩
    obtain ⟨oL, _, _, hL, _⟩ := F.ns
    rw [e, hL] at q; cases q
theorem News.append {h₀ h : Heap} {L : Addr} {l₁ l₂ : List (Addr × Obj)} (N₁ : News h₀ L h l₁) (N₂ : News h₀ L h l₂) : News h₀ L h (l₁ ++ l₂) := fun p hp => (List.mem_append.mp hp).elim (N₁ p) (N₂ p)
noncomputable def EndMid (I : Heap → List (Addr × Obj) → Prop) (led : List (Addr × Obj)) (mods : List Addr) (m : Str → Option Value) (g hf : Heap) (L : Addr) (s₀ : Shared) (f : Flow) (s' : Shared) : Prop :=
  f = .next ∧ ∃ h₂ tk₂, s' = { s₀ with heap := h₂, toks := tk₂ } ∧ Fr g L h₂ m ∧ (∀ b o, hf.get? b = some o → b ∉ mods → h₂.get? b = some o) ∧ Goes (I hf) led hf h₂
section
local macro_rules | `(tactic| walk_at "call ref") => `(tactic| (refine hold ?_))
local macro_rules | `(tactic| k_mem) => `(tactic| first | exact List.Mem.head _ | with_reducible assumption | (refine' List.Mem.tail _ ?_; k_mem) | assumption)
local macro_rules | `(tactic| walk_at "subscriptTail") => `(tactic| (k_here; (with_reducible show wpAny _ _ (subscriptTail _ _ (Value.ref _) (Value.str _ _)) _ _ _); k_dflt (refine kda_item (knd := PySem.strKind _ _) (by k_asm) (by k_mem) (by assumption) (strKind_is _ _ _ _) rfl ?_)))
local macro_rules | `(tactic| k_all) => `(tactic| first | exact List.forall_mem_nil _ | with_reducible assumption | (refine List.forall_mem_cons.mpr ⟨by k_ne, by k_all⟩))
theorem ended_g {w : World} (W TH S IN O OD S2 DD : Nat) (oW : Obj) (c : Int) (tc : Tok) (t1 t2 t3 : Tok) (txn : Value) (n : Int) (tk : Tok) (led : List (Addr × Obj)) (mods : List Addr) (P : Prop) (I : Heap → List (Addr × Obj) → Prop)
    (hW : oW.IsDictOf (strKind PySem.Challenge.rw_ac0032_01.row.prog w) (worldKvs TH S IN O DD c tc)) (mO : (O, instObj 814 OD) ∈ led) (mOD : (OD, dictOf [ent w "explicit" t1 (.bool false), ent w "_txn" t2 txn, ent w "_synchs" t3 (.ref S2)] 3) ∈ led)
    (hm : ∀ b ∈ mods, ∃ o, (b, o) ∈ led) (hlc : ∀ p ∈ led, p.2.cls ≠ .type "dict" ∨ @Ne Nat p.1 W) (hmd : ∀ b ∈ mods, ∃ p ∈ led, p.1 ∉ mods ∧ @LE.le Nat _ b p.1) (hI : ∀ h h₁ l, (∀ b, h₁.get? b = none → h.get? b = none) → I h₁ l → I h l)
    (C1 : Claim w 160 800 751 [.ref O] led mods (fun _ => P) (fun h v h' => v = .none ∧ Goes (I h) led h h'))
    (C2 : Claim w 160 800 758 [.ref O] led mods (fun _ => P) (fun h v h' => v = .none ∧ Goes (I h) led h h'))
    (C3 : Claim w 160 800 681 [.ref O] led mods (fun _ => P) (fun h v h' => Goes (I h) led h h')) :
    Claim w 240 1200 863 [.ref W, .int n tk] ((W, oW) :: led) (W :: mods) (fun _ => P) (fun h v h' => v = .none ∧ (∃ oW' DD' oD', h'.get? W = some oW' ∧ oW'.IsDictOf (strKind PySem.Challenge.rw_ac0032_01.row.prog w) (worldKvs TH S IN O DD' c tc) ∧ h.get? DD' = none ∧ ((DD' : Addr) == sysModules) = false ∧ h'.get? DD' = some oD' ∧ oD'.IsDictOf (intKind PySem.Challenge.rw_ac0032_01.row.prog w) []) ∧ ∃ l, I h l ∧ Holds h' l) := by
  unfold Claim
  k_fill
  intro dp un gd cn cs a ccd cl outer A₀ base h₀ L m mg mb mean s Q E B F X N T hk hd hu hpre hret
  refine wpAny_call ?_
  k_dflt (refine' enter_plain (binds := [(Str.ofString "world", .ref W), (Str.ofString "number", .int n tk)]) B F X N T rfl rfl hk (by k_is) (by k_is) ?hr (BindsTo.of_eq rfl) (locs rfl) ?_ rfl rfl rfl (by decide))
  case hr => exact Nat.lt_of_le_of_lt (Nat.le_add_right _ _) hd
  intro g' L' h' hG hup l1 FG' F' N' B' X' T'
  refine wpAny_hide ?_
  intro QF EF hQF hEF
  try dsimp only
  have hl : ∀ p ∈ led, @Ne Nat p.1 W := fun p hp => (hlc p hp).elim (fun z => News.ne (o := p.2) N' (.tail _ hp) (.head _) (by rw [isDictOf_cls hW]; exact z)) id
  clear hlc
  have hWm : W ∉ mods := fun q => by
    obtain ⟨o, ho⟩ := hm _ q
    exact hl _ ho rfl
  have hm' : ∀ b ∈ mods, ∃ o, (b, o) ∈ (W, oW) :: led := fun b hb => (hm b hb).imp fun o ho => .tail _ ho
  refine wpAny_execs_cons (wpAny_mono (Q := EndMid I led mods (fun y => [(Str.ofString "number", Value.int n tk), (Str.ofString "world", Value.ref W)].lookup y) g' h' L' { s with heap := h', toks := s.toks + 1 + 1 }) ?_ ?_ fun _ _ e => e)
  · k_steps
    · refine Hold.out (Claim.use C1 B' F' X' N' T' rfl (fun p hp => .tail _ hp) ?_ ?_ hpre ?_)
      · dsimp only [Around.deeper, ktrTop]; first | exact room2 hd (by decide) | exact room2 hu (by decide) | omega
      · dsimp only [Around.deeper, ktrTop]; first | exact room2 hd (by decide) | exact room2 hu (by decide) | omega
      rintro v h₂ tk₂ hk₂ ⟨rfl, G₂⟩
      have F₂ := Fr.turns F' N' hm' hk₂
      have N₂ : News g' L' h₂ [] := fun _ h => nomatch h
      try dsimp only
      k_steps
      exact ⟨rfl, _, _, rfl, F₂, hk₂, G₂⟩
    · refine Hold.out (Claim.use C2 B' F' X' N' T' rfl (fun p hp => .tail _ hp) ?_ ?_ hpre ?_)
      · dsimp only [Around.deeper, ktrTop]; first | exact room2 hd (by decide) | exact room2 hu (by decide) | omega
      · dsimp only [Around.deeper, ktrTop]; first | exact room2 hd (by decide) | exact room2 hu (by decide) | omega
      rintro v h₂ tk₂ hk₂ ⟨rfl, G₂⟩
      have F₂ := Fr.turns F' N' hm' hk₂
      have N₂ : News g' L' h₂ [] := fun _ h => nomatch h
      try dsimp only
      k_steps
      exact ⟨rfl, _, _, rfl, F₂, hk₂, G₂⟩
    · refine Hold.out (Claim.use C3 B' F' X' N' T' rfl (fun p hp => .tail _ hp) ?_ ?_ hpre ?_)
      · dsimp only [Around.deeper, ktrTop]; first | exact room2 hd (by decide) | exact room2 hu (by decide) | omega
      · dsimp only [Around.deeper, ktrTop]; first | exact room2 hd (by decide) | exact room2 hu (by decide) | omega
      rintro v h₂ tk₂ hk₂ G₂
      have F₂ := Fr.turns F' N' hm' hk₂
      have N₂ : News g' L' h₂ [] := fun _ h => nomatch h
      try dsimp only
      k_steps
      exact ⟨rfl, _, _, rfl, F₂, hk₂, G₂⟩
  rintro f s' ⟨rfl, h₂, tk₂, rfl, F₂, hk₂, led₂, hIl, hH, hf⟩
  obtain ⟨kp, Nk, hT, hB⟩ := News.cut (News.sub N' fun p hp => .tail _ hp : News g' L' h' led) (W :: mods)
  have Nk₂ := News.off' Nk (fun p hp q => hT p hp (.tail _ q)) hk₂
  have Ng₂ := News.goes F' (News.sub N' fun p hp => .tail _ hp : News g' L' h' led) hH hf
  have hlo : ∀ p ∈ led₂, @Ne Nat p.1 W := fun p hp q => by
    rcases hf p hp with z | z
    · obtain ⟨r, hr, e⟩ := List.mem_map.mp z
      exact hl r hr (e.trans q)
    · rw [show p.1 = W from q, (N' (W, oW) (.head _)).1] at z; cases z
  have hlk : ∀ p ∈ kp ++ led₂, @Ne Nat p.1 W := fun p hp => (List.mem_append.mp hp).elim (fun z q => hT p z (q ▸ .head _)) (hlo p)
  have N₂ := News.cons0 (p := (W, oW)) ⟨hk₂ _ _ (N' _ (.head _)).1 hWm, (N' _ (.head _)).2⟩ (News.append Nk₂ Ng₂)
  have hsk : ∀ p ∈ (W, oW) :: led, p.1 ∉ W :: mods → p ∈ kp ++ led₂ := fun p hp hn => (List.mem_cons.mp hp).elim (fun e => absurd (by rw [e]; exact .head _) hn) fun z => List.mem_append_left _ (hB p z hn)
  have hsg : ∀ p ∈ led₂, p ∈ kp ++ led₂ := fun p hp => List.mem_append_right _ hp
  generalize kp ++ led₂ = lo at *
  clear N' F' hk₂ Nk Nk₂ Ng₂ hT hB hH hf hlo C1 C2 C3 hm hm'
  try dsimp only
  k_steps
  rename News g' L' _ _ => N₃
  rename Fr g' L' _ _ => F₃
  rename Obj.IsDictOf (intKind _ _) _ _ => hi9
  rename Obj.IsDictOf (PySem.strKind _ _) _ _ => hd9
  with_reducible rename _ ∧ AllLt _ lo => l9
  have lt9 : ∀ p ∈ (W, oW) :: led, @LT.lt Nat _ p.1 _ := fun p hp => by
    by_cases hn : p.1 ∈ W :: mods
    · rcases List.mem_cons.mp hn with e | hn
      · rw [e]; exact l9.1
      · obtain ⟨q, hq, hqm, hle⟩ := hmd _ hn
        exact Nat.lt_of_le_of_lt hle (allLt_mem l9.2 q (hsk q (.tail _ hq) fun z => (List.mem_cons.mp z).elim (hl q hq) hqm))
    · exact allLt_mem l9.2 p (hsk p hp hn)
  refine hQF _ _ ?_
  refine leaveK_ (by assumption) (by assumption) fun _ _ => ?_
  exact hret _ _ _ (kept_end N hG F₃.keep fun p hp hn => (N₃ p (.tail _ (.tail _ (hsk p hp hn)))).1) ⟨rfl, ⟨_, _, _, (N₃ _ (in1)).1, hd9, not_in_heap hG (N₃ _ (.head _)).2.2 (notin_led fun p hp => Nat.ne_of_lt (lt9 p hp)), by assumption, (N₃ _ (.head _)).1, hi9⟩, led₂, hI _ _ _ (fun b hb => none_of_up hup hb) hIl, fun p hp => (N₃ p (.tail _ (.tail _ (hsg p hp)))).1⟩
end
noncomputable def EndI (w : World) (O OD S2 DL2 : Nat) (t1 t2 t3 : Tok) (h : Heap) (l : List (Addr × Obj)) : Prop :=
  (∃ ps, TriplesOk ps.toList ∧ (353, tabObj ps) ∈ l) ∧ (∃ ps, TriplesOk ps.toList ∧ (505, tabObj ps) ∈ l) ∧ ((OD, dictOf [ent w "explicit" t1 (.bool false), ent w "_txn" t2 .none, ent w "_synchs" t3 (.ref S2)] 3) ∈ l ∨
    ∃ zz : Tst, zz.Chain ∧ DL2 < zz.TD ∧ (∀ p ∈ zz.led w S2 active (.ref O) [] 12, p ∈ l ∧ h.get? p.1 = none) ∧ (OD, dictOf [ent w "explicit" t1 (.bool false), ent w "_txn" t2 (.ref zz.T), ent w "_synchs" t3 (.ref S2)] 3) ∈ l)
theorem EndI.back {w : World} {O OD S2 DL2 : Nat} {t1 t2 t3 : Tok} (h h₁ : Heap) (l : List (Addr × Obj)) (hb : ∀ b, h₁.get? b = none → h.get? b = none) (H : EndI w O OD S2 DL2 t1 t2 t3 h₁ l) : EndI w O OD S2 DL2 t1 t2 t3 h l := by
  obtain ⟨a, b, c⟩ := H
  exact ⟨a, b, c.imp id fun ⟨z, c1, c2, c3, c4⟩ => ⟨z, c1, c2, fun p hp => ⟨(c3 p hp).1, hb _ (c3 p hp).2⟩, c4⟩⟩
section
variable {w : World} {O OD S2 DL2 : Nat} {t1 t2 t3 : Tok} {h h' : Heap} {led : List (Addr × Obj)} {pc pa : Array Value}
theorem EndI.none (m1 : 353 ∈ led.map (·.1)) (m2 : 505 ∈ led.map (·.1)) (mO : OD ∈ led.map (·.1)) (k1 : TriplesOk pc.toList) (g1 : h'.get? 353 = some (tabObj pc)) (k2 : TriplesOk pa.toList) (g2 : h'.get? 505 = some (tabObj pa))
    (gO : h'.get? OD = some (dictOf [ent w "explicit" t1 (.bool false), ent w "_txn" t2 .none, ent w "_synchs" t3 (.ref S2)] 3)) : Goes (EndI w O OD S2 DL2 t1 t2 t3 h) led h h' :=
  ⟨[(353, tabObj pc), (505, tabObj pa), (OD, dictOf [ent w "explicit" t1 (.bool false), ent w "_txn" t2 .none, ent w "_synchs" t3 (.ref S2)] 3)], ⟨⟨pc, k1, .head _⟩, ⟨pa, k2, in1⟩, .inl (in2)⟩,
    (fa3 g1 g2 gO), (fa3 (.inl m1) (.inl m2) (.inl mO))⟩
theorem EndI.some (m1 : 353 ∈ led.map (·.1)) (m2 : 505 ∈ led.map (·.1)) (mO : OD ∈ led.map (·.1)) (k1 : TriplesOk pc.toList) (g1 : h'.get? 353 = some (tabObj pc)) (k2 : TriplesOk pa.toList) (g2 : h'.get? 505 = some (tabObj pa))
    (zz : Tst) (c1 : zz.Chain) (c2 : DL2 < zz.TD) (c3 : Holds h' (zz.led w S2 active (.ref O) [] 12)) (c4 : ∀ p ∈ zz.led w S2 active (.ref O) [] 12, h.get? p.1 = Option.none)
    (gO : h'.get? OD = Option.some (dictOf [ent w "explicit" t1 (.bool false), ent w "_txn" t2 (.ref zz.T), ent w "_synchs" t3 (.ref S2)] 3)) : Goes (EndI w O OD S2 DL2 t1 t2 t3 h) led h h' :=
  ⟨(353, tabObj pc) :: (505, tabObj pa) :: (OD, dictOf [ent w "explicit" t1 (.bool false), ent w "_txn" t2 (.ref zz.T), ent w "_synchs" t3 (.ref S2)] 3) :: zz.led w S2 active (.ref O) [] 12, ⟨⟨pc, k1, .head _⟩, ⟨pa, k2, in1⟩, .inr ⟨zz, c1, c2, fun p hp => ⟨.tail _ (.tail _ (.tail _ hp)), c4 p hp⟩, in2⟩⟩,
    List.forall_mem_cons.mpr ⟨g1, List.forall_mem_cons.mpr ⟨g2, List.forall_mem_cons.mpr ⟨gO, c3⟩⟩⟩, List.forall_mem_cons.mpr ⟨.inl m1, List.forall_mem_cons.mpr ⟨.inl m2, List.forall_mem_cons.mpr ⟨.inl mO, fun p hp => .inr (c4 p hp)⟩⟩⟩⟩
theorem ne_list (n : Nat) (xs : Array Value) : (listOf xs n).cls ≠ .type "dict" := fun q => absurd (Value.type.inj q) (show ¬ ("list" = "dict") by decide)
theorem ne_inst (a b : Addr) : (instObj a b).cls ≠ .type "dict" := fun q => Value.noConfusion q
end
theorem ended_new_c {w : World} (W TH S IN O OD S2 SD2 DL2 DD : Nat) (oW : Obj) (c : Int) (tc : Tok) (t1 t2 t3 : Tok) (h2 : Int) (t4 : Tok) (m2 : Nat) (pc pa : Array Value) (n : Int) (tk : Tok)
    (hW : oW.IsDictOf (strKind PySem.Challenge.rw_ac0032_01.row.prog w) (worldKvs TH S IN O DD c tc)) (hlo : 875 < OD ∧ OD < O ∧ O < SD2 ∧ SD2 < S2 ∧ S2 < DL2) (hWl : 875 < W ∧ @Ne Nat W OD ∧ @Ne Nat W SD2) (hn : 0 ≤ n ∧ n < 1000000) :
    Claim w 240 1200 863 [.ref W, .int n tk] ((W, oW) :: (353, tabObj pc) :: (505, tabObj pa) :: ownerLed w O OD S2 .none t1 t2 t3 ++ setLed S2 SD2 DL2 h2 t4 [] m2) [W, 353, 505, OD] (fun _ => TriplesOk pc.toList ∧ TriplesOk pa.toList) (fun h v h' => v = .none ∧ (∃ oW' DD' oD', h'.get? W = some oW' ∧ oW'.IsDictOf (strKind PySem.Challenge.rw_ac0032_01.row.prog w) (worldKvs TH S IN O DD' c tc) ∧ h.get? DD' = none ∧ ((DD' : Addr) == sysModules) = false ∧ h'.get? DD' = some oD' ∧ oD'.IsDictOf (intKind PySem.Challenge.rw_ac0032_01.row.prog w) []) ∧ (∃ ps, TriplesOk ps.toList ∧ h'.get? 353 = some (tabObj ps)) ∧ (∃ ps, TriplesOk ps.toList ∧ h'.get? 505 = some (tabObj ps)) ∧ (h'.get? OD = some (dictOf [ent w "explicit" t1 (.bool false), ent w "_txn" t2 .none, ent w "_synchs" t3 (.ref S2)] 3) ∨ ∃ st : Tst, st.Chain ∧ DL2 < st.TD ∧ Holds h' (st.led w S2 active (.ref O) [] 12) ∧ (∀ p ∈ st.led w S2 active (.ref O) [] 12, h.get? p.1 = none) ∧
      h'.get? OD = some (dictOf [ent w "explicit" t1 (.bool false), ent w "_txn" t2 (.ref st.T), ent w "_synchs" t3 (.ref S2)] 3))) := by
  have dO : (505 : Nat) ∉ ([353, OD] : List Nat) := notin_cons (by decide) (notin_cons (Nat.ne_of_lt (by omega)) notin_nil)
  have dP : (353 : Nat) ∉ ([505, OD] : List Nat) := notin_cons (by decide) (notin_cons (Nat.ne_of_lt (by omega)) notin_nil)
  have d1 : (353 : Nat) ∉ ([OD] : List Nat) := notin_cons (Nat.ne_of_lt (by omega)) notin_nil
  have d2 : (505 : Nat) ∉ ([OD] : List Nat) := notin_cons (Nat.ne_of_lt (by omega)) notin_nil
  have dd : O ∉ ([353, 505, OD] : List Nat) := notin_cons (Nat.ne_of_gt (by omega)) (notin_cons (Nat.ne_of_gt (by omega)) (notin_cons (Nat.ne_of_gt hlo.2.1) notin_nil))
  have b1 : @LE.le Nat _ 353 O := by omega
  have b2 : @LE.le Nat _ 505 O := by omega
  have b3 : @LE.le Nat _ OD O := by omega
  have e1 : @Ne Nat 353 W := by omega
  have e2 : @Ne Nat 505 W := by omega
  generalize hled : ((353, tabObj pc) :: (505, tabObj pa) :: ownerLed w O OD S2 .none t1 t2 t3 ++ setLed S2 SD2 DL2 h2 t4 [] m2) = led
  have s0 : ∀ p ∈ ownerLed w O OD S2 .none t1 t2 t3 ++ setLed S2 SD2 DL2 h2 t4 [] m2, p ∈ led := fun p hp => hled ▸ .tail _ (.tail _ hp)
  have mP : (353, tabObj pc) ∈ led := hled ▸ .head _
  have mA : (505, tabObj pa) ∈ led := hled ▸ in1
  have mO : (O, instObj 814 OD) ∈ led := s0 _ (.head _)
  have mD := s0 (OD, _) (in1)
  have q1 : 353 ∈ led.map (·.1) := List.mem_map_of_mem mP
  have q2 : 505 ∈ led.map (·.1) := List.mem_map_of_mem mA
  have q3 : OD ∈ led.map (·.1) := List.mem_map_of_mem mD
  refine (ended_g W TH S IN O OD S2 DD oW c tc t1 t2 t3 .none n tk led [353, 505, OD] (TriplesOk pc.toList ∧ TriplesOk pa.toList) (EndI w O OD S2 DL2 t1 t2 t3) hW mO mD ?_ ?_ ?_ EndI.back ?_ ?_ ?_).wk ?_ (fun _ h => h) (fun _ _ h => h) fun h v h' _ _ _ ⟨e, a, l, ⟨⟨p1, k1, m1⟩, ⟨p2, k2, m2⟩, o⟩, H⟩ => ⟨e, a, ⟨p1, k1, H _ m1⟩, ⟨p2, k2, H _ m2⟩, o.imp (H _) fun ⟨z, z1, z2, z3, z4⟩ => ⟨z, z1, z2, fun p hp => H p (z3 p hp).1, fun p hp => (z3 p hp).2, H _ z4⟩⟩
  · exact (fa3 ⟨_, mP⟩ ⟨_, mA⟩ ⟨_, mD⟩)
  · rw [← hled]
    exact (fa7 (.inr e1) (.inr e2) (.inl (ne_inst _ _)) (.inr hWl.2.1.symm) (.inl (ne_inst _ _)) (.inr hWl.2.2.symm) (.inl (ne_list _ _)))
  · exact (fa3 ⟨_, mO, dd, b1⟩ ⟨_, mO, dd, b2⟩ ⟨_, mO, dd, b3⟩)
  · exact (mcommit_new O OD S2 SD2 DL2 t1 t2 t3 h2 t4 m2 pc hlo).wk (List.forall_mem_cons.mpr ⟨mP, s0⟩) ((fa2 (.head _) (in2))) (fun _ _ h => h.1) fun h v h' H hp hk ⟨e, gO, ps, k, g⟩ => ⟨e, EndI.none q1 q2 q3 k g hp.2 (hk _ _ (H _ mA) dO) gO⟩
  · exact (mabort_new O OD S2 SD2 DL2 t1 t2 t3 h2 t4 m2 pa hlo).wk (List.forall_mem_cons.mpr ⟨mA, s0⟩) ((fa2 (in1) (in2))) (fun _ _ h => h.2) fun h v h' H hp hk ⟨e, gO, ps, k, g⟩ => ⟨e, EndI.none q1 q2 q3 hp.1 (hk _ _ (H _ mP) dP) k g gO⟩
  · exact (begin_new O OD S2 SD2 DL2 t1 t2 t3 h2 t4 m2 hlo).wk s0 ((fa1 (in2))) (fun _ _ _ => trivial) fun h v h' H hp hk ⟨zz, _, c1, c2, c3, c4, gO⟩ => EndI.some q1 q2 q3 hp.1 (hk _ _ (H _ mP) d1) hp.2 (hk _ _ (H _ mA) d2) zz c1 c2 c3 c4 gO
  · rw [← hled]; exact fun _ h => h
end Mine
end
section
open PySem PySem.W PyProof.Rows PySem.Calls PySem.Spec PyProof.V
namespace Mine
theorem ended_old_c {w : World} (W TH S IN O OD S2 SD2 DL2 DD : Nat) (oW : Obj) (c : Int) (tc : Tok) (t1 t2 t3 : Tok) (h2 : Int) (t4 : Tok) (m2 : Nat) (pc pa : Array Value) (n : Int) (tk : Tok) (st : Tst) (hc : st.Chain) (more : List DictEntry) (nm : Nat) (hm : MoreOk w more nm)
    (hW : oW.IsDictOf (strKind PySem.Challenge.rw_ac0032_01.row.prog w) (worldKvs TH S IN O DD c tc)) (hlo : 875 < OD ∧ OD < O ∧ O < SD2 ∧ SD2 < S2 ∧ S2 < DL2 ∧ DL2 < st.TD) (hWl : 875 < W ∧ @Ne Nat W OD ∧ @Ne Nat W SD2 ∧ @Ne Nat W st.TD) (hn : 0 ≤ n ∧ n < 1000000) :
    Claim w 240 1200 863 [.ref W, .int n tk] ((W, oW) :: (353, tabObj pc) :: (505, tabObj pa) :: ownerLed w O OD S2 (.ref st.T) t1 t2 t3 ++ setLed S2 SD2 DL2 h2 t4 [] m2 ++ st.led w S2 active (.ref O) more nm) [W, 353, 505, OD, st.TD] (fun _ => TriplesOk pc.toList ∧ TriplesOk pa.toList) (fun h v h' => v = .none ∧ (∃ oW' DD' oD', h'.get? W = some oW' ∧ oW'.IsDictOf (strKind PySem.Challenge.rw_ac0032_01.row.prog w) (worldKvs TH S IN O DD' c tc) ∧ h.get? DD' = none ∧ ((DD' : Addr) == sysModules) = false ∧ h'.get? DD' = some oD' ∧ oD'.IsDictOf (intKind PySem.Challenge.rw_ac0032_01.row.prog w) []) ∧ (∃ ps, TriplesOk ps.toList ∧ h'.get? 353 = some (tabObj ps)) ∧ (∃ ps, TriplesOk ps.toList ∧ h'.get? 505 = some (tabObj ps)) ∧ (h'.get? OD = some (dictOf [ent w "explicit" t1 (.bool false), ent w "_txn" t2 .none, ent w "_synchs" t3 (.ref S2)] 3) ∨ ∃ zz : Tst, zz.Chain ∧ DL2 < zz.TD ∧ Holds h' (zz.led w S2 active (.ref O) [] 12) ∧ (∀ p ∈ zz.led w S2 active (.ref O) [] 12, h.get? p.1 = none) ∧
      h'.get? OD = some (dictOf [ent w "explicit" t1 (.bool false), ent w "_txn" t2 (.ref zz.T), ent w "_synchs" t3 (.ref S2)] 3))) := by
  have hT := hc.c1
  have dO : (505 : Nat) ∉ ([353, OD, st.TD] : List Nat) := notin_cons (by decide) (notin_cons (Nat.ne_of_lt (by omega)) (notin_cons (Nat.ne_of_lt (by omega)) notin_nil))
  have dP : (353 : Nat) ∉ ([505, OD, st.TD] : List Nat) := notin_cons (by decide) (notin_cons (Nat.ne_of_lt (by omega)) (notin_cons (Nat.ne_of_lt (by omega)) notin_nil))
  have dT : st.T ∉ ([353, 505, OD, st.TD] : List Nat) := notin_cons (Nat.ne_of_gt (by omega)) (notin_cons (Nat.ne_of_gt (by omega)) (notin_cons (Nat.ne_of_gt (by omega)) (notin_cons (Nat.ne_of_gt hT) notin_nil)))
  have dd : O ∉ ([353, 505, OD, st.TD] : List Nat) := notin_cons (Nat.ne_of_gt (by omega)) (notin_cons (Nat.ne_of_gt (by omega)) (notin_cons (Nat.ne_of_gt hlo.2.1) (notin_cons (Nat.ne_of_lt (by omega)) notin_nil)))
  have b1 : @LE.le Nat _ 353 O := by omega
  have b2 : @LE.le Nat _ 505 O := by omega
  have b3 : @LE.le Nat _ OD O := by omega
  have e1 : @Ne Nat 353 W := by omega
  have e2 : @Ne Nat 505 W := by omega
  generalize hled : ((353, tabObj pc) :: (505, tabObj pa) :: ownerLed w O OD S2 (.ref st.T) t1 t2 t3 ++ setLed S2 SD2 DL2 h2 t4 [] m2 ++ st.led w S2 active (.ref O) more nm) = led
  have s0 : ∀ p ∈ ownerLed w O OD S2 (.ref st.T) t1 t2 t3 ++ setLed S2 SD2 DL2 h2 t4 [] m2 ++ st.led w S2 active (.ref O) more nm, p ∈ led := fun p hp => hled ▸ .tail _ (.tail _ hp)
  have mP : (353, tabObj pc) ∈ led := hled ▸ .head _
  have mA : (505, tabObj pa) ∈ led := hled ▸ in1
  have mO : (O, instObj 814 OD) ∈ led := s0 _ (.head _)
  have mD := s0 (OD, _) (in1)
  have mT : (st.T, instObj 542 st.TD) ∈ led := s0 _ (in5)
  have mTD := s0 (st.TD, _) (in6)
  have q1 : 353 ∈ led.map (·.1) := List.mem_map_of_mem mP
  have q2 : 505 ∈ led.map (·.1) := List.mem_map_of_mem mA
  have q3 : OD ∈ led.map (·.1) := List.mem_map_of_mem mD
  refine (ended_g W TH S IN O OD S2 DD oW c tc t1 t2 t3 (.ref st.T) n tk led [353, 505, OD, st.TD] (TriplesOk pc.toList ∧ TriplesOk pa.toList) (EndI w O OD S2 DL2 t1 t2 t3) hW mO mD ?_ ?_ ?_ EndI.back ?_ ?_ ?_).wk ?_ (fun _ h => h) (fun _ _ h => h) fun h v h' _ _ _ ⟨e, a, l, ⟨⟨p1, k1, m1⟩, ⟨p2, k2, m2⟩, o⟩, H⟩ => ⟨e, a, ⟨p1, k1, H _ m1⟩, ⟨p2, k2, H _ m2⟩, o.imp (H _) fun ⟨z, z1, z2, z3, z4⟩ => ⟨z, z1, z2, fun p hp => H p (z3 p hp).1, fun p hp => (z3 p hp).2, H _ z4⟩⟩
  · exact (fa4 ⟨_, mP⟩ ⟨_, mA⟩ ⟨_, mD⟩ ⟨_, mTD⟩)
  · rw [← hled]
    exact (fa15 (.inr e1) (.inr e2) (.inl (ne_inst _ _)) (.inr hWl.2.1.symm) (.inl (ne_inst _ _)) (.inr hWl.2.2.1.symm) (.inl (ne_list _ _)) (.inl (ne_inst _ _)) (.inr hWl.2.2.2.symm) (.inl (ne_list _ _)) (.inl (ne_list _ _)) (.inl (ne_list _ _)) (.inl (ne_list _ _)) (.inl (ne_list _ _)) (.inl (ne_list _ _)))
  · exact (fa4 ⟨_, mO, dd, b1⟩ ⟨_, mO, dd, b2⟩ ⟨_, mO, dd, b3⟩ ⟨_, mT, dT, Nat.le_of_lt hT⟩)
  · exact (mcommit_old O OD S2 SD2 DL2 t1 t2 t3 h2 t4 m2 pc st hc more nm hm hlo).wk (List.forall_mem_cons.mpr ⟨mP, s0⟩) ((fa3 (.head _) (in2) (in3))) (fun _ _ h => h.1) fun h v h' H hp hk ⟨e, gO, ps, k, g⟩ => ⟨e, EndI.none q1 q2 q3 k g hp.2 (hk _ _ (H _ mA) dO) gO⟩
  · exact (mabort_old O OD S2 SD2 DL2 t1 t2 t3 h2 t4 m2 pa st hc more nm hm hlo).wk (List.forall_mem_cons.mpr ⟨mA, s0⟩) ((fa3 (in1) (in2) (in3))) (fun _ _ h => h.2) fun h v h' H hp hk ⟨e, gO, ps, k, g⟩ => ⟨e, EndI.none q1 q2 q3 hp.1 (hk _ _ (H _ mP) dP) k g gO⟩
  · exact (begin_old O OD S2 SD2 DL2 t1 t2 t3 h2 t4 m2 pa st hc more nm hm hlo).wk (List.forall_mem_cons.mpr ⟨mA, s0⟩) ((fa3 (in1) (in2) (in3))) (fun _ _ h => h.2) fun h v h' H hp hk ⟨⟨ps, k, g⟩, zz, _, c1, c2, c3, c4, gO⟩ => EndI.some q1 q2 q3 hp.1 (hk _ _ (H _ mP) dP) k g zz c1 c2 c3 c4 gO
  · rw [← hled]; exact fun _ h => h
end Mine
end
section
open PySem PySem.W PyProof.Rows PySem.Calls PySem.Spec
namespace Mine
noncomputable def TabLook (qual : Str) (pos : Pos) (pw : Array Value) (h : Heap) : Prop := pw = #[] ∨ ∃ c', pw = #[rawInt pos.line, rawInt pos.col, .ref c'] ∧ h.CodeRec (.ref c') qual
theorem TabLook.triples {qual : Str} {pos : Pos} {pw : Array Value} {h : Heap} (x : TabLook qual pos pw h) : TriplesOk pw.toList := by
  rcases x with rfl | ⟨c', rfl, _⟩
  · exact True.intro
  · simp [TriplesOk, rawInt]
end Mine
end
section
open PySem PySem.W PyProof.Rows PySem.Calls PySem.Spec
namespace Mine
end Mine
end
section
open PySem PySem.W PyProof.Rows PySem.Calls PySem.Spec
namespace Mine
noncomputable def LoopJ (prog : Program) (w : World) (A : Around) (env : Env) (x : Str) (px : Pos) (body : List Stmt) (Q : Flow → Shared → Prop) (E : Value → Shared → Prop) (it : Value) (s₂ : Shared) : Prop :=
  ∃ (I : Addr) (fp wr : List Addr) (n : Nat) (P : Nat → Value → Prop) (St : Nat → Heap → Prop) (J : Nat → Shared → Prop), it = .ref I ∧ Walks prog w A I fp wr n P St ∧ J 0 s₂ ∧ (∀ i s, J i s → St i s.heap) ∧
    (∀ i v s h₁ tk₁, i < n → J i s → P i v → St (i + 1) h₁ → (∀ b o, b ∉ wr → s.heap.get? b = some o → h₁.get? b = some o) →
      wpAny (model prog w) A (assign (.Name x px) env v) (fun _ s₂ => wpAny (model prog w) A (execs body env) (fun f s₃ => match f with
        | .next | .cont => J (i + 1) s₃
        | .brk => Q .next s₃
        | .ret v => Q (.ret v) s₃) E s₂) E { s with heap := h₁, toks := tk₁ }) ∧
    (∀ s h₁ tk₁, J n s → (∀ b o, b ∉ wr → s.heap.get? b = some o → h₁.get? b = some o) → Q .next { s with heap := h₁, toks := tk₁ })
theorem For_J {prog : Program} {w : World} {A : Around} {E : Value → Shared → Prop} {s : Shared} {env : Env} {Q : Flow → Shared → Prop} {x : Str} {px pos : Pos} {iter : Expr} {body : List Stmt}
    (h : wpAny (model prog w) A (eval iter env) (fun xv s₁ => wpAny (model prog w) A (pyIter xv) (fun it s₂ => LoopJ prog w A env x px body Q E it s₂) E s₁) E s)
    (hs : ∀ x, foldedSetIterable iter env x = pure x := by intro _; rfl)
    (hE : PassesOwn (model prog w) A env E := by passes_own) :
    wpAny (model prog w) A (exec (.For (.Name x px) iter body [] pos) env) Q E s := by
  refine wpAny_For (wpAny_mono h (fun xv s₁ h₁ => wpAny_mono h₁ (fun it s₂ h₂ => ?_) fun _ _ e => e) fun _ _ e => e) hs
  obtain ⟨I, fp, wr, n, P, St, J, rfl, W, h0, hSt, turn, done⟩ := h₂
  refine codeAny_forLoop (fun k s' => ∃ i, i ≤ n ∧ k = n + 1 - i ∧ J i s') ?_ (n + 1) ⟨0, Nat.zero_le _, rfl, h0⟩
  rintro k s' ⟨i, hi, rfl, hJ⟩
  by_cases hlt : i < n
  · refine wpAny_passesOwn hE (W.item i s' _ _ hlt (hSt i s' hJ) fun v h₁ tk₁ hP hst₁ hk₁ => ?_)
    refine wpAny_passesOwn hE (wpAny_mono (turn i v s' h₁ tk₁ hlt hJ hP hst₁ hk₁) (fun _ s₂ h₂ => wpAny_passesOwn hE (wpAny_mono h₂ (fun f s₃ h₃ => ?_) fun _ _ e => e)) fun _ _ e => e)
    cases f with
    | next => exact ⟨n + 1 - (i + 1), by omega, i + 1, hlt, rfl, h₃⟩
    | cont => exact ⟨n + 1 - (i + 1), by omega, i + 1, hlt, rfl, h₃⟩
    | brk => exact h₃
    | ret v => exact h₃
  · have hin : i = n := by omega
    subst hin
    refine wpAny_passesOwn hE (W.done s' _ _ (hSt i s' hJ) fun h₁ tk₁ hk₁ => ?_)
    exact wpAny_execs_nil (done s' h₁ tk₁ hJ hk₁)
end Mine
end
section
open PySem PySem.W PyProof.Rows PySem.Calls PySem.Spec PyProof.V
namespace Mine
section
theorem copy_c {w : World} (S SD DL : Nat) (hh : Int) (t1 : Tok) (n2 : Nat) (vs : List Value) (hl : vs.length ≤ 8) :
    Claim w 20 100 80 [.ref S] (setLed S SD DL hh t1 vs n2) [] (fun _ => True) (fun h v h' => ∃ (D n' : Nat), v = .ref D ∧ h.get? D = none ∧ h'.get? D = some (listOf vs.toArray n')) := by
  unfold Claim setLed
  k_fill
  intro dp un gd cn cs a ccd cl outer A₀ base h₀ L m mg mb mean s Q E B F X N T hk hd hu _ hret
  refine wpAny_call ?_
  k_dflt (refine' enter_plain (binds := [(Str.ofString "self", .ref S)]) B F X N T rfl rfl hk (by k_is) (by k_is) ?hr (BindsTo.of_eq rfl) (locs rfl) ?_ rfl rfl rfl (by decide))
  case hr => exact Nat.lt_of_le_of_lt (Nat.le_add_right _ _) hd
  intro g' L' h' hG hup l1 FG' F' N' B' X' T'
  refine wpAny_hide ?_
  intro QF EF hQF hEF
  k_lt l1
  try dsimp only
  k_steps
  rename News g' L' _ _ => N₃
  rename Fr g' L' _ _ => F₃
  refine hQF _ _ ?_
  refine leaveK_ (by assumption) (by assumption) fun _ _ => ?_
  refine hret _ _ _ (kept_end N hG F₃.keep ?_) ⟨_, _, rfl, not_in_heap hG (N₃.fresh (.head _)) (notin_led ?_), N₃.get (.head _)⟩
  · exact (fa3 (fun _ => N₃.get (by k_mem)) (fun _ => N₃.get (by k_mem)) (fun _ => N₃.get (by k_mem)))
  · exact (fa3 (fun q => by have q' := eqN q; dsimp only at q'; omega) (fun q => by have q' := eqN q; dsimp only at q'; omega) (fun q => by have q' := eqN q; dsimp only at q'; omega))
end
end Mine
end
section
open PySem PySem.W PyProof.Rows PySem.Calls PySem.Spec
namespace Mine
theorem ieq_pos {x y : Int} {P Q : Prop} (h : x = y) (p : P) : if (x == y) = true then P else Q := by rw [if_pos (by simp [h])]; exact p
theorem ieq_neg {x y : Int} {P Q : Prop} (h : x ≠ y) (q : Q) : if (x == y) = true then P else Q := by rw [if_neg (by simp [h])]; exact q
theorem Claim.toM {w : World} {D U : Nat} {f : Addr} {args : List Value} {led : List (Addr × Obj)} {mods : List Addr} {Pre : Heap → Prop} {Post : Heap → Value → Heap → Prop} (C : Claim w D U f args led mods Pre Post)
    (hm : ∀ b ∈ mods, ∃ o, (b, o) ∈ led) : ClaimM w D U f args led mods Pre Post False := by
  intro dp un gd cn cs a ccd cl outer A₀ base h₀ L m mg mb mean s Q E B F XB N TB hk hd hu pre k _
  refine C dp un gd cn cs a ccd cl outer A₀ base h₀ L m mg mb mean s Q E B F (XB.keeps B.stays) N (TB.keeps B.stays) hk hd hu pre fun v h' tk hkk hp => ?_
  exact k v h' tk h₀ .refl (Fr.turns F N hm hkk) B (fun b o e n _ => hkk b o e n) hp
theorem ClaimM.wk {w : World} {D U D' U' : Nat} {f : Addr} {args : List Value} {led led' : List (Addr × Obj)} {mods mods' : List Addr} {Pre Pre' : Heap → Prop} {Post Post' : Heap → Value → Heap → Prop} {Perr : Prop} (C : ClaimM w D U f args led mods Pre Post Perr)
    (sub : ∀ p ∈ led, p ∈ led') (hmm : ∀ b ∈ mods, b ∈ mods') (pre : ∀ h, Holds h led' → Pre' h → Pre h)
    (post : ∀ h v h', Holds h led' → Pre' h → (∀ p ∈ led', p.1 ∉ mods → h'.get? p.1 = some p.2) → Post h v h' → Post' h v h') (hD : D ≤ D' := by decide) (hU : U ≤ U' := by decide) : ClaimM w D' U' f args led' mods' Pre' Post' Perr := by
  intro dp un gd cn cs a ccd cl outer A₀ base h₀ L m mg mb mean s Q E B F XB N TB hk hd hu hpre k kerr
  have H : Holds s.heap led' := fun p hp => (N p hp).1
  exact C dp un gd cn cs a ccd cl outer A₀ base h₀ L m mg mb mean s Q E B F XB (News.sub N sub) TB hk (Nat.lt_of_le_of_lt (Nat.add_le_add_left hD _) hd) (Nat.lt_of_le_of_lt (Nat.add_le_add_left hU _) hu) (pre _ H hpre)
    (fun v h' tk h₀' T F' B' hkk hp => k v h' tk h₀' T F' B' (fun b o e n nf => hkk b o e (fun q => n (hmm b q)) nf) (post _ _ _ H hpre (fun p hp' hn => hkk _ _ (N p hp').1 hn (News.apart B N hp')) hp)) kerr
theorem News.cons1 {h₀ h : Heap} {L : Addr} {p : Addr × Obj} {l₂ : List (Addr × Obj)} (N₁ : h.get? p.1 = some p.2 ∧ p.1 ≠ L ∧ h₀.get? p.1 = none) (N₂ : News h₀ L h l₂) : News h₀ L h (p :: l₂) := fun q hq => (List.mem_cons.mp hq).elim (fun e => e ▸ N₁) (N₂ q)
noncomputable def TurnEnd (g : Heap) (L : Addr) (fp : List Addr) (s₀ s' : Shared) (K : (Str → Option Value) → List (Addr × Obj) → Prop) (s₃ : Shared) : Prop :=
  ∃ h₃ tk₃ m led, s₃ = { s₀ with heap := h₃, toks := tk₃ } ∧ Fr g L h₃ m ∧ News g L h₃ led ∧ K m led ∧ (∀ b ∈ fp, ∀ o, s'.heap.get? b = some o → h₃.get? b = some o) ∧ ∀ p ∈ led, p.1 ∉ fp
noncomputable def LoopK (prog : Program) (w : World) (A : Around) (env : Env) (x : Str) (px : Pos) (body : List Stmt) (g : Heap) (L : Addr) (K : Nat → (Str → Option Value) → List (Addr × Obj) → Prop) (n : Nat) (Q : Flow → Shared → Prop) (E : Value → Shared → Prop) (it : Value) (s₂ : Shared) : Prop :=
  ∃ (I : Addr) (fp wr : List Addr) (P : Nat → Value → Prop) (St : Nat → Heap → Prop) (m : Str → Option Value) (led : List (Addr × Obj)), it = .ref I ∧ Walks prog w A I fp wr n P St ∧ St 0 s₂.heap ∧ (∀ b ∈ wr, b ≠ L ∧ g.get? b = none) ∧
    Fr g L s₂.heap m ∧ News g L s₂.heap led ∧ K 0 m led ∧ (∀ p ∈ led, p.1 ∉ fp) ∧
    (∀ i v m led h₁ tk₁, i < n → P i v → K i m led → Fr g L h₁ m → News g L h₁ led → St (i + 1) h₁ → (∀ p ∈ led, p.1 ∉ fp) →
      wpAny (model prog w) A (assign (.Name x px) env v) (fun _ s₃ => wpAny (model prog w) A (execs body env) (fun f s₄ => match f with
        | .next | .cont => TurnEnd g L fp s₂ { s₂ with heap := h₁, toks := tk₁ } (K (i + 1)) s₄
        | .brk => Q .next s₄
        | .ret v => Q (.ret v) s₄) E s₃) E { s₂ with heap := h₁, toks := tk₁ }) ∧
    (∀ m led h₁ tk₁, K n m led → Fr g L h₁ m → News g L h₁ led → (∀ p ∈ led, p.1 ∉ fp) → Q .next { s₂ with heap := h₁, toks := tk₁ })
theorem Fr.apart {g h h' : Heap} {L : Addr} {m : Str → Option Value} {wr : List Addr} (F : Fr g L h m) (hw : ∀ b ∈ wr, b ≠ L ∧ g.get? b = none) (hk : ∀ b o, b ∉ wr → h.get? b = some o → h'.get? b = some o) : Fr g L h' m :=
  ⟨F.ns.at' fun o e => hk _ o (fun q => (hw _ q).1 rfl) e, fun b o e => hk b o (fun q => by rw [(hw _ q).2] at e; cases e) (F.keep b o e), F.above⟩
theorem For_K {prog : Program} {w : World} {A : Around} {E : Value → Shared → Prop} {s : Shared} {env : Env} {Q : Flow → Shared → Prop} {x : Str} {px pos : Pos} {iter : Expr} {body : List Stmt} {g : Heap} {L : Addr} (K : Nat → (Str → Option Value) → List (Addr × Obj) → Prop) (n : Nat)
    (h : wpAny (model prog w) A (eval iter env) (fun xv s₁ => wpAny (model prog w) A (pyIter xv) (fun it s₂ => LoopK prog w A env x px body g L K n Q E it s₂) E s₁) E s)
    (hs : ∀ x, foldedSetIterable iter env x = pure x := by intro _; rfl)
    (hE : PassesOwn (model prog w) A env E := by passes_own) :
    wpAny (model prog w) A (exec (.For (.Name x px) iter body [] pos) env) Q E s := by
  refine For_J (wpAny_mono h (fun xv s₁ h₁ => wpAny_mono h₁ (fun it s₂ h₂ => ?_) fun _ _ e => e) fun _ _ e => e) hs hE
  obtain ⟨I, fp, wr, P, St, m, led, rfl, W, h0, hw, F, N, hK, hap, turn, done⟩ := h₂
  refine ⟨I, fp, wr, n, P, St, fun i s' => ∃ h₁ tk₁ m led, s' = { s₂ with heap := h₁, toks := tk₁ } ∧ Fr g L h₁ m ∧ News g L h₁ led ∧ K i m led ∧ St i h₁ ∧ ∀ p ∈ led, p.1 ∉ fp, rfl, W, ⟨s₂.heap, s₂.toks, m, led, rfl, F, N, hK, h0, hap⟩, ?_, ?_, ?_⟩
  · rintro i s' ⟨h₁, tk₁, m, led, rfl, _, _, _, z, _⟩; exact z
  · rintro i v s' h₂ tk₂ hi ⟨h₁, tk₁, m, led, rfl, F₁, N₁, hK₁, z, ap⟩ hP hSt hk
    have F₂ := Fr.apart F₁ hw hk
    have N₂ : News g L h₂ led := fun p hp => ⟨hk _ _ (fun q => ap p hp (W.sub _ q)) (N₁ p hp).1, (N₁ p hp).2⟩
    refine wpAny_mono (turn i v m led h₂ tk₂ hi hP hK₁ F₂ N₂ hSt ap) (fun _ s₃ h₃ => wpAny_mono h₃ (fun f s₄ h₄ => ?_) fun _ _ e => e) fun _ _ e => e
    cases f with
    | next =>
      obtain ⟨h₅, tk₅, m₅, led₅, rfl, F₅, N₅, K₅, kp, ap₅⟩ := h₄
      exact ⟨h₅, tk₅, m₅, led₅, rfl, F₅, N₅, K₅, W.frame _ _ _ hSt (fun b hb o e => kp b hb o e), ap₅⟩
    | cont =>
      obtain ⟨h₅, tk₅, m₅, led₅, rfl, F₅, N₅, K₅, kp, ap₅⟩ := h₄
      exact ⟨h₅, tk₅, m₅, led₅, rfl, F₅, N₅, K₅, W.frame _ _ _ hSt (fun b hb o e => kp b hb o e), ap₅⟩
    | brk => exact h₄
    | ret v => exact h₄
  · rintro s' h₂ tk₂ ⟨h₁, tk₁, m, led, rfl, F₁, N₁, hK₁, z, ap⟩ hk
    exact done m led h₂ tk₂ hK₁ (Fr.apart F₁ hw hk) (fun p hp => ⟨hk _ _ (fun q => ap p hp (W.sub _ q)) (N₁ p hp).1, (N₁ p hp).2⟩) ap
theorem enter_nest {prog : Program} {w : World} {A A₀ : Around} {s : Shared} {K : Frag} {base h₀ : Heap} {outer : List Env} {L : Addr} {m mg mb : Str → Option Value} {env : Env} {news : List (Addr × Obj)}
    {p : Program} {loose : List Str} {mean : ExcName → Option Value} {R : Result → Shared → Prop} {name qual : Str} {params : Arguments} {body : List Stmt} {scope : Scope} {cl : List (Str × Addr)} {doc pm ctv : Value} {c' : Addr}
    {f : Addr} {args : Args} {binds : List (Str × Value)}
    (B : Below A₀ base outer h₀) (F : Fr h₀ L s.heap m) (X : K.In h₀) (N : News h₀ L s.heap news) (T : Top p loose mean mg mb h₀)
    (hA : A.frames = some (env :: outer)) (hf : env.frame = some L) (hke : env.scope.kind = .function)
    (ho : (f, fnMade name qual params body scope cl doc pm c' ctv) ∈ news) (hcd : s.heap.CodeRec (.ref c') qual) (hroom : A.depth < recursionLimit)
    (hbind : BindsTo s (fnX name qual params body scope cl .none .none doc pm none (.ref c') ctv) args binds) (hloc : ∀ y ∈ binds, scope.names.lookup y.1 = some .local)
    (h : ∀ g L' h₁, (∀ b o, s.heap.get? b = some o → b ∉ news.map (·.1) → g.get? b = some o) → (∀ b o, s.heap.get? b = some o → h₁.get? b = some o) → (∀ p ∈ news, p.1 < L') → Fr h₀ L g m →
      Fr g L' h₁ (fun y => binds.reverse.lookup y) → News g L' h₁ news → Below A base (env :: outer) g → K.In g → Top p loose mean mg mb g →
      wpAny (model prog w) (A.deeper (envX qual scope L' f (.ref c') cl)) (execs body (envX qual scope L' f (.ref c') cl))
        (fun fl s' => LeaveK h₀ L m g R (match fl with | .ret v => v | _ => .none) s')
        (fun e s' => wpAny (model prog w) (A.deeper (envX qual scope L' f (.ref c') cl)) (leaving (envX qual scope L' f (.ref c') cl) e) (fun _ s'' => R (.error e) s'') (fun e' s'' => R (.error e') s'') s')
        { s with heap := h₁, toks := s.toks + binds.length })
    (hco : scope.isCoroutine = false) (hgen : scope.isGenerator = false) (hk : scope.kind = .function) (hcell : ∀ x ∈ scope.names, x.2 ≠ .cell) :
    codeAny (model prog w) A (.call (.ref f) args) R s := by
  obtain ⟨FG, BG, st, lv⟩ := groundX (R := R) B F N hA hf hke
  refine codeAny_call_def (fd := fnX name qual params body scope cl .none .none doc pm none (.ref c') ctv) (body := body) (binds := binds) hroom (N _ ho).1 rfl (T.nolimit.keeps F.keep) hcd rfl hbind hcell hloc (fun h₁ hns hk₁ => ?_) hco hgen hk
  refine wpAny_mono (h _ s.heap.objs.size h₁ (fun b o e hb => hideAll_get _ e hb) hk₁ (fun q hq => Heap.lt_size (N q hq).1) FG
    ⟨hns, fun b o e => hk₁ b o (of_hideAll _ e), Nat.le_of_eq (hideAll_size _ _)⟩ (fun q hq => ⟨hk₁ _ _ (N q hq).1, Nat.ne_of_lt (Heap.lt_size (N q hq).1), hideAll_none _ (List.mem_map_of_mem hq)⟩)
    BG (X.keeps st) (T.keeps st)) (fun fl s' hl => lv _ _ hl) fun _ _ y => y
end Mine
end
section
open PySem PySem.W PyProof.Rows PySem.Calls PySem.Spec PyProof.V
namespace Mine
section
local macro_rules | `(tactic| walk_at "call ref") => `(tactic| (refine hold ?_))
local macro_rules | `(tactic| walk_at "exec For Name Call cons nil") => `(tactic| (refine hold ?_))
theorem map_c {w : World} (S SD DL f : Nat) (hh : Int) (t1 : Tok) (n2 : Nat) (vs : List Value) (hl : vs.length ≤ 8) (hv : ∀ v ∈ vs, ∃ a, v = .ref a) {D U : Nat} (I : Nat → List (Addr × Obj) → Prop)
    (hfn : ∀ i led, I i led → ∃ oc od fd sl, (f, (⟨oc, od, .func fd, sl⟩ : Obj)) ∈ led)
    (step : ∀ i v led, vs[i]? = some v → I i led → Claim w D U f [v] led (led.map (·.1)) (fun _ => True) (fun h _ h' => Goes (I (i + 1)) led h h'))
    (led0 : List (Addr × Obj)) (h0 : I 0 led0) (sub : ∀ p ∈ setLed S SD DL hh t1 vs n2, p ∈ led0) :
    Claim w (D + 40) (U + 200) 73 [.ref S, .ref f] led0 (led0.map (·.1)) (fun _ => True) (fun h v h' => v = .none ∧ Goes (I vs.length) led0 h h') := by
  unfold Claim
  k_fill
  intro dp un gd cn cs a ccd cl outer A₀ base h₀ L m mg mb mean s Q E B F X N T hk hd hu _ hret
  refine wpAny_call ?_
  k_dflt (refine' enter_plain (binds := [(Str.ofString "self", .ref S), (Str.ofString "f", .ref f)]) B F X N T rfl rfl hk (by k_is) (by k_is) ?hr (BindsTo.of_eq rfl) (locs rfl) ?_ rfl rfl rfl (by decide))
  case hr => exact Nat.lt_of_le_of_lt (Nat.le_add_right _ _) hd
  intro g' L' h' hG hup l1 FG' F' N' B' X' T'
  refine wpAny_hideQ ?_
  intro QF hQF
  have N₁ : News g' L' h' ((S, instObj 83 SD) :: (SD, dictOf [⟨hh, .str (Str.ofString "data") t1, .ref DL⟩] 1) :: (DL, listOf vs.toArray n2) :: led0) :=
    News.append (l₁ := setLed S SD DL hh t1 vs n2) (News.sub N' sub) N'
  have l2 : Hold (∀ p ∈ led0, p.1 < L') := l1
  clear N' l1
  try dsimp only
  k_steps
  refine Hold.out (For_K (g := g') (L := L') (fun i m led => m (Str.ofString "f") = some (.ref f) ∧ I i led ∧ ∀ p ∈ led, p.1 ∈ led0.map (·.1) ∨ s.heap.get? p.1 = none) vs.length ?_)
  k_steps
  rename News g' L' _ _ => N₂
  rename Fr g' L' _ _ => F₂
  refine Hold.out (Claim.use (copy_c S SD DL hh t1 n2 vs hl) B' F₂ X' N₂ T' rfl ?_ ?_ ?_ trivial ?_)
  · exact (fa3 (by k_mem) (by k_mem) (by k_mem))
  · dsimp only [Around.deeper, ktrTop]; first | exact room2 hd (by decide) | exact room2 hu (by decide) | omega
  · dsimp only [Around.deeper, ktrTop]; first | exact room2 hd (by decide) | exact room2 hu (by decide) | omega
  rintro v h₂ tk₂ hk₂ ⟨D', n', rfl, hD0, hD2⟩
  have hk3 : ∀ b o, _ → h₂.get? b = some o := fun b o e => hk₂ b o e List.not_mem_nil
  have N₃ := News.add F₂ N₂ hk3 hD0 hD2
  have F₃ := F₂.keptAll hk3
  have off := News.off N₂ hD0
  clear N₂ F₂ hk₂ hk3
  refine Hold.out ?_
  refine wpAny_pyIter_list (News.isList (n := n') (d := none) (sl := #[]) (items := vs.toArray) N₃ (.head _)) ?_
  have hlt : D' < h₂.objs.size := Heap.lt_size hD2
  have N₄ := N₃.push F₃ ({ cls := .type "list_iterator", data := .fields #[.ref D', .int 0 0] } : Obj)
  have F₄ := F₃.push ({ cls := .type "list_iterator", data := .fields #[.ref D', .int 0 0] } : Obj)
  have e1 := N₄ _ (.head _)
  have e2 := N₄ _ (in1)
  have e3 : News g' L' _ led0 := News.sub N₄ fun p hp => .tail _ (.tail _ (.tail _ (.tail _ (.tail _ hp))))
  have apart : ∀ p ∈ led0, p.1 ∉ [h₂.objs.size, D'] := fun p hp => notin_cons (Nat.ne_of_lt (Heap.lt_size (N₃ p (.tail _ (.tail _ (.tail _ (.tail _ hp))))).1)) (notin_cons (off p (.tail _ (.tail _ (.tail _ hp)))) notin_nil)
  clear N₃ N₄ off
  refine ⟨h₂.objs.size, _, _, _, _, _, led0, rfl, Walks.list rfl h₂.objs.size D' (Nat.ne_of_lt hlt) vs.toArray, ⟨⟨_, e1.1, rfl, rfl⟩, ⟨_, e2.1, rfl, _, rfl⟩⟩, (fa1 e1.2), F₄, e3, ⟨rfl, h0, fun p hp => .inl (List.mem_map_of_mem hp)⟩, apart, ?_, ?_⟩
  · intro i v m₁ led h₁ tk₁ hi hP hK F₁ N₁ hSt ap
    obtain ⟨hf, hI, hfr⟩ := hK
    have hP' : vs[i]? = some v := by simpa using hP
    obtain ⟨x, rfl⟩ := hv v (List.mem_of_getElem? hP')
    obtain ⟨⟨oI, hoI, _⟩, ⟨oD, hoD, _⟩⟩ := hSt
    obtain ⟨oc, od, fd, sl, hfm⟩ := hfn i led hI
    have N₅ : News g' L' h₁ ((f, (⟨oc, od, .func fd, sl⟩ : Obj)) :: (h₂.objs.size, oI) :: (D', oD) :: led) := News.cons1 (N₁ _ hfm) (News.cons1 ⟨hoI, e1.2⟩ (News.cons1 ⟨hoD, e2.2⟩ N₁))
    clear N₁ F₃ F₄
    k_steps
    rename Fr g' L' _ _ => F₆
    refine nameX_L F₆ (v := .ref f) ((if_neg (by decide)).trans ((if_neg (by decide)).trans hf)) ?_
    try dsimp only
    rename News g' L' _ _ => N₇
    refine callWith_F (FnAt.of N₇ (.head _)) ?_
    k_steps
    rename News g' L' _ _ => N₇
    replace N₇ := News.sub N₇ (fun p hp => List.Mem.tail _ hp)
    rename Fr g' L' _ _ => F₇
    refine Hold.out (Claim.use (step i (.ref x) led hP' hI) B' F₇ X' N₇ T' rfl ?_ ?_ ?_ trivial ?_)
    · exact fun p hp => .tail _ (.tail _ hp)
    · dsimp only [Around.deeper, ktrTop]; first | exact room2 hd (by decide) | exact room2 hu (by decide) | omega
    · dsimp only [Around.deeper, ktrTop]; first | exact room2 hd (by decide) | exact room2 hu (by decide) | omega
    rintro v h₈ tk₈ hk₈ ⟨led', hI', hH', hf'⟩
    have F₈ := Fr.turns F₇ N₇ (fun b hb => by obtain ⟨p, hp, rfl⟩ := List.mem_map.mp hb; exact ⟨p.2, .tail _ (.tail _ hp)⟩) hk₈
    have N₈ := News.goes F₇ (News.sub N₇ fun p hp => .tail _ (.tail _ hp)) hH' hf'
    have ka : ∀ p ∈ led', p.1 ∉ [h₂.objs.size, D'] := fun p hp => by
      rcases hf' p hp with q | q
      · obtain ⟨r, hr, e⟩ := List.mem_map.mp q
        rw [← e]; exact ap r hr
      · refine notin_cons (fun e => ?_) (notin_cons (fun e => ?_) notin_nil)
        · rw [show p.1 = h₂.objs.size from e, (N₇ _ (.head _)).1] at q; cases q
        · rw [show p.1 = D' from e, (N₇ _ (in1)).1] at q; cases q
    have kb : ∀ b ∈ [h₂.objs.size, D'], b ∉ led.map (·.1) := fun b hb hm => by
      obtain ⟨p, hp, rfl⟩ := List.mem_map.mp hm
      exact ap p hp hb
    have g1 := hk₈ _ _ (N₇ _ (.head _)).1 (kb _ (.head _))
    have g2 := hk₈ _ _ (N₇ _ (in1)).1 (kb _ (in1))
    refine wpAny_execs_nil ?_
    try dsimp only
    refine wpAny_execs_nil ?_
    refine ⟨h₈, tk₈, _, led', rfl, F₈, N₈, ⟨(if_neg (by decide)).trans ((if_neg (by decide)).trans hf), hI', fun p hp => ?_⟩, ?_, ka⟩
    · rcases hf' p hp with q | q
      · obtain ⟨r, hr, e⟩ := List.mem_map.mp q
        rw [← e]; exact hfr r hr
      · by_cases hm : p.1 ∈ led0.map (·.1)
        · exact .inl hm
        · refine .inr ?_
          cases z : s.heap.get? p.1 with
          | none => rfl
          | some o => have := F₇.keep _ _ (hG _ _ z hm); rw [q] at this; cases this
    · refine (fa2 (fun o e => ?_) (fun o e => ?_))
      · rw [hoI] at e; cases e; exact g1
      · rw [hoD] at e; cases e; exact g2
  · intro m₁ led h₁ tk₁ hK F₁ N₁ ap
    obtain ⟨_, hI, hfr⟩ := hK
    clear F₃ F₄
    k_steps
    refine hQF _ _ ?_
    refine leaveK_ (by assumption) (by assumption) fun _ _ => ?_
    refine hret _ _ _ (fun b o e hb => F₁.keep _ _ (hG b o e hb)) ⟨rfl, led, hI, fun p hp => (N₁ p hp).1, hfr⟩
end
end Mine
end
section
open PySem PySem.W PyProof.Rows PySem.Calls PySem.Spec PyProof.V
namespace Mine
theorem Holds.ne {h : Heap} {a b : Addr} {o o' : Obj} {led : List (Addr × Obj)} (H : Holds h led) (ha : (a, o) ∈ led) (hb : (b, o') ∈ led) (hc : o.cls ≠ o'.cls) : @Ne Nat a b := fun q => by
  have h1 := H _ ha
  have h2 := H _ hb
  have q' : (a, o).1 = (b, o').1 := q
  rw [q', h2] at h1
  exact hc (congrArg Obj.cls (Option.some.inj h1).symm)
noncomputable def SetStep (ths : List Nat) (vs : List Value) (ns : List Int) (vs' : List Value) (ns' : List Int) : Prop :=
  (vs' = vs ∧ ns' = ns) ∨
  (∃ (k : Int) (x : Nat), 0 ≤ k ∧ k < 8 ∧ (things ths)[k.toNat]? = some (.ref x) ∧ vs' = (if vs.any (· == .ref x) then vs else vs ++ [.ref x]) ∧ ns' = if ns.any (· == k) then ns else ns ++ [k]) ∨
  (∃ (k : Int) (x : Nat), 0 ≤ k ∧ k < 8 ∧ (things ths)[k.toNat]? = some (.ref x) ∧ vs' = (vs.filter fun v => !(v == .ref x)) ∧ ns' = ns.filter fun n => n != k) ∨
  (vs' = [] ∧ ns' = [])
noncomputable abbrev worldS (W TH IN S SD DL : Nat) (oW : Obj) (ths : List Nat) (is vs : List Value) (hh : Int) (t1 : Tok) (n2 n3 n4 : Nat) : List (Addr × Obj) :=
  (W, oW) :: (TH, listOf (things ths).toArray n3) :: (IN, listOf is.toArray n4) :: setLed S SD DL hh t1 vs n2
noncomputable def SetPost (w : World) (W TH S SD DL IN O DD : Nat) (c : Int) (tc : Tok) (hh : Int) (t1 : Tok) (ths : List Nat) (vs : List Value) (ns : List Int) (h h' : Heap) : Prop :=
  ∃ (oW' : Obj) (IN' DL' n2' n4' : Nat) (vs' is' : List Value) (ns' : List Int), h'.get? W = some oW' ∧ oW'.IsDictOf (strKind PySem.Challenge.rw_ac0032_01.row.prog w) (worldKvs TH S IN' O DD c tc) ∧
    (IN' = IN ∨ h.get? IN' = none) ∧ h'.get? IN' = some (listOf is'.toArray n4') ∧ IntsAre is' ns' ∧ h'.get? SD = some (dictOf [⟨hh, .str (Str.ofString "data") t1, .ref DL'⟩] 1) ∧ (DL' = DL ∨ h.get? DL' = none) ∧ @Ne Nat DL' IN' ∧
    h'.get? DL' = some (listOf vs'.toArray n2') ∧ SetStep ths vs ns vs' ns'
theorem put_s {w : World} (W TH S SD DL IN O DD x : Nat) (oW : Obj) (c : Int) (tc : Tok) (hh : Int) (t1 : Tok) (n2 n3 n4 : Nat) (ths : List Nat) (vs is : List Value) (ns : List Int) (k : Int) (tk : Tok) (hl : vs.length ≤ 8) (hln : ns.length ≤ 8)
    (hW : oW.IsDictOf (strKind PySem.Challenge.rw_ac0032_01.row.prog w) (worldKvs TH S IN O DD c tc)) (hi : IntsAre is ns) (hk0 : 0 ≤ k) (hk8 : k < 8) (hx : (things ths)[k.toNat]? = some (.ref x)) (hxm : x ∈ ths) (hV : ValsN vs ths)
    (e1 : @Ne Nat W SD) (e2 : @Ne Nat DL TH) (e3 : @Ne Nat DL IN) :
    Claim w 80 400 837 [.ref W, .int k tk] (worldS W TH IN S SD DL oW ths is vs hh t1 n2 n3 n4) [W, SD, DL] (StandN ths) (fun h v h' => v = .none ∧ SetPost w W TH S SD DL IN O DD c tc hh t1 ths vs ns h h') := by
  refine (put_c W TH S SD DL IN O DD x oW c tc hh t1 n2 n3 n4 (things ths) vs is ns k tk hl hln hW hi hk0 hk8 hx e1 e2 e3).wk (fun _ h => h) ?_ (fun h _ R => StandS_of (ValsN.cons hV hxm) R) ?_
  · exact (fa2 (.head _) (in2))
  · rintro h v h' H R kept ⟨rfl, ⟨n', hD⟩, oW', IN', is', n5, g1, g2, g3, g4, g5⟩
    have f1 : @Ne Nat SD DL := Holds.ne H (by k_mem) (by k_mem) (fun q => absurd (Value.type.inj q) (show ¬ ("dict" = "list") by decide))
    refine ⟨rfl, oW', IN', DL, n', n5, _, is', _, g1, g2, g3, g4, g5, kept _ _ (H (SD, dictOf [⟨hh, .str (Str.ofString "data") t1, .ref DL⟩] 1) (by k_mem)) (notin_cons (a := SD) e1.symm (notin_cons f1 notin_nil)), .inl rfl, ?_, hD, .inr (.inl ⟨k, x, hk0, hk8, hx, rfl, rfl⟩)⟩
    rcases g3 with rfl | g3
    · exact e3
    · intro q
      have z := H (DL, listOf vs.toArray n2) (by k_mem)
      rw [← show DL = IN' from q] at g3
      rw [g3] at z; cases z
theorem out_s {w : World} (W TH S SD DL IN O DD x : Nat) (oW : Obj) (c : Int) (tc : Tok) (hh : Int) (t1 : Tok) (n2 n3 n4 : Nat) (ths : List Nat) (vs is : List Value) (ns : List Int) (k : Int) (tk : Tok) (hl : vs.length ≤ 8) (hln : ns.length ≤ 8)
    (hW : oW.IsDictOf (strKind PySem.Challenge.rw_ac0032_01.row.prog w) (worldKvs TH S IN O DD c tc)) (hi : IntsAre is ns) (hk0 : 0 ≤ k) (hk8 : k < 8) (hx : (things ths)[k.toNat]? = some (.ref x)) (hxm : x ∈ ths) (hV : ValsN vs ths)
    (hlo : TH < W ∧ W < SD ∧ SD < S) (hoff : W ∉ ths ∧ TH ∉ ths ∧ IN ∉ ths ∧ S ∉ ths ∧ SD ∉ ths ∧ DL ∉ ths) (hv : vs.any (· == .ref x) = true) (hn : ns.any (· == k) = true) :
    Claim w 80 400 842 [.ref W, .int k tk] (worldS W TH IN S SD DL oW ths is vs hh t1 n2 n3 n4) [W, SD, DL] (StandN ths) (fun h v h' => v = .bool true ∧ SetPost w W TH S SD DL IN O DD c tc hh t1 ths vs ns h h') := by
  refine (out_hit_c W TH S SD DL IN O DD x oW c tc hh t1 n2 n3 n4 ths vs is ns k tk hl hln hW hi hk0 hk8 hx hxm hV hlo hoff hv hn).wk (fun _ h => h) ?_ (fun h _ R => R) ?_
  · exact (fa2 (.head _) (in1))
  · rintro h v h' H R kept ⟨rfl, DL', n', oW', IN', is', n5, g0, g1, g2, g3, g4, g5, g6, g7, g8⟩
    exact ⟨rfl, oW', IN', DL', n', n5, _, is', _, g4, g5, .inr g6, g7, g8, g2, .inr g1, g0, g3, .inr (.inr (.inl ⟨k, x, hk0, hk8, hx, rfl, rfl⟩))⟩
end Mine
end
section
open PySem PySem.W PyProof.Rows PySem.Calls PySem.Spec PyProof.V
namespace Mine
local macro_rules | `(tactic| k_lt $h:ident) => `(tactic| (replace $h := allLt_of $h; dsimp only [AllLt] at $h:ident))
noncomputable def innerOf (o : Option Obj) : Option (Arguments × List Stmt × Scope) := match o with
  | some ⟨_, _, .func fd, _⟩ => (match fd.body with
    | .stmts (_ :: .FunctionDef _ p b _ _ _ sc _ _ _ :: _) => some (p, b, sc)
    | _ => none)
  | _ => none
theorem inner_of {K : Frag} {a : Addr} {o : Obj} {r : Option (Arguments × List Stmt × Scope)} (hk : K.lookup a = some o) (h : innerOf (K.lookup a) = r) : innerOf (some o) = r := hk ▸ h
noncomputable abbrev lookQual : Str := (Str.ofString "_law_walked" ++ ".<locals>.") ++ Str.ofString "look"
noncomputable def IsLook (w : World) (qual : Str) (fo : Obj) (c' cW cS cN : Nat) : Prop := ∃ params body scope doc pm ctv, innerOf ((Mine.K39 w.params).lookup 849) = some (params, body, scope) ∧
  fo = fnMade (Str.ofString "look") qual params body scope [(Str.ofString "world", cW), (Str.ofString "seen", cS), (Str.ofString "number", cN)] doc pm c' ctv
noncomputable abbrev lookLed (f SN cS cN cW : Nat) (fo oCS oCN oCW : Obj) (seen : List Value) (sm : Nat) : List (Addr × Obj) := [(f, fo), (SN, listOf seen.toArray sm), (cS, oCS), (cN, oCN), (cW, oCW)]
theorem News.neD {h₀ h : Heap} {L a b : Addr} {o o' : Obj} {news : List (Addr × Obj)} (N : News h₀ L h news) (ha : (a, o) ∈ news) (hb : (b, o') ∈ news) (hc : o.data ≠ o'.data) : @Ne Nat a b := fun q => by
  have h1 := (N _ ha).1
  have h2 := (N _ hb).1
  have q' : (a, o).1 = (b, o').1 := q
  rw [q', h2] at h1
  exact hc (congrArg Obj.data (Option.some.inj h1).symm)
theorem fm8 (a : Int) : 0 ≤ a.fmod 8 ∧ a.fmod 8 < 8 := by rw [Int.fmod_eq_emod_of_nonneg a (by decide)]; omega
theorem SetPost.back {w : World} {W TH S SD DL IN O DD : Nat} {c : Int} {tc : Tok} {hh : Int} {t1 : Tok} {ths : List Nat} {vs : List Value} {ns : List Int} {h₁ h h' : Heap} (P : SetPost w W TH S SD DL IN O DD c tc hh t1 ths vs ns h₁ h') (hf : ∀ b, h₁.get? b = none → h.get? b = none) :
    SetPost w W TH S SD DL IN O DD c tc hh t1 ths vs ns h h' := by
  obtain ⟨oW', IN', DL', n2', n4', vs', is', ns', g1, g2, g3, g4, g5, g6, g7, g8⟩ := P
  exact ⟨oW', IN', DL', n2', n4', vs', is', ns', g1, g2, g3.imp id (hf _), g4, g5, g6, g7.imp id (hf _), g8⟩
theorem fresh_back2 {h₀ h g h₁ : Heap} {L L₁ : Addr} {m₁ : Str → Option Value} {led : List (Addr × Obj)} (_N : News h₀ L h led) (hG : ∀ b o, h.get? b = some o → b ∉ led.map (·.1) → g.get? b = some o) (F₁ : Fr g L₁ h₁ m₁) (hl : ∀ p ∈ led, ∃ o, h₁.get? p.1 = some o) (b : Addr) (hn : h₁.get? b = none) : h.get? b = none := by
  cases q : h.get? b with
  | none => rfl
  | some o =>
    by_cases hm : b ∈ led.map (·.1)
    · obtain ⟨p, hp, rfl⟩ := List.mem_map.mp hm
      obtain ⟨o', e⟩ := hl p hp
      rw [hn] at e; cases e
    · have := F₁.keep _ _ (hG b o q hm)
      rw [hn] at this; cases this
theorem notcell_dict {prog : Program} {w : World} {K : Type} [DecidableEq K] {knd : KeyKind prog w K} {o : Obj} {kvs : List (K × Value)} (h : o.IsDictOf knd kvs) {v : Option Value} (q : o.data = .cell v) : False := by
  obtain ⟨es, ep, _, hd, _⟩ := h
  rw [hd] at q; cases q
theorem notin4 {x a b c d : Nat} (h1 : @Ne Nat x a) (h2 : @Ne Nat x b) (h3 : @Ne Nat x c) (h4 : @Ne Nat x d) : x ∉ ([a, b, c, d] : List Nat) := notin_cons h1 (notin_cons h2 (notin_cons h3 (notin_cons h4 notin_nil)))
theorem ex_of {g h : Heap} {L : Addr} {a b c d : Nat} {o1 o2 o3 o4 : Obj} {led rest : List (Addr × Obj)} (N : News g L h ((a, o1) :: (b, o2) :: (c, o3) :: (d, o4) :: rest)) (hB : ∀ p ∈ led, p.1 ∉ ([a, b, c, d] : List Nat) → p ∈ rest) : ∀ p ∈ led, ∃ o, h.get? p.1 = some o := fun p hp => by
  by_cases q : p.1 ∈ ([a, b, c, d] : List Nat)
  · simp only [List.mem_cons, List.not_mem_nil, or_false] at q
    rcases q with q | q | q | q <;> rw [q]
    · exact ⟨_, (N _ (.head _)).1⟩
    · exact ⟨_, (N _ (in1)).1⟩
    · exact ⟨_, (N _ (in2)).1⟩
    · exact ⟨_, (N _ (in3)).1⟩
  · exact ⟨_, (N p (.tail _ (.tail _ (.tail _ (.tail _ (hB p hp q)))))).1⟩
theorem lt_of4 {D a b c d : Nat} {led rest : List (Addr × Obj)} (h : a < D ∧ b < D ∧ c < D ∧ d < D ∧ AllLt D rest) (hB : ∀ p ∈ led, p.1 ∉ ([a, b, c, d] : List Nat) → p ∈ rest) : ∀ p ∈ led, p.1 ≠ D := fun p hp => by
  by_cases q : p.1 ∈ ([a, b, c, d] : List Nat)
  · simp only [List.mem_cons, List.not_mem_nil, or_false] at q
    obtain ⟨h1, h2, h3, h4, _⟩ := h
    rcases q with q | q | q | q <;> rw [q]
    · exact Nat.ne_of_lt h1
    · exact Nat.ne_of_lt h2
    · exact Nat.ne_of_lt h3
    · exact Nat.ne_of_lt h4
  · exact Nat.ne_of_lt (allLt_mem h.2.2.2.2 p (hB p hp q))
section
local macro_rules | `(tactic| k_all) => `(tactic| first | exact List.forall_mem_nil _ | with_reducible assumption | (refine List.forall_mem_cons.mpr ⟨by k_ne, by k_all⟩))
local macro_rules | `(tactic| walk_at "ite") => `(tactic| first | ((with_reducible refine ieq_neg ?h ?_); (case h => omega)) | ((with_reducible refine ieq_pos ?h ?_); (case h => omega)))
local macro_rules | `(tactic| walk_at "subscriptTail") => `(tactic| (k_here; (try dsimp only); (with_reducible show wpAny _ _ (subscriptTail _ _ (Value.ref _) (Value.int _ _)) _ _ _); k_dflt (refine item_L (by k_asm) (by k_mem) (by assumption) (by assumption) (by assumption) ?_)))
local macro_rules | `(tactic| walk_at "call ref") => `(tactic| (refine hold ?_))
local macro_rules | `(tactic| walk_at "call builtin:list.append") => `(tactic| (refine hold ?_))
local macro_rules | `(tactic| walk_at "call builtin:len") => `(tactic| (refine hold ?_))
local macro_rules | `(tactic| walk_at "compareOp In int ref") => `(tactic| (k_here; k_dflt (refine in_list_ints (by exact News.isList (by k_asm) (by k_mem)) (by with_reducible assumption) ?_)))
local macro_rules | `(tactic| k_mem) => `(tactic| first | exact List.Mem.head _ | with_reducible assumption | (refine' List.Mem.tail _ ?_; k_mem) | assumption)
theorem look_c {w : World} (W TH S SD DL IN O DD x j f SN cW cS cN c' : Nat) (fo oW oCW oCS oCN : Obj) (c : Int) (tc : Tok) (hh : Int) (t1 : Tok) (n2 n3 n4 sm : Nat) (ths : List Nat) (vs is seen : List Value) (ns : List Int) (n : Int) (tk : Tok)
    (hl : vs.length ≤ 8) (hln : ns.length ≤ 8) (hsl : seen.length ≤ 8) (hW : oW.IsDictOf (strKind PySem.Challenge.rw_ac0032_01.row.prog w) (worldKvs TH S IN O DD c tc)) (hi : IntsAre is ns) (hn : 0 ≤ n ∧ n < 1000000)
    (hlen : ths.length = 8) (hnd : ths.Nodup) (hx : ths[j]? = some x) (hV : ValsN vs ths) (hvn : ∀ (k : Int) (x : Nat), 0 ≤ k → k < 8 → (things ths)[k.toNat]? = some (.ref x) → vs.any (· == .ref x) = ns.any (· == k))
    (hlo : TH < W ∧ W < SD ∧ SD < S) (hoff : W ∉ ths ∧ TH ∉ ths ∧ IN ∉ ths ∧ S ∉ ths ∧ SD ∉ ths ∧ DL ∉ ths) (hoff2 : f ∉ ths ∧ SN ∉ ths ∧ cS ∉ ths ∧ cN ∉ ths ∧ cW ∉ ths) (e2 : @Ne Nat DL TH) (e3 : @Ne Nat DL IN) (a1 : @Ne Nat SN TH) (a2 : @Ne Nat SN IN) (a3 : @Ne Nat SN DL)
    (qual : Str) (hfo : IsLook w qual fo c' cW cS cN) (hcW : oCW.data = .cell (some (.ref W))) (hcS : oCS.data = .cell (some (.ref SN))) (hcN : oCN.data = .cell (some (.int n tk))) :
    Claim w 200 1000 f [.ref x] (lookLed f SN cS cN cW fo oCS oCN oCW seen sm ++ worldS W TH IN S SD DL oW ths is vs hh t1 n2 n3 n4) [SN, W, SD, DL] (fun h => StandN ths h ∧ h.CodeRec (.ref c') qual)
      (fun h v h' => (∃ t sm', h'.get? SN = some (listOf (seen ++ [Value.int (j : Int) t]).toArray sm')) ∧ SetPost w W TH S SD DL IN O DD c tc hh t1 ths vs ns h h') := by
  unfold Claim lookLed worldS setLed
  k_fill
  obtain ⟨params, body, scope, doc, pm, ctv, hparts, hfe⟩ := hfo
  have hp := inner_of (by k_is) hparts
  have hfc : fo.cls = .type "function" := by rw [hfe]
  have ho : ∀ r : List (Addr × Obj), (f, fnMade (Str.ofString "look") qual params body scope [(Str.ofString "world", cW), (Str.ofString "seen", cS), (Str.ofString "number", cN)] doc pm c' ctv) ∈ (f, fo) :: r := fun r => by rw [← hfe]; exact .head _
  clear hfe hparts
  dsimp only [innerOf] at hp
  cases hp
  intro dp un gd cn cs a ccd cl outer A₀ base h₀ L m mg mb mean s Q E B F X N T hk hd hu hpre hret
  simp only [List.cons_append, List.nil_append] at N
  refine wpAny_call ?_
  k_dflt (refine' enter_nest (binds := [(Str.ofString "one", .ref x)]) B F X N T rfl rfl hk (ho _) hpre.2 ?hr (BindsTo.of_eq rfl) (locs rfl) ?_ rfl rfl rfl (by decide))
  case hr => exact Nat.lt_of_le_of_lt (Nat.le_add_right _ _) hd
  intro g' L' h' hG hup l1 FG' F' N' B' X' T'
  refine wpAny_hide ?_
  intro QF EF hQF hEF
  k_lt l1
  try dsimp only
  clear ho
  have hC := codeHd_of_K (c := 848) (P := 844) X' (by kernel_rfl)
  obtain ⟨p1, p2, p3, p4, p5, p6⟩ := hoff
  obtain ⟨q1, q2, q3, q4, q5⟩ := hoff2
  obtain ⟨o1, o2, o3⟩ := hlo
  have hX : StandN ths g' := StandN.base hpre.1 hG ((fa11 q1 q2 q3 q4 q5 p1 p2 p3 p4 p5 p6))
  have b2 : @Ne Nat SN W := News.ne N' (a := SN) (b := W) (by k_mem) (by k_mem) (by rw [isDictOf_cls hW]; exact fun q => absurd (Value.type.inj q) (show ¬ ("list" = "dict") by decide))
  have b4 : @Ne Nat SN SD := News.ne N' (a := SN) (b := SD) (by k_mem) (by k_mem) (fun q => absurd (Value.type.inj q) (show ¬ ("list" = "dict") by decide))
  have c1 : @Ne Nat DL W := News.ne N' (a := DL) (b := W) (by k_mem) (by k_mem) (by rw [isDictOf_cls hW]; exact fun q => absurd (Value.type.inj q) (show ¬ ("list" = "dict") by decide))
  have c2 : @Ne Nat DL SD := News.ne N' (a := DL) (b := SD) (by k_mem) (by k_mem) (fun q => absurd (Value.type.inj q) (show ¬ ("list" = "dict") by decide))
  have c3 : @Ne Nat W SD := Nat.ne_of_lt o2
  have N₀ := N'
  obtain ⟨rest, Nr, hT, hB⟩ := News.cut N' [SN, W, SD, DL]
  have r1 : ∀ p ∈ rest, p.1 ≠ SN := fun p hp q => hT p hp (q ▸ .head _)
  have r2 : ∀ p ∈ rest, p.1 ≠ W := fun p hp q => hT p hp (q ▸ in1)
  have r4 : ∀ p ∈ rest, p.1 ≠ DL := fun p hp q => hT p hp (q ▸ in3)
  have mf : (f, _) ∈ rest := hB _ (.head _) (notin4 (News.ne N' (a := f) (b := SN) (by k_mem) (by k_mem) (by rw [hfc]; exact fun q => absurd (Value.type.inj q) (show ¬ ("function" = "list") by decide))) (News.ne N' (a := f) (b := W) (by k_mem) (by k_mem) (by rw [isDictOf_cls hW, hfc]; exact fun q => absurd (Value.type.inj q) (show ¬ ("function" = "dict") by decide))) (News.ne N' (a := f) (b := SD) (by k_mem) (by k_mem) (by rw [hfc]; exact fun q => absurd (Value.type.inj q) (show ¬ ("function" = "dict") by decide))) (News.ne N' (a := f) (b := DL) (by k_mem) (by k_mem) (by rw [hfc]; exact fun q => absurd (Value.type.inj q) (show ¬ ("function" = "list") by decide))))
  have mcS : (cS, oCS) ∈ rest := hB _ (in2) (notin4 (News.neD N' (a := cS) (b := SN) (by k_mem) (by k_mem) (by rw [hcS]; exact fun q => Data.noConfusion q)) (News.neD N' (a := cS) (b := W) (by k_mem) (by k_mem) (by rw [hcS]; exact fun q => (notcell_dict hW q.symm).elim)) (News.neD N' (a := cS) (b := SD) (by k_mem) (by k_mem) (by rw [hcS]; exact fun q => Data.noConfusion q)) (News.neD N' (a := cS) (b := DL) (by k_mem) (by k_mem) (by rw [hcS]; exact fun q => Data.noConfusion q)))
  have mcN : (cN, oCN) ∈ rest := hB _ (in3) (notin4 (News.neD N' (a := cN) (b := SN) (by k_mem) (by k_mem) (by rw [hcN]; exact fun q => Data.noConfusion q)) (News.neD N' (a := cN) (b := W) (by k_mem) (by k_mem) (by rw [hcN]; exact fun q => (notcell_dict hW q.symm).elim)) (News.neD N' (a := cN) (b := SD) (by k_mem) (by k_mem) (by rw [hcN]; exact fun q => Data.noConfusion q)) (News.neD N' (a := cN) (b := DL) (by k_mem) (by k_mem) (by rw [hcN]; exact fun q => Data.noConfusion q)))
  have mcW : (cW, oCW) ∈ rest := hB _ (in4) (notin4 (News.neD N' (a := cW) (b := SN) (by k_mem) (by k_mem) (by rw [hcW]; exact fun q => Data.noConfusion q)) (News.neD N' (a := cW) (b := W) (by k_mem) (by k_mem) (by rw [hcW]; exact fun q => (notcell_dict hW q.symm).elim)) (News.neD N' (a := cW) (b := SD) (by k_mem) (by k_mem) (by rw [hcW]; exact fun q => Data.noConfusion q)) (News.neD N' (a := cW) (b := DL) (by k_mem) (by k_mem) (by rw [hcW]; exact fun q => Data.noConfusion q)))
  have mTH : (TH, listOf (things ths).toArray n3) ∈ rest := hB _ (in6) (notin4 a1.symm (Nat.ne_of_lt o1) (Nat.ne_of_lt (Nat.lt_trans o1 o2)) e2.symm)
  have mIN : (IN, listOf is.toArray n4) ∈ rest := hB _ (in7) (notin4 a2.symm (News.ne N' (a := IN) (b := W) (by k_mem) (by k_mem) (by rw [isDictOf_cls hW]; exact fun q => absurd (Value.type.inj q) (show ¬ ("list" = "dict") by decide))) (News.ne N' (a := IN) (b := SD) (by k_mem) (by k_mem) (fun q => absurd (Value.type.inj q) (show ¬ ("list" = "dict") by decide))) e3.symm)
  have mS : (S, instObj 83 SD) ∈ rest := hB _ (in8) (notin4 (News.ne N' (a := S) (b := SN) (by k_mem) (by k_mem) (fun q => Value.noConfusion q)) (News.ne N' (a := S) (b := W) (by k_mem) (by k_mem) (by rw [isDictOf_cls hW]; exact fun q => Value.noConfusion q)) (Nat.ne_of_gt o3) (News.ne N' (a := S) (b := DL) (by k_mem) (by k_mem) (fun q => Value.noConfusion q)))
  replace N' := News.cons0 (N₀ _ (in1)) (News.cons0 (N₀ _ (in5)) (News.cons0 (N₀ _ (in9)) (News.cons0 (N₀ _ (in10)) Nr)))
  clear N₀ Nr hT
  k_steps
  rename News g' L' _ _ => N₁
  rename Fr g' L' _ _ => F₁
  refine Hold.out (Claim.use (place_c W TH S IN O DD x oW c tc n3 ths j hW hlen hnd hx (by omega) ⟨p1, p2⟩) B' F₁ X' N₁ T' rfl ?_ ?_ ?_ (hX.keeps F₁.keep) ?_)
  · exact (fa2 (by k_mem) (by k_mem))
  · dsimp only [Around.deeper, ktrTop]; first | exact room2 hd (by decide) | exact room2 hu (by decide) | omega
  · dsimp only [Around.deeper, ktrTop]; first | exact room2 hd (by decide) | exact room2 hu (by decide) | omega
  rintro v h₂ tk₂ hk₂ ⟨t, rfl⟩
  have hk3 : ∀ b o, _ → h₂.get? b = some o := fun b o e => hk₂ b o e List.not_mem_nil
  have N₂ := News.keep N₁ hk3
  have F₂ := F₁.keptAll hk3
  clear N₁ F₁ hk₂ hk3
  try dsimp only
  k_steps
  rename News g' L' _ _ => N₁
  rename Fr g' L' _ _ => F₁
  refine Hold.out (append_K F₁ N₁ (by k_upd) ?_ (by show seen.toArray.size ≤ sizeLine; rw [List.size_toArray]; exact fits8 hsl))
  intro h₃ F₃ N₃
  rw [List.push_toArray] at N₃
  clear F₁ N₁
  k_steps
  refine Hold.out (len_list (News.isList (n := sm + 1) (d := none) (sl := #[]) (items := (seen ++ [Value.int (j : Int) t]).toArray) N₃ (by k_mem)) (by rw [List.size_toArray, List.length_append, List.length_cons, List.length_nil]; omega) ?_)
  rw [List.size_toArray, List.length_append, List.length_cons, List.length_nil]
  obtain ⟨k0, k8⟩ := fm8 (n.fdiv 9)
  obtain ⟨xk, hxk⟩ : ∃ xk, ths[((n.fdiv 9).fmod 8).toNat]? = some xk := ⟨_, List.getElem?_eq_getElem (by omega)⟩
  have hxk' : (things ths)[((n.fdiv 9).fmod 8).toNat]? = some (.ref xk) := by rw [List.getElem?_map, hxk]; rfl
  have hxkm : xk ∈ ths := List.mem_of_getElem? hxk
  k_steps
  · rename News g' L' _ _ => N₅
    rename Fr g' L' _ _ => F₅
    have B₅ := fresh_back2 N hG F₅ (ex_of N₅ hB)
    refine Hold.out (Claim.use (put_s W TH S SD DL IN O DD xk oW c tc hh t1 n2 n3 n4 ths vs is ns _ _ hl hln hW hi k0 k8 hxk' hxkm hV (by omega) e2 e3) B' F₅ X' N₅ T' rfl ?_ ?_ ?_ (hX.keeps F₅.keep) ?_)
    · exact (fa6 (by k_mem) (by k_mem) (by k_mem) (by k_mem) (by k_mem) (by k_mem))
    · dsimp only [Around.deeper, ktrTop]; first | exact room2 hd (by decide) | exact room2 hu (by decide) | omega
    · dsimp only [Around.deeper, ktrTop]; first | exact room2 hd (by decide) | exact room2 hu (by decide) | omega
    rintro v h₆ tk₆ hk₆ ⟨rfl, hP⟩
    have F₆ := Fr.turns F₅ N₅ ((fa3 ⟨_, by k_mem⟩ ⟨_, by k_mem⟩ ⟨_, by k_mem⟩)) hk₆
    have hSN := hk₆ _ _ (N₅.get (a := SN) (by k_mem)) (notin_cons b2 (notin_cons b4 (notin_cons a3 notin_nil)))
    have N₆ : News g' L' h₆ [(SN, listOf (seen ++ [Value.int (j : Int) t]).toArray (sm + 1))] := (fa1 ⟨hSN, (N₅ (SN, _) (.head _)).2⟩)
    have K₆ := kept_end (mods := [SN, W, SD, DL]) N hG F₆.keep fun p hp hn => hk₆ _ _ (N₅ p (.tail _ (.tail _ (.tail _ (.tail _ (hB p hp hn)))))).1 fun q => hn (.tail _ q)
    have P₆ := SetPost.back hP B₅
    clear hP hk₆ N₅ F₅ B₅
    k_steps
    refine hQF _ _ ?_
    refine leaveK_ (by assumption) (by assumption) fun _ _ => ?_
    exact hret _ _ _ K₆ ⟨⟨t, sm + 1, hSN⟩, P₆⟩
  · rename News g' L' _ _ => N₅
    rename Fr g' L' _ _ => F₅
    have B₅ := fresh_back2 N hG F₅ (ex_of N₅ hB)
    rename ns.any _ = true => hin
    refine Hold.out (Claim.use (out_s W TH S SD DL IN O DD xk oW c tc hh t1 n2 n3 n4 ths vs is ns _ _ hl hln hW hi k0 k8 hxk' hxkm hV ⟨o1, o2, o3⟩ ⟨p1, p2, p3, p4, p5, p6⟩ ((hvn _ _ k0 k8 hxk').trans hin) hin) B' F₅ X' N₅ T' rfl ?_ ?_ ?_ (hX.keeps F₅.keep) ?_)
    · exact (fa6 (by k_mem) (by k_mem) (by k_mem) (by k_mem) (by k_mem) (by k_mem))
    · dsimp only [Around.deeper, ktrTop]; first | exact room2 hd (by decide) | exact room2 hu (by decide) | omega
    · dsimp only [Around.deeper, ktrTop]; first | exact room2 hd (by decide) | exact room2 hu (by decide) | omega
    rintro v h₆ tk₆ hk₆ ⟨rfl, hP⟩
    have F₆ := Fr.turns F₅ N₅ ((fa3 ⟨_, by k_mem⟩ ⟨_, by k_mem⟩ ⟨_, by k_mem⟩)) hk₆
    have hSN := hk₆ _ _ (N₅.get (a := SN) (by k_mem)) (notin_cons b2 (notin_cons b4 (notin_cons a3 notin_nil)))
    have N₆ : News g' L' h₆ [(SN, listOf (seen ++ [Value.int (j : Int) t]).toArray (sm + 1))] := (fa1 ⟨hSN, (N₅ (SN, _) (.head _)).2⟩)
    have K₆ := kept_end (mods := [SN, W, SD, DL]) N hG F₆.keep fun p hp hn => hk₆ _ _ (N₅ p (.tail _ (.tail _ (.tail _ (.tail _ (hB p hp hn)))))).1 fun q => hn (.tail _ q)
    have P₆ := SetPost.back hP B₅
    clear hP hk₆ N₅ F₅ B₅
    k_steps
    refine hQF _ _ ?_
    refine leaveK_ (by assumption) (by assumption) fun _ _ => ?_
    exact hret _ _ _ K₆ ⟨⟨t, sm + 1, hSN⟩, P₆⟩
  · rename News g' L' _ _ => N₅
    rename Fr g' L' _ _ => F₅
    refine hQF _ _ ?_
    refine leaveK_ (by assumption) (by assumption) fun _ _ => ?_
    exact hret _ _ _ (kept_end N hG F₅.keep fun p hp hn => (N₅ p (.tail _ (.tail _ (.tail _ (.tail _ (hB p hp hn)))))).1) ⟨⟨t, sm + 1, N₅.get (by k_mem)⟩, oW, IN, DL, n2, n4, vs, is, ns, N₅.get (by k_mem), hW, .inl rfl, N₅.get (by k_mem), hi, N₅.get (by k_mem), .inl rfl, e3, N₅.get (by k_mem), .inl ⟨rfl, rfl⟩⟩
  · rename News g' L' _ _ => N₅
    rename Fr g' L' _ _ => F₅
    refine Hold.out (Claim.use (clear_c S SD DL hh t1 n2 vs hl) B' F₅ X' N₅ T' rfl ?_ ?_ ?_ trivial ?_)
    · exact (fa3 (by k_mem) (by k_mem) (by k_mem))
    · dsimp only [Around.deeper, ktrTop]; first | exact room2 hd (by decide) | exact room2 hu (by decide) | omega
    · dsimp only [Around.deeper, ktrTop]; first | exact room2 hd (by decide) | exact room2 hu (by decide) | omega
    rintro v h₆ tk₆ hk₆ ⟨rfl, n', hD⟩
    have F₆ := Fr.turns F₅ N₅ ((fa1 ⟨_, by k_mem⟩)) hk₆
    have hk' : ∀ (b : Nat) o, _ → @Ne Nat b DL → h₆.get? b = some o := fun b o e hb => hk₆ b o e (notin_cons hb notin_nil)
    have N₆ := News.cons0 ⟨hk' _ _ (N₅ (SN, _) (.head _)).1 a3, (N₅ (SN, _) (.head _)).2⟩ (News.cons0 ⟨hk' _ _ (N₅ (W, oW) (in1)).1 c1.symm, (N₅ (W, oW) (in1)).2⟩ (News.cons0 ⟨hk' _ _ (N₅ (SD, _) (in2)).1 c2.symm, (N₅ (SD, _) (in2)).2⟩ (News.cons0 (p := (DL, _)) ⟨hD, (N₅ (DL, _) (in3)).2⟩ fun p hp => ⟨hk' _ _ (N₅ p (.tail _ (.tail _ (.tail _ (.tail _ (hp)))))).1 (r4 p hp), (N₅ p (.tail _ (.tail _ (.tail _ (.tail _ (hp)))))).2⟩)))
    clear N₅ F₅ hk₆ hk'
    k_steps
    rename News g' L' _ _ => N₇
    rename Fr g' L' _ _ => F₇
    rename Obj.IsDictOf _ _ _ => hd₇
    with_reducible rename _ ∧ _ ∧ _ ∧ _ ∧ AllLt _ rest => l9
    refine hQF _ _ ?_
    refine leaveK_ (by assumption) (by assumption) fun _ _ => ?_
    exact hret _ _ _ (kept_end N hG F₇.keep fun p hp hn => (N₇ p (.tail _ (.tail _ (.tail _ (.tail _ (.tail _ (hB p hp hn))))))).1) ⟨⟨t, sm + 1, N₇.get (in1)⟩, _, _, DL, n', 0, [], [], [], N₇.get (in2), hd₇, .inr (not_in_heap hG (N₇.fresh (.head _)) (notin_led (lt_of4 l9 hB))), N₇.get (.head _), .nil, N₇.get (in3), .inl rfl, Nat.ne_of_lt l9.2.2.2.1, N₇.get (in4), .inr (.inr (.inr ⟨rfl, rfl⟩))⟩
  · rename News g' L' _ _ => N₅
    rename Fr g' L' _ _ => F₅
    refine hQF _ _ ?_
    refine leaveK_ (by assumption) (by assumption) fun _ _ => ?_
    exact hret _ _ _ (kept_end N hG F₅.keep fun p hp hn => (N₅ p (.tail _ (.tail _ (.tail _ (.tail _ (hB p hp hn)))))).1) ⟨⟨t, sm + 1, N₅.get (by k_mem)⟩, oW, IN, DL, n2, n4, vs, is, ns, N₅.get (by k_mem), hW, .inl rfl, N₅.get (by k_mem), hi, N₅.get (by k_mem), .inl rfl, e3, N₅.get (by k_mem), .inl ⟨rfl, rfl⟩⟩
  · rename News g' L' _ _ => N₅
    rename Fr g' L' _ _ => F₅
    refine hQF _ _ ?_
    refine leaveK_ (by assumption) (by assumption) fun _ _ => ?_
    exact hret _ _ _ (kept_end N hG F₅.keep fun p hp hn => (N₅ p (.tail _ (.tail _ (.tail _ (.tail _ (hB p hp hn)))))).1) ⟨⟨t, sm + 1, N₅.get (by k_mem)⟩, oW, IN, DL, n2, n4, vs, is, ns, N₅.get (by k_mem), hW, .inl rfl, N₅.get (by k_mem), hi, N₅.get (by k_mem), .inl rfl, e3, N₅.get (by k_mem), .inl ⟨rfl, rfl⟩⟩
end
end Mine
end
section
open PySem PySem.W PyProof.Rows PySem.Calls PySem.Spec PyProof.V
namespace Mine
inductive Txn where
  | none
  | fresh (st : Tst)
  | rows (st : Tst) (t : Tok) (DA nr : Nat) (rs : List Row)
noncomputable def Txn.val : Txn → Value
  | .none => .none
  | .fresh st => .ref st.T
  | .rows st _ _ _ _ => .ref st.T
noncomputable def Txn.led (w : World) (S2 O : Nat) : Txn → List (Addr × Obj)
  | .none => []
  | .fresh st => st.led w S2 active (.ref O) [] 12
  | .rows st t DA nr rs => (DA, listOf (rowVals rs).toArray nr) :: st.led w S2 active (.ref O) [ent w "_data" t (.ref DA)] 13
structure WS where
  W : Nat
  TH : Nat
  S : Nat
  SD : Nat
  DL : Nat
  IN : Nat
  O : Nat
  OD : Nat
  S2 : Nat
  SD2 : Nat
  DL2 : Nat
  DD : Nat
  oW : Obj
  oD : Obj
  c : Int
  tc : Tok
  hh : Int
  h2 : Int
  t1 : Tok
  t4 : Tok
  n2 : Nat
  n3 : Nat
  n4 : Nat
  m2 : Nat
  ths : List Nat
  tl : List (Addr × Obj)
  vs : List Value
  is : List Value
  ns : List Int
  u1 : Tok
  u2 : Tok
  u3 : Tok
  pc : Array Value
  pa : Array Value
  pw : Array Value
  kvs : List (Int × Value)
  txn : Txn
  bag : List (Addr × Obj)
noncomputable def WS.rest (x : WS) (w : World) : List (Addr × Obj) := x.txn.led w x.S2 x.O ++ (x.tl ++ x.bag)
noncomputable abbrev WS.led (x : WS) (w : World) : List (Addr × Obj) :=
  (x.W, x.oW) :: (x.TH, listOf (things x.ths).toArray x.n3) :: (x.IN, listOf x.is.toArray x.n4) :: (x.S, instObj 83 x.SD) :: (x.SD, dictOf [⟨x.hh, .str (Str.ofString "data") x.t1, .ref x.DL⟩] 1) :: (x.DL, listOf x.vs.toArray x.n2) ::
  (x.DD, x.oD) :: (x.O, instObj 814 x.OD) :: (x.OD, dictOf [ent w "explicit" x.u1 (.bool false), ent w "_txn" x.u2 x.txn.val, ent w "_synchs" x.u3 (.ref x.S2)] 3) ::
  (x.S2, instObj 83 x.SD2) :: (x.SD2, dictOf [⟨x.h2, .str (Str.ofString "data") x.t4, .ref x.DL2⟩] 1) :: (x.DL2, listOf ([] : List Value).toArray x.m2) :: (353, tabObj x.pc) :: (505, tabObj x.pa) :: (844, tabObj x.pw) :: x.rest w
noncomputable abbrev lookPos : Pos := { line := 521, col := 4, endLine := 531, endCol := 32 }
noncomputable def LookTab (pw : Array Value) (bag : List (Addr × Obj)) : Prop := pw = #[] ∨ ∃ c' oc vs t, pw = #[rawInt lookPos.line, rawInt lookPos.col, .ref c'] ∧ (c', oc) ∈ bag ∧ oc.data = .fields vs ∧ vs[1]? = some (.str lookQual t)
noncomputable def ThingOk (i : Nat) (j : Nat) (o : Obj) : Prop := if j = 4 ∨ j = 5 then o.cls = .type "dict" else ∃ its n, o = listOf its n ∧ its.size ≤ 2 + i
structure RowsOk (ths : List Nat) (kvs : List (Int × Value)) (bag : List (Addr × Obj)) (rs : List Row) : Prop where
  at_ : ∀ r ∈ rs, ∃ o n, (r.a, o) ∈ bag ∧ o.cls = .type "tuple" ∧ o.data = .seq #[.ref r.x, .ref r.y] n
  xs : ∀ r ∈ rs, r.x ∈ ths
  nd : (rs.map Row.x).Nodup
  agree : ∀ (k : Int) (x : Nat), 0 ≤ k → k < 8 → (things ths)[k.toNat]? = some (.ref x) → valueAt kvs k = ((rs.filter fun r => r.x == x).head?.map fun r => .ref r.y)
noncomputable def Txn.Ok (ths : List Nat) (DL2 : Nat) (kvs : List (Int × Value)) (bag : List (Addr × Obj)) : Txn → Prop
  | .none => kvs = []
  | .fresh st => st.Chain ∧ DL2 < st.TD ∧ kvs = []
  | .rows st _ _ _ rs => st.Chain ∧ DL2 < st.TD ∧ RowsOk ths kvs bag rs
structure WS.Ok (w : World) (i : Nat) (x : WS) : Prop where
  nd : ((x.led w).map (·.1)).Nodup
  hW : x.oW.IsDictOf (strKind PySem.Challenge.rw_ac0032_01.row.prog w) (worldKvs x.TH x.S x.IN x.O x.DD x.c x.tc)
  hD : x.oD.IsDictOf (intKind PySem.Challenge.rw_ac0032_01.row.prog w) x.kvs
  hi : IntsAre x.is x.ns
  lo : 875 < x.TH ∧ x.TH < x.W ∧ x.W < x.SD ∧ x.SD < x.S
  lo2 : 875 < x.OD ∧ x.OD < x.O ∧ x.O < x.SD2 ∧ x.SD2 < x.S2 ∧ x.S2 < x.DL2
  hv : x.vs = x.ns.map fun k => .ref (x.ths.getD k.toNat 0)
  nn : x.ns.Nodup
  nr : ∀ k ∈ x.ns, 0 ≤ k ∧ k < 8
  tn : x.ths.length = 8
  td : x.ths.Nodup
  ta : x.tl.map (·.1) = x.ths
  to : ∀ j p, x.tl[j]? = some p → ThingOk i j p.2
  hc : 0 ≤ x.c ∧ x.c ≤ i
  kl : x.kvs.length ≤ i
  tx : x.txn.Ok x.ths x.DL2 x.kvs x.bag
  pc : TriplesOk x.pc.toList
  pa : TriplesOk x.pa.toList
  pw : LookTab x.pw x.bag
  dm : ((x.DD : Addr) == sysModules) = false
noncomputable def WS.Like (x y : WS) : Prop := y.W = x.W ∧ y.TH = x.TH ∧ y.S = x.S ∧ y.SD = x.SD ∧ y.O = x.O ∧ y.OD = x.OD ∧ y.S2 = x.S2 ∧ y.SD2 = x.SD2 ∧ y.DL2 = x.DL2 ∧ y.ths = x.ths
end Mine
end
section
open PySem PySem.W PyProof.Rows PySem.Calls PySem.Spec PyProof.V
namespace Mine
theorem pigeon {α : Type} [BEq α] [LawfulBEq α] : ∀ {l m : List α}, l.Nodup → (∀ a ∈ l, a ∈ m) → l.length ≤ m.length
  | [], _, _, _ => Nat.zero_le _
  | a :: l, m, nd, hs => by
    have ha := hs a (.head _)
    have nd' := List.nodup_cons.mp nd
    have := pigeon (l := l) (m := m.erase a) nd'.2 fun b hb => (List.mem_erase_of_ne (fun e : b = a => nd'.1 (by rw [← e]; exact hb))).mpr (hs b (.tail _ hb))
    rw [List.length_erase_of_mem ha] at this
    have h0 : 0 < m.length := List.length_pos_of_mem ha
    rw [List.length_cons]; omega
theorem nodup_set {l : List Addr} (h : l.Nodup) : ∀ (i : Nat) (b : Addr), (b ∉ l ∨ l[i]? = some b) → (l.set i b).Nodup := by
  induction l with
  | nil => intro i b _; exact h
  | cons a l ih =>
    intro i b hb
    obtain ⟨h1, h2⟩ := List.nodup_cons.mp h
    cases i with
    | zero =>
      rcases hb with hb | hb
      · exact List.nodup_cons.mpr ⟨fun q => hb (.tail _ q), h2⟩
      · cases hb; exact h
    | succ i =>
      refine List.nodup_cons.mpr ⟨fun q => ?_, ih h2 i b (hb.imp (fun q z => q (.tail _ z)) fun q => q)⟩
      rcases List.mem_or_eq_of_mem_set q with q | q
      · exact h1 q
      · subst q
        rcases hb with hb | hb
        · exact hb (.head _)
        · exact h1 (List.mem_of_getElem? hb)
theorem nd_at {l : List Addr} (h : l.Nodup) {i j : Nat} {a b : Addr} (hi : l[i]? = some a) (hj : l[j]? = some b) (ne : i ≠ j) : @Ne Nat a b := fun q => by
  obtain ⟨h1, h2⟩ := List.getElem?_eq_some_iff.mp hi
  obtain ⟨h3, h4⟩ := List.getElem?_eq_some_iff.mp hj
  have hp := List.pairwise_iff_getElem.mp h
  rcases Nat.lt_or_gt_of_ne ne with l' | l'
  · exact hp i j h1 h3 l' (h2.trans (q.trans h4.symm))
  · exact hp j i h3 h1 l' (h4.trans ((Eq.symm q).trans h2.symm))
theorem nd_rest {l r : List Addr} (h : (l ++ r).Nodup) {a b : Addr} (ha : a ∈ l) (hb : b ∈ r) : @Ne Nat b a := fun q => (List.nodup_append.mp h).2.2 a ha b hb (Eq.symm q)
theorem things_at {ths : List Nat} {k : Int} {x : Nat} (h : (things ths)[k.toNat]? = some (.ref x)) : ths[k.toNat]? = some x := by
  rw [List.getElem?_map] at h
  cases e : ths[k.toNat]? with
  | none => rw [e] at h; cases h
  | some y => rw [e] at h; cases h; rfl
theorem at_things {ths : List Nat} {k : Int} {x : Nat} (h : ths[k.toNat]? = some x) : (things ths)[k.toNat]? = some (.ref x) := by
  rw [List.getElem?_map, h]; rfl
theorem key_eq {ths : List Nat} (tn : ths.length = 8) (td : ths.Nodup) {k n : Int} {x : Nat} (k0 : 0 ≤ k) (n0 : 0 ≤ n) (n8 : n < 8) (h : ths[k.toNat]? = some x) : (ths.getD n.toNat 0 == x) = (n == k) := by
  have hn : ths[n.toNat]? = some (ths.getD n.toNat 0) := by
    rw [List.getD_eq_getElem?_getD]
    cases e : ths[n.toNat]? with
    | none => have := List.getElem?_eq_none_iff.mp e; omega
    | some y => rfl
  by_cases q : n = k
  · subst q
    rw [h] at hn
    rw [← Option.some.inj hn, beq_self_eq_true, beq_self_eq_true]
  · rw [beq_false_of_ne q]
    apply beq_false_of_ne
    have := nd_at (l := ths) td hn h (fun e => q (by omega))
    exact this
theorem any_key {ths : List Nat} (tn : ths.length = 8) (td : ths.Nodup) {k : Int} {x : Nat} (k0 : 0 ≤ k) (h : ths[k.toNat]? = some x) : ∀ {ns : List Int}, (∀ n ∈ ns, 0 ≤ n ∧ n < 8) →
    (ns.map fun k => Value.ref (ths.getD k.toNat 0)).any (· == .ref x) = ns.any (· == k)
  | [], _ => rfl
  | n :: ns, hr => by
    rw [List.map_cons, List.any_cons, List.any_cons, any_key tn td k0 h fun m hm => hr m (.tail _ hm), ref_beq, key_eq tn td k0 (hr n (.head _)).1 (hr n (.head _)).2 h]
theorem filter_key {ths : List Nat} (tn : ths.length = 8) (td : ths.Nodup) {k : Int} {x : Nat} (k0 : 0 ≤ k) (h : ths[k.toNat]? = some x) : ∀ {ns : List Int}, (∀ n ∈ ns, 0 ≤ n ∧ n < 8) →
    (ns.map fun k => Value.ref (ths.getD k.toNat 0)).filter (fun v => !(v == .ref x)) = (ns.filter fun n => n != k).map fun k => Value.ref (ths.getD k.toNat 0)
  | [], _ => rfl
  | n :: ns, hr => by
    have ih := filter_key tn td k0 h (ns := ns) fun m hm => hr m (.tail _ hm)
    have e : (!((Value.ref (ths.getD n.toNat 0)) == Value.ref x)) = (n != k) := by
      rw [ref_beq, key_eq tn td k0 (hr n (.head _)).1 (hr n (.head _)).2 h]; rfl
    rw [List.map_cons, List.filter_cons, List.filter_cons, ih, e]
    cases (n != k) <;> rfl
theorem SetStep.ok {ths : List Nat} {vs vs' : List Value} {ns ns' : List Int} (P : SetStep ths vs ns vs' ns') (tn : ths.length = 8) (td : ths.Nodup) (hv : vs = ns.map fun k => .ref (ths.getD k.toNat 0)) (nn : ns.Nodup) (nr : ∀ k ∈ ns, 0 ≤ k ∧ k < 8) :
    (vs' = ns'.map fun k => .ref (ths.getD k.toNat 0)) ∧ ns'.Nodup ∧ ∀ k ∈ ns', 0 ≤ k ∧ k < 8 := by
  rcases P with ⟨rfl, rfl⟩ | ⟨k, x, k0, k8, hx, rfl, rfl⟩ | ⟨k, x, k0, k8, hx, rfl, rfl⟩ | ⟨rfl, rfl⟩
  · exact ⟨hv, nn, nr⟩
  · have hx' := things_at hx
    have e := any_key tn td k0 hx' nr
    rw [← hv] at e
    rw [e]
    cases q : ns.any (· == k) with
    | true => exact ⟨hv, nn, nr⟩
    | false =>
      simp only [Bool.false_eq_true, if_false]
      refine ⟨?_, ?_, fun m hm => ?_⟩
      · rw [List.map_append, hv, List.map_cons, List.map_nil, List.getD_eq_getElem?_getD, hx']; rfl
      · refine List.nodup_append.mpr ⟨nn, List.nodup_cons.mpr ⟨List.not_mem_nil, .nil⟩, fun a ha b hb => ?_⟩
        rw [List.mem_singleton.mp hb]
        rintro rfl
        have := List.any_eq_false.mp q a ha
        exact this (beq_self_eq_true _)
      · rcases List.mem_append.mp hm with hm | hm
        · exact nr m hm
        · rw [List.mem_singleton.mp hm]; exact ⟨k0, k8⟩
  · have hx' := things_at hx
    refine ⟨by rw [hv]; exact filter_key tn td k0 hx' nr, nn.filter _, fun m hm => nr m (List.mem_filter.mp hm).1⟩
  · exact ⟨rfl, .nil, fun _ h => nomatch h⟩
theorem WS.Ok.vlen {w : World} {i : Nat} {x : WS} (ok : x.Ok w i) : x.ns.length ≤ 8 := by
  have := pigeon (m := [(0 : Int), 1, 2, 3, 4, 5, 6, 7]) ok.nn fun k hk => by
    obtain ⟨h1, h2⟩ := ok.nr k hk
    have : k = 0 ∨ k = 1 ∨ k = 2 ∨ k = 3 ∨ k = 4 ∨ k = 5 ∨ k = 6 ∨ k = 7 := lt8i h1 h2
    simp only [List.mem_cons, List.not_mem_nil, or_false]; exact this
  exact this
theorem WS.Ok.vslen {w : World} {i : Nat} {x : WS} (ok : x.Ok w i) : x.vs.length ≤ 8 := by rw [ok.hv, List.length_map]; exact ok.vlen
theorem RowsOk.len {ths : List Nat} {kvs : List (Int × Value)} {bag : List (Addr × Obj)} {rs : List Row} (R : RowsOk ths kvs bag rs) (tn : ths.length = 8) : rs.length ≤ 8 := by
  have := pigeon R.nd (m := ths) fun a ha => by
    obtain ⟨r, hr, rfl⟩ := List.mem_map.mp ha
    exact R.xs r hr
  rw [List.length_map] at this; omega
theorem WS.Ok.vals {w : World} {i : Nat} {x : WS} (ok : x.Ok w i) : ValsN x.vs x.ths := fun v hv => by
  rw [ok.hv] at hv
  obtain ⟨k, hk, rfl⟩ := List.mem_map.mp hv
  obtain ⟨h1, h2⟩ := ok.nr k hk
  have tn := ok.tn
  refine ⟨_, ?_, rfl⟩
  rw [List.getD_eq_getElem?_getD, List.getElem?_eq_getElem (show k.toNat < x.ths.length by omega)]
  exact List.getElem_mem _
end Mine
end
section
open PySem PySem.W PyProof.Rows PySem.Calls PySem.Spec PyProof.V
namespace Mine
noncomputable def WS.fixA (x : WS) : List Addr := [x.W, x.TH, x.IN, x.S, x.SD, x.DL, x.DD, x.O, x.OD, x.S2, x.SD2, x.DL2, 353, 505, 844]
section
variable {w : World} {t : Nat} {x : WS} {h h' : Heap}
theorem WS.Ok.ne (ok : x.Ok w t) {i j : Nat} {a b : Addr} (hi : x.fixA[i]? = some a) (hj : x.fixA[j]? = some b) (ne : i ≠ j) : @Ne Nat a b :=
  nd_at (List.nodup_append.mp (show (x.fixA ++ (x.rest w).map (·.1)).Nodup from ok.nd)).1 hi hj ne
theorem WS.Ok.rest_ne (ok : x.Ok w t) {i : Nat} {a : Addr} (hi : x.fixA[i]? = some a) {p : Addr × Obj} (hp : p ∈ x.rest w) : @Ne Nat p.1 a :=
  nd_rest (show (x.fixA ++ (x.rest w).map (·.1)).Nodup from ok.nd) (List.mem_of_getElem? hi) (List.mem_map_of_mem hp)
theorem WS.tl_rest {p : Addr × Obj} (hp : p ∈ x.tl) : p ∈ x.rest w := List.mem_append_right _ (List.mem_append_left _ hp)
theorem WS.bag_rest {p : Addr × Obj} (hp : p ∈ x.bag) : p ∈ x.rest w := List.mem_append_right _ (List.mem_append_right _ hp)
theorem WS.txn_rest {p : Addr × Obj} (hp : p ∈ x.txn.led w x.S2 x.O) : p ∈ x.rest w := List.mem_append_left _ hp
theorem WS.rest_led {p : Addr × Obj} (hp : p ∈ x.rest w) : p ∈ x.led w :=
  List.mem_append_right [(x.W, x.oW), (x.TH, listOf (things x.ths).toArray x.n3), (x.IN, listOf x.is.toArray x.n4), (x.S, instObj 83 x.SD), (x.SD, dictOf [⟨x.hh, .str (Str.ofString "data") x.t1, .ref x.DL⟩] 1), (x.DL, listOf x.vs.toArray x.n2), (x.DD, x.oD), (x.O, instObj 814 x.OD), (x.OD, dictOf [ent w "explicit" x.u1 (.bool false), ent w "_txn" x.u2 x.txn.val, ent w "_synchs" x.u3 (.ref x.S2)] 3), (x.S2, instObj 83 x.SD2), (x.SD2, dictOf [⟨x.h2, .str (Str.ofString "data") x.t4, .ref x.DL2⟩] 1), (x.DL2, listOf ([] : List Value).toArray x.m2), (353, tabObj x.pc), (505, tabObj x.pa), (844, tabObj x.pw)] hp
theorem WS.Ok.off (ok : x.Ok w t) {i : Nat} {a : Nat} (hi : x.fixA[i]? = some a) : a ∉ x.ths := fun hm => by
  rw [← ok.ta] at hm
  obtain ⟨p, hp, e⟩ := List.mem_map.mp hm
  exact ok.rest_ne hi (WS.tl_rest hp) e
theorem WS.Ok.thing (ok : x.Ok w t) {a : Nat} (ha : a ∈ x.ths) : ∃ j o, x.tl[j]? = some (a, o) ∧ x.ths[j]? = some a ∧ ThingOk t j o := by
  obtain ⟨j, hj⟩ := List.mem_iff_getElem?.mp ha
  have e := hj
  rw [← ok.ta, List.getElem?_map] at e
  cases q : x.tl[j]? with
  | none => rw [q] at e; cases e
  | some p =>
    rw [q] at e
    have e' : p.1 = a := Option.some.inj e
    exact ⟨j, p.2, by rw [q, ← e'], hj, ok.to j p q⟩
theorem ThingOk.cls {i j : Nat} {o : Obj} (T : ThingOk i j o) : o.cls ≠ .type "tuple" := by
  unfold ThingOk at T
  split at T
  · rw [T]; exact fun q => absurd (Value.type.inj q) (by decide)
  · obtain ⟨its, n, rfl, _⟩ := T
    exact fun q => absurd (Value.type.inj q) (show ¬ ("list" = "tuple") by decide)
theorem WS.Ok.stand (ok : x.Ok w t) (H : Holds h (x.led w)) : StandN x.ths h := fun a ha => by
  obtain ⟨j, o, hj, _, T⟩ := ok.thing ha
  exact ⟨o, H _ (WS.rest_led (WS.tl_rest (List.mem_of_getElem? hj))), T.cls⟩
theorem keep_at {led : List (Addr × Obj)} (nd : (led.map (·.1)).Nodup) {mods : List Addr} (is : List Nat) (hm : ∀ b ∈ mods, ∃ i ∈ is, (led.map (·.1))[i]? = some b) (kept : ∀ p ∈ led, p.1 ∉ mods → h'.get? p.1 = some p.2) {j : Nat} {p : Addr × Obj} (hj : led[j]? = some p) (hn : j ∉ is) : h'.get? p.1 = some p.2 :=
  kept p (List.mem_of_getElem? hj) fun hb => by
    obtain ⟨i, hi, e⟩ := hm _ hb
    exact nd_at nd e (by rw [List.getElem?_map, hj]; rfl) (fun q : i = j => hn (by rw [← q]; exact hi)) rfl
theorem WS.Ok.keep_rest (ok : x.Ok w t) {mods : List Addr} (is : List Nat) (hm : ∀ b ∈ mods, ∃ i ∈ is, x.fixA[i]? = some b) (kept : ∀ p ∈ x.led w, p.1 ∉ mods → h'.get? p.1 = some p.2) : ∀ p ∈ x.rest w, h'.get? p.1 = some p.2 := fun p hp =>
  kept p (WS.rest_led hp) fun hb => by
    obtain ⟨i, hi, e⟩ := hm _ hb
    exact ok.rest_ne e hp rfl
theorem fresh_off {led : List (Addr × Obj)} (H : Holds h led) {b : Addr} (hf : h.get? b = none) : b ∉ led.map (·.1) := fun hm => by
  obtain ⟨p, hp, rfl⟩ := List.mem_map.mp hm
  rw [H p hp] at hf; cases hf
theorem WS.set_goes (ok : x.Ok w t) (H : Holds h (x.led w)) (kept : ∀ p ∈ x.led w, p.1 ∉ ([x.W, x.SD, x.DL] : List Addr) → h'.get? p.1 = some p.2)
    (P : SetPost w x.W x.TH x.S x.SD x.DL x.IN x.O x.DD x.c x.tc x.hh x.t1 x.ths x.vs x.ns h h') :
    Goes (fun led' => ∃ y : WS, led' = y.led w ∧ x.Like y ∧ y.Ok w t ∧ y.bag = x.bag) (x.led w) h h' := by
  obtain ⟨oW', IN', DL', n2', n4', vs', is', ns', g1, g2, g3, g4, g5, g6, g7, g8, g9, g10⟩ := P
  obtain ⟨v1, v2, v3⟩ := g10.ok ok.tn ok.td ok.hv ok.nn ok.nr
  have hm : ∀ b ∈ ([x.W, x.SD, x.DL] : List Addr), ∃ i ∈ [0, 4, 5], ((x.led w).map (·.1))[i]? = some b := (fa3 ⟨0, by decide, rfl⟩ ⟨4, by decide, rfl⟩ ⟨5, by decide, rfl⟩)
  have hm' : ∀ b ∈ ([x.W, x.SD, x.DL] : List Addr), ∃ i ∈ [0, 4, 5], x.fixA[i]? = some b := (fa3 ⟨0, by decide, rfl⟩ ⟨4, by decide, rfl⟩ ⟨5, by decide, rfl⟩)
  have K := fun {j p} => keep_at (h' := h') ok.nd [0, 4, 5] hm kept (j := j) (p := p)
  refine ⟨_, ⟨{ x with oW := oW', IN := IN', DL := DL', n2 := n2', n4 := n4', vs := vs', is := is', ns := ns' }, rfl, ⟨rfl, rfl, rfl, rfl, rfl, rfl, rfl, rfl, rfl, rfl⟩, ?ok, rfl⟩, ?holds, ?fresh⟩
  case holds => exact List.forall_mem_cons.mpr ⟨g1, List.forall_mem_cons.mpr ⟨K (j := 1) rfl (by decide), List.forall_mem_cons.mpr ⟨g4, List.forall_mem_cons.mpr ⟨K (j := 3) rfl (by decide), List.forall_mem_cons.mpr ⟨g6, List.forall_mem_cons.mpr ⟨g9, List.forall_mem_cons.mpr ⟨K (j := 6) rfl (by decide), List.forall_mem_cons.mpr ⟨K (j := 7) rfl (by decide), List.forall_mem_cons.mpr ⟨K (j := 8) rfl (by decide), List.forall_mem_cons.mpr ⟨K (j := 9) rfl (by decide), List.forall_mem_cons.mpr ⟨K (j := 10) rfl (by decide), List.forall_mem_cons.mpr ⟨K (j := 11) rfl (by decide), List.forall_mem_cons.mpr ⟨K (j := 12) rfl (by decide), List.forall_mem_cons.mpr ⟨K (j := 13) rfl (by decide), List.forall_mem_cons.mpr ⟨K (j := 14) rfl (by decide), ok.keep_rest [0, 4, 5] hm' kept⟩⟩⟩⟩⟩⟩⟩⟩⟩⟩⟩⟩⟩⟩⟩
  case fresh =>
    exact List.forall_mem_cons.mpr ⟨.inl (List.mem_of_getElem? (i := 0) rfl), List.forall_mem_cons.mpr ⟨.inl (List.mem_of_getElem? (i := 1) rfl), List.forall_mem_cons.mpr ⟨g3.imp (fun e : IN' = x.IN => by rw [e]; exact List.mem_of_getElem? (i := 2) rfl) id, List.forall_mem_cons.mpr ⟨.inl (List.mem_of_getElem? (i := 3) rfl), List.forall_mem_cons.mpr ⟨.inl (List.mem_of_getElem? (i := 4) rfl), List.forall_mem_cons.mpr ⟨g7.imp (fun e : DL' = x.DL => by rw [e]; exact List.mem_of_getElem? (i := 5) rfl) id, List.forall_mem_cons.mpr ⟨.inl (List.mem_of_getElem? (i := 6) rfl), List.forall_mem_cons.mpr ⟨.inl (List.mem_of_getElem? (i := 7) rfl), List.forall_mem_cons.mpr ⟨.inl (List.mem_of_getElem? (i := 8) rfl), List.forall_mem_cons.mpr ⟨.inl (List.mem_of_getElem? (i := 9) rfl), List.forall_mem_cons.mpr ⟨.inl (List.mem_of_getElem? (i := 10) rfl), List.forall_mem_cons.mpr ⟨.inl (List.mem_of_getElem? (i := 11) rfl), List.forall_mem_cons.mpr ⟨.inl (List.mem_of_getElem? (i := 12) rfl), List.forall_mem_cons.mpr ⟨.inl (List.mem_of_getElem? (i := 13) rfl), List.forall_mem_cons.mpr ⟨.inl (List.mem_of_getElem? (i := 14) rfl), fun p hp => .inl (List.mem_map_of_mem (WS.rest_led hp))⟩⟩⟩⟩⟩⟩⟩⟩⟩⟩⟩⟩⟩⟩⟩
  case ok =>
    refine { ok with nd := ?_, hW := g2, hi := g5, hv := v1, nn := v2, nr := v3 }
    refine nodup_set (nodup_set ok.nd 2 IN' ?_) 5 DL' ?_
    · rcases g3 with rfl | g3
      · exact .inr rfl
      · exact .inl (fresh_off H g3)
    · rcases g7 with rfl | g7
      · exact .inr rfl
      · refine .inl fun hb => ?_
        rcases List.mem_or_eq_of_mem_set hb with q | q
        · exact fresh_off H g7 q
        · exact g8 q
end
end Mine
end
section
open PySem PySem.W PyProof.Rows PySem.Calls PySem.Spec
namespace Mine
theorem def_any2 {M : Model} {A : Around} {E : Value → Shared → Prop} {s : Shared} {h₀ : Heap} {L a c P : Addr} {m mg mb : Str → Option Value} {cn : Str} {cs : Scope} {ccd : Value} {cl : List (Str × Addr)} {news : List (Addr × Obj)} {g : Obj → List (Addr × Obj)}
    {p : Program} {loose : List Str} {mean : ExcName → Option Value} {name qual : Str} {params : Arguments} {body : List Stmt} {scope : Scope} {ps : Array Value} {pos : Pos} {firstLine : Nat} {clos : List (Str × Addr)} {Q : Value → Shared → Prop} (bag : List (Addr × Obj)) (hbag : ∀ p ∈ bag, p ∈ news)
    (F : Fr h₀ L s.heap m) (N : News h₀ L s.heap news) (T : Top p loose mean mg mb h₀) (C : CodeHd h₀ c P) (hcd : ccd = .ref c) (U : UpdF P (tabObj ps) news g)
    (ht : ps = #[] ∨ ∃ c' oc vs t, ps = #[rawInt pos.line, rawInt pos.col, .ref c'] ∧ (c', oc) ∈ bag ∧ c' ≠ P ∧ oc.data = .fields vs ∧ vs[1]? = some (.str qual t))
    (hcl : closureFor scope (envX cn cs L a ccd cl) = pure clos)
    (h : ∀ f c' oc vs t ctv doc h' tk, Fr h₀ L h' m → News h₀ L h' ((f, fnMade name qual params body scope clos doc ((mg "__name__").getD .none) c' ctv) :: (c', oc) :: g (tabObj #[rawInt pos.line, rawInt pos.col, .ref c'])) →
      oc.data = .fields vs → vs[1]? = some (.str qual t) → (∀ q ∈ news, q.1 < f) → ((∀ q ∈ news, q.1 < c') ∨ (c', oc) ∈ bag) → c' < f → Q (.ref f) { s with heap := h', toks := tk }) :
    wpAny M A (makeFunction name qual params (.stmts body) scope (envX cn cs L a ccd cl) [] [] [] pos firstLine) Q E s := by
  rcases ht with rfl | ⟨c', oc, vs, t, rfl, hcb, hcP, hd, hv⟩
  · refine nest_K F N T C hcd U True.intro (by rfl) hcl fun f c' oc vs t ctv doc h' tk F' N' hd hv l1 l2 => ?_
    exact h f c' oc vs t ctv doc h' tk F' N' hd hv (fun q hq => Nat.lt_trans (l1 q hq) l2) (.inl l1) l2
  · have hcm := hbag _ hcb
    obtain ⟨own, rest, rfl, hgr, h1, h2⟩ := U.split
    have hc : s.heap.CodeRec (.ref c') qual := codeRec_news N hcm hd hv
    have hm := N (P, tabObj _) (List.mem_append_right _ (.head _))
    have hgs := T.g.keeps F.keep
    obtain ⟨bm, ob, b1, b2, b3, b4, b5, b6⟩ := T.bmain
    have hbP : bm ≠ P := fun q => by
      have e := F.keep _ _ b3
      rw [q, hm.1] at e; cases e; cases b4
    have hbG : bm ≠ mainGlobals := fun q => by
      obtain ⟨o, es, ep, e, hd, _⟩ := T.g
      rw [q, e] at b3; cases b3; rw [hd] at b6; cases b6
    have hcd2 : codeAmong pos ([rawInt pos.line, rawInt pos.col, .ref c'] : List Value) = some (.ref c') := by
      simp [codeAmong, rawInt]
    refine makeFunction_hit (mg := mg) hcl rfl hgs hcd (C.keeps F.keep) hm.1 (by simp [TriplesOk, rawInt]) hcd2 ⟨bm, ob, b1, b2, hbG, hbP, F.keep _ _ b3, b4, b5, b6⟩ fun ctv doc h' tk hk hsz => ?_
    have hLs : L < h'.objs.size := Nat.lt_of_lt_of_le F.ns.lt hsz
    have fresh : ∀ b, L < b → h₀.get? b = none := fun b hb => Heap.get?_none_of_le (Nat.le_trans F.above (Nat.le_of_lt hb))
    have up : ∀ b o, s.heap.get? b = some o → (h'.push { cls := .type "function", data := .func (fnX name qual params body scope clos .none .none doc ((mg "__name__").getD .none) none (.ref c') ctv) }).get? b = some o := fun b o e => Heap.get?_push_of_some _ (hk b o e)
    refine h h'.objs.size c' oc vs t ctv doc _ tk ⟨(F.ns.keeps hk).push _, fun b o e => up b o (F.keep b o e), F.above⟩ (fun q hq => ?_) hd hv (fun q hq => Nat.lt_of_lt_of_le (Heap.lt_size (N q hq).1) hsz) (.inr hcb) (Nat.lt_of_lt_of_le (Heap.lt_size (N _ hcm).1) hsz)
    rcases List.mem_cons.mp hq with rfl | hq
    · exact ⟨Heap.get?_push_size _ rfl, Nat.ne_of_gt hLs, fresh _ hLs⟩
    · rcases List.mem_cons.mp hq with rfl | hq
      · exact ⟨up _ _ (N _ hcm).1, (N _ hcm).2⟩
      · rw [hgr] at hq
        exact ⟨up _ _ (N q hq).1, (N q hq).2⟩
end Mine
end
section
open PySem PySem.W PyProof.Rows PySem.Calls PySem.Spec PyProof.V
namespace Mine
theorem nodup_ins {A B C D : List Addr} {a : Addr} (h : (A ++ (B ++ (C ++ D))).Nodup) (n : a ∉ A ++ (B ++ (C ++ D))) : (A ++ (B ++ (C ++ a :: D))).Nodup := by
  have e1 : A ++ (B ++ (C ++ a :: D)) = (A ++ (B ++ C)) ++ a :: D := by simp only [List.append_assoc]
  have e2 : A ++ (B ++ (C ++ D)) = (A ++ (B ++ C)) ++ D := by simp only [List.append_assoc]
  rw [e1]
  rw [e2] at h n
  exact (List.perm_middle.nodup_iff).mpr (List.nodup_cons.mpr ⟨n, h⟩)
theorem RowsOk.bag {ths : List Nat} {kvs : List (Int × Value)} {bag bag' : List (Addr × Obj)} {rs : List Row} (R : RowsOk ths kvs bag rs) (h : ∀ p ∈ bag, p ∈ bag') : RowsOk ths kvs bag' rs :=
  ⟨fun r hr => let ⟨o, n, a, b⟩ := R.at_ r hr; ⟨o, n, h _ a, b⟩, R.xs, R.nd, R.agree⟩
theorem Txn.Ok.bag {ths : List Nat} {DL2 : Nat} {kvs : List (Int × Value)} {bag bag' : List (Addr × Obj)} {x : Txn} (R : x.Ok ths DL2 kvs bag) (h : ∀ p ∈ bag, p ∈ bag') : x.Ok ths DL2 kvs bag' := by
  cases x with
  | none => exact R
  | fresh st => exact R
  | rows st t DA nr rs => exact ⟨R.1, R.2.1, R.2.2.bag h⟩
theorem WS.tabbed {w : World} {t : Nat} {x : WS} (ok : x.Ok w t) {c' : Nat} {oc : Obj} {vs : Array Value} {tk : Tok} (hd : oc.data = .fields vs) (hv : vs[1]? = some (.str lookQual tk)) (hn : c' ∉ (x.led w).map (·.1) ∨ (c', oc) ∈ x.bag) :
    ∃ (pw : Array Value) (bag : List (Addr × Obj)), WS.Ok w t { x with pw := pw, bag := bag } ∧ (c', oc) ∈ bag ∧
      ∀ R : Addr × Obj → Prop, (∀ p ∈ x.led w, @Ne Nat p.1 844 → R p) → R (844, tabObj #[rawInt lookPos.line, rawInt lookPos.col, .ref c']) → R (c', oc) → ∀ p ∈ WS.led { x with pw := pw, bag := bag } w, R p := by
  rcases hn with hn | hn
  · refine ⟨#[rawInt lookPos.line, rawInt lookPos.col, .ref c'], (c', oc) :: x.bag, ?_, .head _, fun R hR h8 hc => ?_⟩
    · refine { ok with nd := ?_, tx := ok.tx.bag fun p hp => .tail _ hp, pw := .inr ⟨c', oc, vs, tk, rfl, .head _, hd, hv⟩ }
      have h1 : (x.fixA ++ ((x.txn.led w x.S2 x.O).map (·.1) ++ (x.tl.map (·.1) ++ x.bag.map (·.1)))).Nodup := by
        have := ok.nd
        rw [show (x.led w).map (·.1) = x.fixA ++ (x.rest w).map (·.1) from rfl, WS.rest, List.map_append, List.map_append] at this
        exact this
      have h2 : c' ∉ x.fixA ++ ((x.txn.led w x.S2 x.O).map (·.1) ++ (x.tl.map (·.1) ++ x.bag.map (·.1))) := by
        rw [show (x.led w).map (·.1) = x.fixA ++ (x.rest w).map (·.1) from rfl, WS.rest, List.map_append, List.map_append] at hn
        exact hn
      have h3 := nodup_ins h1 h2
      show (x.fixA ++ (x.txn.led w x.S2 x.O ++ (x.tl ++ (c', oc) :: x.bag)).map (·.1)).Nodup
      rw [List.map_append, List.map_append, List.map_cons]
      exact h3
    · refine List.forall_mem_cons.mpr ⟨hR _ (List.mem_of_getElem? (i := 0) rfl) (ok.ne (i := 0) (j := 14) rfl rfl (by decide)), List.forall_mem_cons.mpr ⟨hR _ (List.mem_of_getElem? (i := 1) rfl) (ok.ne (i := 1) (j := 14) rfl rfl (by decide)), List.forall_mem_cons.mpr ⟨hR _ (List.mem_of_getElem? (i := 2) rfl) (ok.ne (i := 2) (j := 14) rfl rfl (by decide)), List.forall_mem_cons.mpr ⟨hR _ (List.mem_of_getElem? (i := 3) rfl) (ok.ne (i := 3) (j := 14) rfl rfl (by decide)), List.forall_mem_cons.mpr ⟨hR _ (List.mem_of_getElem? (i := 4) rfl) (ok.ne (i := 4) (j := 14) rfl rfl (by decide)), List.forall_mem_cons.mpr ⟨hR _ (List.mem_of_getElem? (i := 5) rfl) (ok.ne (i := 5) (j := 14) rfl rfl (by decide)), List.forall_mem_cons.mpr ⟨hR _ (List.mem_of_getElem? (i := 6) rfl) (ok.ne (i := 6) (j := 14) rfl rfl (by decide)), List.forall_mem_cons.mpr ⟨hR _ (List.mem_of_getElem? (i := 7) rfl) (ok.ne (i := 7) (j := 14) rfl rfl (by decide)), List.forall_mem_cons.mpr ⟨hR _ (List.mem_of_getElem? (i := 8) rfl) (ok.ne (i := 8) (j := 14) rfl rfl (by decide)), List.forall_mem_cons.mpr ⟨hR _ (List.mem_of_getElem? (i := 9) rfl) (ok.ne (i := 9) (j := 14) rfl rfl (by decide)), List.forall_mem_cons.mpr ⟨hR _ (List.mem_of_getElem? (i := 10) rfl) (ok.ne (i := 10) (j := 14) rfl rfl (by decide)), List.forall_mem_cons.mpr ⟨hR _ (List.mem_of_getElem? (i := 11) rfl) (ok.ne (i := 11) (j := 14) rfl rfl (by decide)), List.forall_mem_cons.mpr ⟨hR _ (List.mem_of_getElem? (i := 12) rfl) (ok.ne (i := 12) (j := 14) rfl rfl (by decide)), List.forall_mem_cons.mpr ⟨hR _ (List.mem_of_getElem? (i := 13) rfl) (ok.ne (i := 13) (j := 14) rfl rfl (by decide)), List.forall_mem_cons.mpr ⟨h8, fun p (hp : p ∈ x.txn.led w x.S2 x.O ++ (x.tl ++ (c', oc) :: x.bag)) => ?_⟩⟩⟩⟩⟩⟩⟩⟩⟩⟩⟩⟩⟩⟩⟩
      have hq : p ∈ x.rest w ∨ p = (c', oc) := by
        rcases List.mem_append.mp hp with hp | hp
        · exact .inl (WS.txn_rest hp)
        · rcases List.mem_append.mp hp with hp | hp
          · exact .inl (WS.tl_rest hp)
          · rcases List.mem_cons.mp hp with rfl | hp
            · exact .inr rfl
            · exact .inl (WS.bag_rest hp)
      rcases hq with hq | rfl
      · exact hR p (WS.rest_led hq) (ok.rest_ne (i := 14) rfl hq)
      · exact hc
  · refine ⟨#[rawInt lookPos.line, rawInt lookPos.col, .ref c'], x.bag, { ok with pw := .inr ⟨c', oc, vs, tk, rfl, hn, hd, hv⟩ }, hn, fun R hR h8 hc => ?_⟩
    exact List.forall_mem_cons.mpr ⟨hR _ (List.mem_of_getElem? (i := 0) rfl) (ok.ne (i := 0) (j := 14) rfl rfl (by decide)), List.forall_mem_cons.mpr ⟨hR _ (List.mem_of_getElem? (i := 1) rfl) (ok.ne (i := 1) (j := 14) rfl rfl (by decide)), List.forall_mem_cons.mpr ⟨hR _ (List.mem_of_getElem? (i := 2) rfl) (ok.ne (i := 2) (j := 14) rfl rfl (by decide)), List.forall_mem_cons.mpr ⟨hR _ (List.mem_of_getElem? (i := 3) rfl) (ok.ne (i := 3) (j := 14) rfl rfl (by decide)), List.forall_mem_cons.mpr ⟨hR _ (List.mem_of_getElem? (i := 4) rfl) (ok.ne (i := 4) (j := 14) rfl rfl (by decide)), List.forall_mem_cons.mpr ⟨hR _ (List.mem_of_getElem? (i := 5) rfl) (ok.ne (i := 5) (j := 14) rfl rfl (by decide)), List.forall_mem_cons.mpr ⟨hR _ (List.mem_of_getElem? (i := 6) rfl) (ok.ne (i := 6) (j := 14) rfl rfl (by decide)), List.forall_mem_cons.mpr ⟨hR _ (List.mem_of_getElem? (i := 7) rfl) (ok.ne (i := 7) (j := 14) rfl rfl (by decide)), List.forall_mem_cons.mpr ⟨hR _ (List.mem_of_getElem? (i := 8) rfl) (ok.ne (i := 8) (j := 14) rfl rfl (by decide)), List.forall_mem_cons.mpr ⟨hR _ (List.mem_of_getElem? (i := 9) rfl) (ok.ne (i := 9) (j := 14) rfl rfl (by decide)), List.forall_mem_cons.mpr ⟨hR _ (List.mem_of_getElem? (i := 10) rfl) (ok.ne (i := 10) (j := 14) rfl rfl (by decide)), List.forall_mem_cons.mpr ⟨hR _ (List.mem_of_getElem? (i := 11) rfl) (ok.ne (i := 11) (j := 14) rfl rfl (by decide)), List.forall_mem_cons.mpr ⟨hR _ (List.mem_of_getElem? (i := 12) rfl) (ok.ne (i := 12) (j := 14) rfl rfl (by decide)), List.forall_mem_cons.mpr ⟨hR _ (List.mem_of_getElem? (i := 13) rfl) (ok.ne (i := 13) (j := 14) rfl rfl (by decide)), List.forall_mem_cons.mpr ⟨h8, fun p hp => hR p (WS.rest_led hp) (ok.rest_ne (i := 14) rfl hp)⟩⟩⟩⟩⟩⟩⟩⟩⟩⟩⟩⟩⟩⟩⟩
end Mine
end
section
open PySem PySem.W PyProof.Rows PySem.Calls PySem.Spec PyProof.V
namespace Mine
noncomputable def LookI (w : World) (t : Nat) (y0 : WS) (ns0 : List Int) (c' : Nat) (oc : Obj) (f SN cS cN cW : Nat) (fo oCS oCN oCW : Obj) (i : Nat) (led : List (Addr × Obj)) : Prop :=
  ∃ (y : WS) (seen : List Value) (sm : Nat), led = lookLed f SN cS cN cW fo oCS oCN oCW seen sm ++ y.led w ∧ y0.Like y ∧ y.Ok w t ∧ IntsAre seen (ns0.take i) ∧ (c', oc) ∈ y.bag ∧ ∀ a ∈ [f, SN, cS, cN, cW], a ∉ (y.led w).map (·.1)
theorem ints_app {is : List Value} {ns : List Int} (k : Int) (t : Tok) : IntsAre is ns → IntsAre (is ++ [.int k t]) (ns ++ [k])
  | .nil => .cons k t .nil
  | .cons n u h => .cons n u (ints_app k t h)
theorem look_step {w : World} {t : Nat} {y0 : WS} {ns0 : List Int} {c' : Nat} {oc : Obj} {cvs : Array Value} {ct : Tok} {f SN cS cN cW : Nat} {fo oCS oCN oCW : Obj} {n : Int} {tk : Tok} (hd : oc.data = .fields cvs) (hv : cvs[1]? = some (.str lookQual ct)) (hfo : IsLook w lookQual fo c' cW cS cN)
    (hcW : oCW.data = .cell (some (.ref y0.W))) (hcS : oCS.data = .cell (some (.ref SN))) (hcN : oCN.data = .cell (some (.int n tk))) (hn : 0 ≤ n ∧ n < 1000000) (hns : ∀ k ∈ ns0, 0 ≤ k ∧ k < 8) (hl0 : ns0.length ≤ 8) {i : Nat} {v : Value} {led : List (Addr × Obj)}
    (hvi : (ns0.map fun k => Value.ref (y0.ths.getD k.toNat 0))[i]? = some v) (I : LookI w t y0 ns0 c' oc f SN cS cN cW fo oCS oCN oCW i led) :
    Claim w 200 1000 f [v] led (led.map (·.1)) (fun _ => True) (fun h _ h' => Goes (LookI w t y0 ns0 c' oc f SN cS cN cW fo oCS oCN oCW (i + 1)) led h h') := by
  obtain ⟨y, seen, sm, rfl, lk, ok, hs, hb, ap⟩ := I
  obtain ⟨l1, l2, l3, l4, l5, l6, l7, l8, l9, l10⟩ := lk
  rw [← l1] at hcW
  rw [← l10] at hvi
  rw [List.getElem?_map] at hvi
  obtain ⟨k, hk⟩ : ∃ k, ns0[i]? = some k := by
    cases e : ns0[i]? with
    | none => rw [e] at hvi; cases hvi
    | some k => exact ⟨k, rfl⟩
  rw [hk] at hvi
  cases hvi
  obtain ⟨k0, k8⟩ := hns k (List.mem_of_getElem? hk)
  have hx : y.ths[k.toNat]? = some (y.ths.getD k.toNat 0) := by
    rw [List.getD_eq_getElem?_getD]
    cases e : y.ths[k.toNat]? with
    | none => have := List.getElem?_eq_none_iff.mp e; have := ok.tn; omega
    | some z => rfl
  have hsl : seen.length ≤ 8 := by rw [hs.length, List.length_take]; omega
  have apS : ∀ a ∈ [f, SN, cS, cN, cW], ∀ p ∈ y.led w, @Ne Nat a p.1 := fun a ha p hp e => ap a ha (by rw [e]; exact List.mem_map_of_mem hp)
  have thm : ∀ a ∈ [f, SN, cS, cN, cW], a ∉ y.ths := fun a ha hm => by
    rw [← ok.ta] at hm
    obtain ⟨p, hp, e⟩ := List.mem_map.mp hm
    exact apS a ha p (WS.rest_led (WS.tl_rest hp)) e.symm
  have a4 := fun j p (hj : (y.led w)[j]? = some p) => apS SN in1 p (List.mem_of_getElem? hj)
  refine (look_c y.W y.TH y.S y.SD y.DL y.IN y.O y.DD _ k.toNat f SN cW cS cN c' fo y.oW oCW oCS oCN y.c y.tc y.hh y.t1 y.n2 y.n3 y.n4 sm y.ths y.vs y.is seen y.ns n tk ok.vslen ok.vlen hsl ok.hW ok.hi hn ok.tn ok.td hx ok.vals
    (fun k' x' h0 h8 h => by rw [ok.hv]; exact any_key ok.tn ok.td h0 (things_at h) ok.nr) ok.lo.2 ⟨ok.off (i := 0) rfl, ok.off (i := 1) rfl, ok.off (i := 2) rfl, ok.off (i := 3) rfl, ok.off (i := 4) rfl, ok.off (i := 5) rfl⟩
    ⟨thm f in0, thm SN in1, thm cS in2, thm cN in3, thm cW in4⟩ (ok.ne (i := 5) (j := 1) rfl rfl (by decide)) (ok.ne (i := 5) (j := 2) rfl rfl (by decide)) (a4 1 _ rfl) (a4 2 _ rfl) (a4 5 _ rfl) lookQual hfo hcW hcS hcN).wk ?sub ?mods ?pre ?post
  case sub =>
    intro p hp
    rcases List.mem_append.mp hp with hp | hp
    · exact List.mem_append_left _ hp
    · have z : ∀ p ∈ worldS y.W y.TH y.IN y.S y.SD y.DL y.oW y.ths y.is y.vs y.hh y.t1 y.n2 y.n3 y.n4, p ∈ lookLed f SN cS cN cW fo oCS oCN oCW seen sm ++ y.led w := (fa6 (List.mem_append_right _ (List.mem_of_getElem? (i := 0) rfl)) (List.mem_append_right _ (List.mem_of_getElem? (i := 1) rfl)) (List.mem_append_right _ (List.mem_of_getElem? (i := 2) rfl)) (List.mem_append_right _ (List.mem_of_getElem? (i := 3) rfl)) (List.mem_append_right _ (List.mem_of_getElem? (i := 4) rfl)) (List.mem_append_right _ (List.mem_of_getElem? (i := 5) rfl)))
      exact z p hp
  case mods =>
    have : ∀ p ∈ [(SN, listOf seen.toArray sm), (y.W, y.oW), (y.SD, dictOf [⟨y.hh, .str (Str.ofString "data") y.t1, .ref y.DL⟩] 1), (y.DL, listOf y.vs.toArray y.n2)], p ∈ lookLed f SN cS cN cW fo oCS oCN oCW seen sm ++ y.led w :=
      (fa4 (in1) (List.mem_append_right _ (List.mem_of_getElem? (i := 0) rfl)) (List.mem_append_right _ (List.mem_of_getElem? (i := 4) rfl)) (List.mem_append_right _ (List.mem_of_getElem? (i := 5) rfl)))
    intro b hb
    exact ((fa4 (List.mem_map_of_mem (this _ (.head _))) (List.mem_map_of_mem (this _ (in1))) (List.mem_map_of_mem (this _ (in2))) (List.mem_map_of_mem (this _ (in3)))) : ∀ b ∈ ([SN, y.W, y.SD, y.DL] : List Addr), b ∈ (lookLed f SN cS cN cW fo oCS oCN oCW seen sm ++ y.led w).map (·.1)) b hb
  case pre =>
    intro h H _
    have Hy : Holds h (y.led w) := fun p hp => H p (List.mem_append_right _ hp)
    exact ⟨ok.stand Hy, c', oc, cvs, ct, rfl, Hy _ (WS.rest_led (WS.bag_rest hb)), hd, hv⟩
  case post =>
    rintro h v h' H _ kept ⟨⟨u, sm', hSN⟩, P⟩
    have Hy : Holds h (y.led w) := fun p hp => H p (List.mem_append_right _ hp)
    have Hk : ∀ p ∈ y.led w, p.1 ∉ ([y.W, y.SD, y.DL] : List Addr) → h'.get? p.1 = some p.2 := fun p hp hn' => kept _ _ (Hy p hp) (notin_cons (apS SN in1 p hp).symm hn')
    obtain ⟨_, ⟨z, rfl, lz, okz, bz⟩, Hz, fz⟩ := WS.set_goes ok Hy Hk P
    obtain ⟨m1, m2, m3, m4, m5, m6, m7, m8, m9, m10⟩ := lz
    have nS : ∀ a ∈ [f, cS, cN, cW], @Ne Nat a SN := fun a ha => by
      simp only [List.mem_cons, List.not_mem_nil, or_false] at ha
      obtain ⟨params, bodyL, scope, doc, pm, ctv, _, rfl⟩ := hfo
      have hSNm := H (SN, listOf seen.toArray sm) (in1)
      rcases ha with rfl | rfl | rfl | rfl
      · exact Holds.ne H (.head _) (in1) (fun q => absurd (Value.type.inj q) (show ¬ ("function" = "list") by decide))
      · rintro rfl
        have := H (a, oCS) in2
        rw [hSNm] at this
        cases this; cases hcS
      · rintro rfl
        have := H (a, oCN) in3
        rw [hSNm] at this
        cases this; cases hcN
      · rintro rfl
        have := H (a, oCW) in4
        rw [hSNm] at this
        cases this; cases hcW
    have keepA : ∀ a o, a ∈ [f, cS, cN, cW] → (a, o) ∈ lookLed f SN cS cN cW fo oCS oCN oCW seen sm → h'.get? a = some o := fun a o ha hm => by
      have ha' : a ∈ [f, SN, cS, cN, cW] := (List.mem_cons.mp ha).elim (fun e => e ▸ .head _) fun q => .tail _ (.tail _ q)
      have b4 := fun j p (hj : (y.led w)[j]? = some p) => apS a ha' p (List.mem_of_getElem? hj)
      exact kept a o (H (a, o) (List.mem_append_left _ hm)) (notin_cons (nS a ha) (notin_cons (b4 0 _ rfl) (notin_cons (b4 4 _ rfl) (notin_cons (b4 5 _ rfl) notin_nil))))
    refine ⟨_, ⟨z, seen ++ [Value.int ((k.toNat : Nat) : Int) u], sm', rfl, ⟨m1.trans l1, m2.trans l2, m3.trans l3, m4.trans l4, m5.trans l5, m6.trans l6, m7.trans l7, m8.trans l8, m9.trans l9, m10.trans l10⟩, okz, ?_, bz ▸ hb, ?_⟩, ?_, ?_⟩
    · have e : ns0.take (i + 1) = ns0.take i ++ [((k.toNat : Nat) : Int)] := by
        rw [List.take_add_one, hk, show ((k.toNat : Nat) : Int) = k by omega]; rfl
      rw [e]
      exact ints_app _ u hs
    · intro a ha hm
      obtain ⟨p, hp, e⟩ := List.mem_map.mp hm
      rcases fz p hp with q | q
      · exact ap a ha (e ▸ q)
      · have : ∃ o, h.get? a = some o := by
          simp only [List.mem_cons, List.not_mem_nil, or_false] at ha
          rcases ha with rfl | rfl | rfl | rfl | rfl
          · exact ⟨_, H _ (.head _)⟩
          · exact ⟨_, H _ (in1)⟩
          · exact ⟨_, H _ (in2)⟩
          · exact ⟨_, H _ (in3)⟩
          · exact ⟨_, H _ (in4)⟩
        obtain ⟨o, e'⟩ := this
        rw [e] at q
        rw [q] at e'; cases e'
    · intro p hp
      rcases List.mem_append.mp hp with hp | hp
      · have zz : ∀ p ∈ lookLed f SN cS cN cW fo oCS oCN oCW (seen ++ [Value.int ((k.toNat : Nat) : Int) u]) sm', h'.get? p.1 = some p.2 := (fa5 (keepA f fo (by simp) (.head _)) hSN (keepA cS oCS (by simp) (in2)) (keepA cN oCN (by simp) (in3)) (keepA cW oCW (by simp) (in4)))
        exact zz p hp
      · exact Hz p hp
    · intro p hp
      rcases List.mem_append.mp hp with hp | hp
      · refine .inl ?_
        rw [List.map_append]
        refine List.mem_append_left _ ?_
        exact List.mem_map_of_mem (f := (·.1)) hp
      · refine (fz p hp).imp (fun q => ?_) id
        rw [List.map_append]
        exact List.mem_append_right _ q
end Mine
end
section
open PySem PySem.W PyProof.Rows PySem.Calls PySem.Spec PyProof.V
namespace Mine
theorem News.cut' {h₀ h : Heap} {L : Addr} {led : List (Addr × Obj)} (N : News h₀ L h led) (mods : List Nat) : ∃ rest : List (Addr × Obj), News h₀ L h rest ∧ (∀ p ∈ rest, p ∈ led) ∧ (∀ p ∈ rest, p.1 ∉ mods) ∧ (∀ p ∈ led, p.1 ∉ mods → p ∈ rest) :=
  ⟨led.filter (fun p => decide (p.1 ∉ mods)), fun p hp => N p (List.mem_filter.mp hp).1, fun _ hp => (List.mem_filter.mp hp).1, fun _ hp => of_decide_eq_true (List.mem_filter.mp hp).2, fun _ hp h => List.mem_filter.mpr ⟨hp, decide_eq_true h⟩⟩
noncomputable abbrev WS.fix14 (x : WS) (w : World) : List (Addr × Obj) :=
  [(x.W, x.oW), (x.TH, listOf (things x.ths).toArray x.n3), (x.IN, listOf x.is.toArray x.n4), (x.S, instObj 83 x.SD), (x.SD, dictOf [⟨x.hh, .str (Str.ofString "data") x.t1, .ref x.DL⟩] 1), (x.DL, listOf x.vs.toArray x.n2),
  (x.DD, x.oD), (x.O, instObj 814 x.OD), (x.OD, dictOf [ent w "explicit" x.u1 (.bool false), ent w "_txn" x.u2 x.txn.val, ent w "_synchs" x.u3 (.ref x.S2)] 3),
  (x.S2, instObj 83 x.SD2), (x.SD2, dictOf [⟨x.h2, .str (Str.ofString "data") x.t4, .ref x.DL2⟩] 1), (x.DL2, listOf ([] : List Value).toArray x.m2), (353, tabObj x.pc), (505, tabObj x.pa)]
theorem WS.mem14 {x : WS} {w : World} {p : Addr × Obj} (hp : p ∈ x.led w) (ne : @Ne Nat p.1 844) (o : Obj) : p ∈ x.fix14 w ++ (844, o) :: x.rest w := by
  have hp' : p ∈ x.fix14 w ++ (844, tabObj x.pw) :: x.rest w := hp
  rcases List.mem_append.mp hp' with q | q
  · exact List.mem_append_left _ q
  · rcases List.mem_cons.mp q with rfl | q
    · exact absurd rfl ne
    · exact List.mem_append_right _ (.tail _ q)
theorem LookI.start {w : World} {t : Nat} {y0 : WS} {c' : Nat} {oc : Obj} {f SN cS cN cW : Nat} {fo oCS : Obj} (_hfo : IsLook w lookQual fo c' cW cS cN) (_dS : oCS.data = .cell (some (.ref SN))) (ok0 : y0.Ok w t) (hb0 : (c', oc) ∈ y0.bag)
    (ap : ∀ a ∈ [f, SN, cS, cN, cW], a ∉ (y0.led w).map (·.1)) (oCN oCW : Obj) (ns0 : List Int) : LookI w t y0 ns0 c' oc f SN cS cN cW fo oCS oCN oCW 0 (lookLed f SN cS cN cW fo oCS oCN oCW [] 0 ++ y0.led w) :=
  ⟨y0, [], 0, rfl, ⟨rfl, rfl, rfl, rfl, rfl, rfl, rfl, rfl, rfl, rfl⟩, ok0, .nil, hb0, ap⟩
theorem LookI.fn {w : World} {t : Nat} {y0 : WS} {ns0 : List Int} {c' : Nat} {oc : Obj} {f SN cS cN cW : Nat} {fo oCS oCN oCW : Obj} {i : Nat} {led : List (Addr × Obj)} (hfo : IsLook w lookQual fo c' cW cS cN) (I : LookI w t y0 ns0 c' oc f SN cS cN cW fo oCS oCN oCW i led) :
    ∃ oc od fd sl, (f, (⟨oc, od, .func fd, sl⟩ : Obj)) ∈ led := by
  obtain ⟨params, body, scope, doc, pm, ctv, _, rfl⟩ := hfo
  obtain ⟨y, seen, sm, rfl, _⟩ := I
  exact ⟨_, _, _, _, .head _⟩
theorem isLook_news {w : World} {g h : Heap} {L f c' cW cS cN : Addr} {params : Arguments} {body : List Stmt} {scope : Scope} {doc pm ctv : Value} {r : List (Addr × Obj)} {o : Obj}
    (_N : News g L h ((f, fnMade (Str.ofString "look") lookQual params body scope [(Str.ofString "world", cW), (Str.ofString "seen", cS), (Str.ofString "number", cN)] doc pm c' ctv) :: r))
    (hk : (Mine.K39 w.params).lookup 849 = some o) (h : innerOf (some o) = some (params, body, scope)) :
    IsLook w lookQual (fnMade (Str.ofString "look") lookQual params body scope [(Str.ofString "world", cW), (Str.ofString "seen", cS), (Str.ofString "number", cN)] doc pm c' ctv) c' cW cS cN := ⟨params, body, scope, doc, pm, ctv, by rw [hk]; exact h, rfl⟩
section
local macro_rules | `(tactic| walk_at "call ref") => `(tactic| (refine hold ?_))
local macro_rules | `(tactic| walk_at "subscriptTail") => `(tactic| (k_here; (with_reducible show wpAny _ _ (subscriptTail _ _ (Value.ref _) (Value.str _ _)) _ _ _); k_dflt (refine kda_item (knd := PySem.strKind _ _) (by k_asm) (by k_mem) (by assumption) (strKind_is _ _ _ _) rfl ?_)))
local macro_rules | `(tactic| k_all) => `(tactic| with_reducible assumption)
local macro_rules | `(tactic| walk_at "compareOp Eq ref ref") => `(tactic| (refine hold ?_))
local macro_rules | `(tactic| walk_at "call type:list") => `(tactic| (refine hold ?_))
local macro_rules | `(tactic| walk_at "exec FunctionDef") => `(tactic| (refine hold ?_))
local macro_rules | `(tactic| k_mem) => `(tactic| first | exact List.Mem.head _ | with_reducible assumption | (refine' List.Mem.tail _ ?_; k_mem) | assumption)
theorem walked_c {w : World} {t : Nat} (x : WS) (ok : x.Ok w t) (n : Int) (tk : Tok) (hn : 0 ≤ n ∧ n < 1000000) :
    Claim w 400 2000 849 [.ref x.W, .int n tk] (x.led w) ((x.led w).map (·.1)) (fun _ => True) (fun h v h' => v = .bool true ∧ Goes (fun led' => ∃ y : WS, led' = y.led w ∧ x.Like y ∧ y.Ok w t) (x.led w) h h') := by
  unfold Claim
  k_fill
  intro dp un gd cn cs a ccd cl outer A₀ base h₀ L m mg mb mean s Q E B F X N T hk hd hu _ hret
  refine wpAny_call ?_
  k_dflt (refine' enter_cells (binds := [(Str.ofString "world", .ref x.W), (Str.ofString "number", .int n tk)]) B F X N T rfl rfl hk (by k_is) (by k_is) ?hr (BindsTo.of_eq rfl) ?kB ?kD ?_ rfl rfl rfl)
  case hr => exact Nat.lt_of_le_of_lt (Nat.le_add_right _ _) hd
  case kB => exact rfl
  case kD => decide +kernel
  intro g' L' h' tk' cells' hG hup l1 FG' F' N' Y' B' X' T'
  refine wpAny_hide ?_
  intro QF EF hQF hEF
  have hG' : ∀ b o, s.heap.get? b = some o → b ∉ (x.led w).map (·.1) → g'.get? b = some o := hG
  clear hG
  have hlt : Hold (∀ p ∈ x.led w, p.1 < L') := l1
  k_cells Y'
  rename_i oS0 oCN oCW dS0 dN dW
  have dN' : oCN.data = .cell (some (.int n tk)) := dN
  have dW' : oCW.data = .cell (some (.ref x.W)) := dW
  simp only [List.cons_append, List.nil_append] at N'
  try dsimp only
  have hW := ok.hW
  have hC := codeHd_of_K (c := 848) (P := 844) X' (by kernel_rfl)
  have h844 : @LT.lt Nat _ 844 L' := hlt (844, tabObj x.pw) (List.mem_of_getElem? (i := 14) rfl)
  obtain ⟨rest, Nr, hS, hT, hB⟩ := News.cut' (News.sub N' fun p hp => .tail _ (.tail _ (.tail _ hp)) : News g' L' h' (x.led w)) [844]
  have hr4 : ∀ p ∈ rest, p.1 ≠ 844 := fun p hp q => hT p hp (q ▸ .head _)
  have hrs : ∀ p ∈ rest, p.1 ≠ L' + 1 + 1 + 1 := fun p hp q => by
    have z := hlt p (hS p hp)
    rw [show p.1 = L' + 1 + 1 + 1 from q] at z
    exact absurd z (Nat.not_lt.mpr (Nat.le_trans (Nat.le_add_right L' 3) (Nat.le_refl _)))
  have mW : (x.W, x.oW) ∈ rest := hB _ (List.mem_of_getElem? (i := 0) rfl) (notin_cons (ok.ne (i := 0) (j := 14) rfl rfl (by decide)) notin_nil)
  have mI : (x.IN, listOf x.is.toArray x.n4) ∈ rest := hB _ (List.mem_of_getElem? (i := 2) rfl) (notin_cons (ok.ne (i := 2) (j := 14) rfl rfl (by decide)) notin_nil)
  have mS : (x.S, instObj 83 x.SD) ∈ rest := hB _ (List.mem_of_getElem? (i := 3) rfl) (notin_cons (ok.ne (i := 3) (j := 14) rfl rfl (by decide)) notin_nil)
  have mD : (x.SD, dictOf [⟨x.hh, .str (Str.ofString "data") x.t1, .ref x.DL⟩] 1) ∈ rest := hB _ (List.mem_of_getElem? (i := 4) rfl) (notin_cons (ok.ne (i := 4) (j := 14) rfl rfl (by decide)) notin_nil)
  replace N' := News.cons0 (N' _ (.head _)) (News.cons0 (N' _ (in1)) (News.cons0 (N' _ (in2)) (News.cons0 (p := (844, tabObj x.pw)) (N' _ (.tail _ (.tail _ (.tail _ (List.mem_of_getElem? (i := 14) rfl))))) Nr)))
  clear Nr hT
  k_steps
  rename_i SN h₁ F₁ N₁ lS
  refine Hold.out (list_copyK F₁ N₁ (News.isList (n := x.n4) (d := none) (sl := #[]) (items := x.is.toArray) N₁ (by k_mem)) ?_ (by rw [List.size_toArray, ok.hi.length]; exact fits8 ok.vlen))
  intro BG cb h₂ F₂ N₂ l₂
  k_lt l₂
  clear F₁ N₁
  k_steps
  rename News g' L' _ _ => N₁
  rename Fr g' L' _ _ => F₁
  refine Hold.out (nestDef_K rfl rfl rfl ?_)
  have ht : x.pw = #[] ∨ ∃ c' oc vs t, x.pw = #[rawInt lookPos.line, rawInt lookPos.col, .ref c'] ∧ (c', oc) ∈ x.bag ∧ oc.data = .fields vs ∧ vs[1]? = some (.str lookQual t) := ok.pw
  k_dflt (refine' def_any2 (qual := lookQual) x.bag (fun p hp => .tail _ (.tail _ (.tail _ (.tail _ (.tail _ (.tail _ (.tail _ (hB _ (WS.rest_led (WS.bag_rest hp)) (notin_cons (ok.rest_ne (i := 14) rfl (WS.bag_rest hp)) notin_nil))))))))) F₁ N₁ T' hC rfl (.tail (by k_ne) (.tail (by k_ne) (.tail (by k_ne) (.tail (by k_ne) (.tail (by k_ne) (.tail (by k_ne) (.head hr4))))))) ?tab rfl ?_)
  case tab =>
    refine ht.imp id fun ⟨c', oc, vs, t, e, hb, hd, hv⟩ => ⟨c', oc, vs, t, e, hb, ok.rest_ne (i := 14) rfl (WS.bag_rest hb), hd, hv⟩
  intro f c' oc cvs ct ctv doc h₃ tk₃ F₃ N₃ hd₃ hv₃ l₃ m₃ lc₃
  try dsimp only at N₃
  clear F₁ N₁
  k_lt l₃
  k_steps
  rename News g' L' _ _ => N₅
  rename Fr g' L' _ _ => F₅
  rename _ = Data.cell (some (Value.ref SN)) => dS
  have hlt' : ∀ p ∈ x.led w, p.1 < L' := hlt
  obtain ⟨o1, o2, o3, o4, o5, o6, o7, _⟩ := l₃
  obtain ⟨q1, q2, q3, _⟩ := lS
  obtain ⟨r1, r2, r3, r4, _⟩ := l₂
  have hnew : (∀ p ∈ x.led w, p.1 < c') ∧ L' + 1 + 1 + 1 < c' ∧ L' + 1 + 1 < c' ∧ L' + 1 < c' ∧ SN < c' ∧ BG < c' ∨ (c', oc) ∈ x.bag := m₃.imp (fun z => ⟨fun p hp => if e : p.1 = 844 then (show @LT.lt Nat _ p.1 c' from e.symm ▸ z (844, tabObj x.pw) (in6)) else z p (.tail _ (.tail _ (.tail _ (.tail _ (.tail _ (.tail _ (.tail _ (hB p hp (notin_cons e notin_nil))))))))), z _ (in3), z _ (in4), z _ (in5), z _ (in2), z _ (in1)⟩) id
  obtain ⟨pw, bag, ok0, hb0, R0⟩ := WS.tabbed ok hd₃ hv₃ (hnew.imp (fun z hm => by
    obtain ⟨p, hp, e⟩ := List.mem_map.mp hm
    have := z.1 p hp
    rw [e] at this
    exact absurd this (Nat.lt_irrefl _)) id)
  have ny : News g' L' _ (WS.led { x with pw := pw, bag := bag } w) := R0 (fun p => _) (fun p hp ne => N₅ p (.tail _ (.tail _ (.tail _ (.tail _ (.tail _ (.tail _ (.tail _ (.tail _ (.tail _ (hB p hp (notin_cons ne notin_nil)))))))))))) (N₅ _ (in8)) (N₅ _ (in1))
  have n0 : News g' L' _ (lookLed f SN (L' + 1 + 1 + 1) (L' + 1 + 1) (L' + 1) _ _ oCN oCW [] 0) := (fa5 (N₅ _ (.head _)) (N₅ (SN, listOf #[] 0) (in4)) (N₅ _ (in5)) (N₅ (L' + 1 + 1, oCN) (in6)) (N₅ (L' + 1, oCW) (in7)))
  have nall := News.append n0 ny
  have keyR : ∀ p ∈ WS.led { x with pw := pw, bag := bag } w, @LT.lt Nat _ p.1 L' ∨ @Eq Nat p.1 c' :=
    R0 (fun p => @LT.lt Nat _ p.1 L' ∨ @Eq Nat p.1 c') (fun p hp _ => .inl (hlt' p hp)) (.inl (hlt' (844, tabObj x.pw) (List.mem_of_getElem? (i := 14) rfl))) (.inr rfl)
  have ap : ∀ a ∈ ([f, SN, L' + 1 + 1 + 1, L' + 1 + 1, L' + 1] : List Addr), a ∉ (WS.led { x with pw := pw, bag := bag } w).map (·.1) := fun a ha hm => by
    obtain ⟨p, hp, e⟩ := List.mem_map.mp hm
    have kp := keyR p hp
    have e' : @Eq Nat p.1 a := e
    have kc : @LT.lt Nat _ c' L' ∨ (@LT.lt Nat _ (L' + 1 + 1 + 1) c' ∧ @LT.lt Nat _ SN c') := hnew.elim (fun z => .inr ⟨z.2.1, z.2.2.2.2.1⟩) fun z => .inl (hlt' _ (WS.rest_led (WS.bag_rest z)))
    simp only [List.mem_cons, List.not_mem_nil, or_false] at ha
    rw [e'] at kp
    clear e' e hm hp ny nall n0 N₅ F₅ R0
    have lc4 : @LT.lt Nat _ c' f := lc₃
    rcases ha with rfl | rfl | rfl | rfl | rfl <;> omega
  have hfo := isLook_news (w := w) N₅ (by k_is) (by rfl)
  have LI := LookI.start hfo dS ok0 hb0 ap oCN oCW x.ns
  refine Hold.out (Claim.use (map_c x.S x.SD x.DL f x.hh x.t1 x.n2 x.vs ok.vslen (fun v hv => let ⟨a, _, e⟩ := ok.vals v hv; ⟨a, e⟩) (LookI w t { x with pw := pw, bag := bag } x.ns c' oc f SN (L' + 1 + 1 + 1) (L' + 1 + 1) (L' + 1) _ _ oCN oCW)
    (fun i led I => LookI.fn hfo I)
    (fun i v led hvi I => look_step hd₃ hv₃ hfo dW' dS dN' hn ok.nr ok.vlen (by rw [ok.hv] at hvi; exact hvi) I) _ LI ?_) B' F₅ X' nall T' rfl (fun _ h => h) ?_ ?_ trivial ?_)
  · intro p hp
    refine List.mem_append_right _ ?_
    exact ((fa3 (List.mem_of_getElem? (i := 3) rfl) (List.mem_of_getElem? (i := 4) rfl) (List.mem_of_getElem? (i := 5) rfl)) : ∀ p ∈ setLed x.S x.SD x.DL x.hh x.t1 x.vs x.n2, p ∈ WS.led { x with pw := pw, bag := bag } w) p hp
  · dsimp only [Around.deeper, ktrTop]; first | exact room2 hd (by decide) | exact room2 hu (by decide) | omega
  · dsimp only [Around.deeper, ktrTop]; first | exact room2 hd (by decide) | exact room2 hu (by decide) | omega
  rintro v h₆ tk₆ hk₆ ⟨rfl, led', ⟨y, seen, sm, rfl, lk, oky, hs, hb, ap'⟩, Hl, fl⟩
  have F₆ := Fr.turns F₅ nall (fun b hb => by
    obtain ⟨p, hp, e⟩ := List.mem_map.mp hb
    exact ⟨p.2, by rw [← e]; exact hp⟩) hk₆
  have n6 := News.goes F₅ nall Hl fl
  have hBG : ∀ fo oCS : Obj, BG ∉ (lookLed f SN (L' + 1 + 1 + 1) (L' + 1 + 1) (L' + 1) fo oCS oCN oCW [] 0 ++ WS.led { x with pw := pw, bag := bag } w).map (·.1) := fun fo oCS hm => by
    rw [List.map_append] at hm
    rcases List.mem_append.mp hm with hm | hm
    · have hm' : BG ∈ ([f, SN, L' + 1 + 1 + 1, L' + 1 + 1, L' + 1] : List Addr) := hm
      simp only [List.mem_cons, List.not_mem_nil, or_false] at hm'
      clear ny nall n0 N₅ F₅ R0 n6 F₆ hk₆ Hl fl hm
      rcases hm' with e | e | e | e | e
      · have e' : @Eq Nat BG f := e
        omega
      · have e' : @Eq Nat BG SN := e
        omega
      · have e' : @Eq Nat BG (L' + 1 + 1 + 1) := e
        omega
      · have e' : @Eq Nat BG (L' + 1 + 1) := e
        omega
      · have e' : @Eq Nat BG (L' + 1) := e
        omega
    · obtain ⟨p, hp, e⟩ := List.mem_map.mp hm
      have kp := keyR p hp
      have e' : @Eq Nat p.1 BG := e
      have kc : @LT.lt Nat _ c' L' ∨ @LT.lt Nat _ BG c' := hnew.elim (fun z => .inr z.2.2.2.2.2) fun z => .inl (hlt' _ (WS.rest_led (WS.bag_rest z)))
      rw [e'] at kp
      clear e' e hm hp ny nall n0 N₅ F₅ R0 n6 F₆ hk₆ Hl fl
      omega
  have hb6 : News g' L' h₆ [(BG, listOf x.is.toArray cb)] := (fa1 ⟨hk₆ _ _ (N₅ (BG, listOf x.is.toArray cb) (in3)).1 (hBG _ _), (N₅ (BG, listOf x.is.toArray cb) (in3)).2⟩)
  have n7 : News g' L' h₆ [(BG, listOf x.is.toArray cb), (SN, listOf seen.toArray sm), (L' + 1 + 1 + 1, _)] := (fa3 (hb6 _ (.head _)) (n6 _ (in1)) (n6 _ (in2)))
  try dsimp only
  rw [show x.ns.take x.vs.length = x.ns by rw [ok.hv, List.length_map]; exact List.take_length] at hs
  have hkept : ∀ b o, s.heap.get? b = some o → b ∉ (x.led w).map (·.1) → h₆.get? b = some o := fun b o e hb => F₆.keep _ _ (hG' b o e hb)
  have hgo : Goes (fun led' => ∃ y : WS, led' = y.led w ∧ x.Like y ∧ y.Ok w t) (x.led w) s.heap h₆ := by
    refine ⟨_, ⟨y, rfl, lk, oky⟩, fun p hp => Hl p (List.mem_append_right _ hp), fun p hp => ?_⟩
    have back : ∀ b, h₆.get? b = none ∨ g'.get? b = none → b ∈ (x.led w).map (·.1) ∨ s.heap.get? b = none := fun b hb => by
      by_cases q : b ∈ (x.led w).map (·.1)
      · exact .inl q
      · refine .inr ?_
        cases z : s.heap.get? b with
        | none => rfl
        | some o =>
          have z' := hG' b o z q
          rcases hb with hb | hb
          · rw [F₆.keep _ _ z'] at hb; cases hb
          · rw [z'] at hb; cases hb
    exact back p.1 (.inr (n6 p (List.mem_append_right _ hp)).2.2)
  have HF : Hold (_ ∧ _) := And.intro hkept hgo
  clear hkept hgo N₅ F₅ nall n0 ny R0 hk₆ LI Hl fl lk oky hb ap' ap hfo keyR hBG ht m₃ hb0 ok0 hnew n6 hb6
  k_steps
  rename News g' L' _ _ => N₈
  refine Hold.out (eq_intsK (News.isList (n := sm) (d := none) (sl := #[]) (items := seen.toArray) N₈ (by k_mem)) hs (News.isList (n := cb) (d := none) (sl := #[]) (items := x.is.toArray) N₈ (by k_mem)) ok.hi (by dsimp only [Around.deeper, ktrTop]; first | exact room2 hd (by decide) | exact room2 hu (by decide) | omega) ?_)
  rw [decide_eq_true rfl]
  k_steps
  refine hQF _ _ ?_
  refine leaveK_ (by assumption) (by assumption) fun _ _ => ?_
  exact hret _ _ _ HF.1 ⟨rfl, HF.2⟩
end
end Mine
end
section
open PySem PySem.W PyProof.Rows PySem.Calls PySem.Spec PyProof.V
namespace Mine
theorem exec_one {M : Model} {A : Around} {E : Value → Shared → Prop} {s : Shared} {x : Stmt} {env : Env} {Q : Flow → Shared → Prop} (h : wpAny M A (exec x env) Q E s) : wpAny M A (execs [x] env) Q E s :=
  wpAny_execs_cons (wpAny_mono h (fun f _ q => by cases f <;> first | exact wpAny_execs_nil q | exact q) fun _ _ e => e)
section
local macro_rules | `(tactic| walk_at "eval Name") => `(tactic| (k_here; k_dflt (refine nameX_L (by k_asm) (by first | assumption | exact (if_neg (by decide)).trans (by assumption) | exact (if_neg (by decide)).trans ((if_neg (by decide)).trans (by assumption))) ?_)))
local macro_rules | `(tactic| walk_at "execs nil") => `(tactic| (refine hold ?_))
local macro_rules | `(tactic| walk_at "execs cons") => `(tactic| (refine hold ?_))
theorem one_first {w : World} {dp un : Nat} {gd : Option (List Code)} {scope : Scope} {i0 : Stmt} {tl : List Stmt} {cd : Value} {outer : List Env} {A₀ : Around} {base g : Heap} {L : Addr} {m mg mb : Str → Option Value} {mean : ExcName → Option Value} {s : Shared} {Q : Flow → Shared → Prop} {E : Value → Shared → Prop} {led : List (Addr × Obj)}
    (W : Nat) (n : Int) (tk : Tok) (hparts : begTail ((Mine.K39 w.params).lookup 870) = some (scope, i0, tl)) (B : Below A₀ base outer g) (F : Fr g L s.heap m) (m1 : m (Str.ofString "world") = some (.ref W)) (m2 : m (Str.ofString "number") = some (.int n tk)) (X : (Mine.K39 w.params).In g) (T : Top topProg LZ mean mg mb g)
    (N : News g L s.heap led) (hd : dp + 20 < recursionLimit) (hu : un + 100 < cLine)
    (k : ∀ h' tk' m' t0 t1 t2, Fr g L h' m' → m' (Str.ofString "world") = some (.ref W) → m' (Str.ofString "k") = some (.int (n.fmod 8) t0) → m' (Str.ofString "way") = some (.int ((n.fdiv 8).fmod 9) t1) → m' (Str.ofString "rest") = some (.int (n.fdiv 72) t2) → News g L h' led →
      wpAny (model PySem.Challenge.rw_ac0032_01.row.prog w) (ktrTop dp un gd (Str.ofString "_law_one") scope L 870 cd [] outer) (execs tl (envOf (Str.ofString "_law_one") scope L 870 cd)) Q E { s with heap := h', toks := tk' }) :
    wpAny (model PySem.Challenge.rw_ac0032_01.row.prog w) (ktrTop dp un gd (Str.ofString "_law_one") scope L 870 cd [] outer) (execs (i0 :: tl) (envOf (Str.ofString "_law_one") scope L 870 cd)) Q E s := by
  revert X
  k_fill
  intro X
  have hp := beg_of (by k_is) hparts
  dsimp only [begTail] at hp
  cases hp
  clear hparts
  refine wpAny_execs_cons ?_
  k_steps
  rename News g L _ _ => N₁
  rename Fr g L _ _ => F₁
  exact Hold.out (k _ _ _ _ _ _ F₁ ((if_neg (by decide)).trans ((if_neg (by decide)).trans ((if_neg (by decide)).trans m1))) (if_pos rfl) ((if_neg (by decide)).trans (if_pos rfl)) ((if_neg (by decide)).trans ((if_neg (by decide)).trans (if_pos rfl))) (News.sub N₁ fun p hp => .tail _ hp))
noncomputable def lev : Nat → Stmt → Stmt
  | 0, i => i
  | j + 1, .If _ _ (o :: _) _ => lev j o
  | _ + 1, i => i
noncomputable def brOf : Stmt → List Stmt
  | .If _ b _ _ => b
  | _ => []
noncomputable def stAt (j : Nat) (i : Stmt) : List Stmt := match j with
  | 5 => [lev 5 i]
  | 7 => []
  | j => brOf (lev j i)
noncomputable def wayOf (n : Int) : Nat :=
  if (n.fdiv 8).fmod 9 < 2 then 0 else if (n.fdiv 8).fmod 9 = 2 then 1 else if (n.fdiv 8).fmod 9 = 3 then 2 else if (n.fdiv 8).fmod 9 = 4 ∧ (n.fdiv 72).fmod 3 = 0 then 3
  else if (n.fdiv 8).fmod 9 < 7 then 4 else if (n.fdiv 8).fmod 9 = 7 then 5 else if (n.fdiv 8).fmod 9 = 8 ∧ (n.fdiv 72).fmod 2 = 0 then 6 else 7
theorem one_chain2 {w : World} {dp un : Nat} {gd : Option (List Code)} {scope : Scope} {i0 i1 : Stmt} {rs : List Stmt} {cd : Value} {outer : List Env} {A₀ : Around} {base g : Heap} {L : Addr} {m mg mb : Str → Option Value} {mean : ExcName → Option Value} {s : Shared} {Q : Flow → Shared → Prop} {E : Value → Shared → Prop} {led : List (Addr × Obj)}
    (n : Int) {t0 t1 t2 : Tok} (hparts : begTail ((Mine.K39 w.params).lookup 870) = some (scope, i0, i1 :: rs)) (B : Below A₀ base outer g) (F : Fr g L s.heap m) (m2 : m (Str.ofString "k") = some (.int (n.fmod 8) t0)) (m3 : m (Str.ofString "way") = some (.int ((n.fdiv 8).fmod 9) t1)) (m4 : m (Str.ofString "rest") = some (.int (n.fdiv 72) t2)) (X : (Mine.K39 w.params).In g) (T : Top topProg LZ mean mg mb g)
    (N : News g L s.heap led) (hd : dp + 20 < recursionLimit) (hu : un + 100 < cLine)
    (hw : wayOf n = if (n.fdiv 8).fmod 9 < 7 then 4 else if (n.fdiv 8).fmod 9 = 7 then 5 else if (n.fdiv 8).fmod 9 = 8 ∧ (n.fdiv 72).fmod 2 = 0 then 6 else 7)
    (H : ∀ tk', wpAny (model PySem.Challenge.rw_ac0032_01.row.prog w) (ktrTop dp un gd (Str.ofString "_law_one") scope L 870 cd [] outer) (execs (stAt (wayOf n) i1) (envOf (Str.ofString "_law_one") scope L 870 cd)) Q E { s with toks := tk' }) :
    wpAny (model PySem.Challenge.rw_ac0032_01.row.prog w) (ktrTop dp un gd (Str.ofString "_law_one") scope L 870 cd [] outer) (exec (lev 4 i1) (envOf (Str.ofString "_law_one") scope L 870 cd)) Q E s := by
  revert X
  k_fill
  intro X
  have hp := beg_of (by k_is) hparts
  dsimp only [begTail] at hp
  cases hp
  dsimp only [lev]
  k_steps
  · rw [hw, if_pos (by assumption)] at H
    exact Hold.out (H _)
  · rename_i hnot
    rw [if_neg hnot] at hw
    by_cases h7 : (n.fdiv 8).fmod 9 = 7
    · rw [hw, if_pos h7] at H
      exact Hold.out (H _)
    rw [if_neg h7] at hw
    refine Hold.out (exec_one ?_)
    k_steps
    all_goals try (exfalso; omega)
    refine Hold.out (exec_one ?_)
    k_steps
    · rw [hw, if_pos ⟨by assumption, by assumption⟩] at H
      exact Hold.out (H _)
    · rw [hw, if_neg (fun q => absurd q.2 (by assumption))] at H
      exact Hold.out (H _)
    · rw [hw, if_neg (fun q => absurd q.1 (by assumption))] at H
      exact Hold.out (H _)
theorem one_chain {w : World} {dp un : Nat} {gd : Option (List Code)} {scope : Scope} {i0 i1 : Stmt} {rs : List Stmt} {cd : Value} {outer : List Env} {A₀ : Around} {base g : Heap} {L : Addr} {m mg mb : Str → Option Value} {mean : ExcName → Option Value} {s : Shared} {Q : Flow → Shared → Prop} {E : Value → Shared → Prop} {led : List (Addr × Obj)}
    (n : Int) {t0 t1 t2 : Tok} (hparts : begTail ((Mine.K39 w.params).lookup 870) = some (scope, i0, i1 :: rs)) (B : Below A₀ base outer g) (F : Fr g L s.heap m) (m2 : m (Str.ofString "k") = some (.int (n.fmod 8) t0)) (m3 : m (Str.ofString "way") = some (.int ((n.fdiv 8).fmod 9) t1)) (m4 : m (Str.ofString "rest") = some (.int (n.fdiv 72) t2)) (X : (Mine.K39 w.params).In g) (T : Top topProg LZ mean mg mb g)
    (N : News g L s.heap led) (hd : dp + 20 < recursionLimit) (hu : un + 100 < cLine)
    (H : ∀ tk', wpAny (model PySem.Challenge.rw_ac0032_01.row.prog w) (ktrTop dp un gd (Str.ofString "_law_one") scope L 870 cd [] outer) (execs (stAt (wayOf n) i1) (envOf (Str.ofString "_law_one") scope L 870 cd)) Q E { s with toks := tk' }) :
    wpAny (model PySem.Challenge.rw_ac0032_01.row.prog w) (ktrTop dp un gd (Str.ofString "_law_one") scope L 870 cd [] outer) (exec i1 (envOf (Str.ofString "_law_one") scope L 870 cd)) Q E s := by
  have hparts' := hparts
  have X' := X
  revert X
  k_fill
  intro X
  have hp := beg_of (by k_is) hparts
  dsimp only [begTail] at hp
  cases hp
  have hw := wayOf.eq_1 n
  k_steps
  · rw [show wayOf n = 0 from hw.trans (if_pos (by assumption))] at H
    exact Hold.out (H _)
  rename_i h0
  replace hw := hw.trans (if_neg h0)
  refine Hold.out (exec_one ?_)
  k_steps
  · rw [show wayOf n = 1 from hw.trans (if_pos (by assumption))] at H
    exact Hold.out (H _)
  rename_i h1
  replace hw := hw.trans (if_neg h1)
  refine Hold.out (exec_one ?_)
  k_steps
  · rw [show wayOf n = 2 from hw.trans (if_pos (by assumption))] at H
    exact Hold.out (H _)
  rename_i h2
  replace hw := hw.trans (if_neg h2)
  refine Hold.out (exec_one ?_)
  k_steps
  · rw [show wayOf n = 3 from hw.trans (if_pos ⟨by assumption, by assumption⟩)] at H
    exact Hold.out (H _)
  · replace hw := hw.trans (if_neg (fun q => absurd q.2 (by assumption)))
    exact Hold.out (exec_one (one_chain2 (led := led) n hparts' B F m2 m3 m4 X' T N hd hu hw H))
  · replace hw := hw.trans (if_neg (fun q => absurd q.1 (by assumption)))
    exact Hold.out (exec_one (one_chain2 (led := led) n hparts' B F m2 m3 m4 X' T N hd hu hw H))
end
theorem way0 {n : Int} (h : (n.fdiv 8).fmod 9 < 2) : wayOf n = 0 := by unfold wayOf; rw [if_pos h]
theorem way1 {n : Int} (h : (n.fdiv 8).fmod 9 = 2) : wayOf n = 1 := by unfold wayOf; rw [if_neg (by omega), if_pos h]
theorem way2 {n : Int} (h : (n.fdiv 8).fmod 9 = 3) : wayOf n = 2 := by unfold wayOf; rw [if_neg (by omega), if_neg (by omega), if_pos h]
theorem way3 {n : Int} (h : (n.fdiv 8).fmod 9 = 4) (hr : (n.fdiv 72).fmod 3 = 0) : wayOf n = 3 := by unfold wayOf; rw [if_neg (by omega), if_neg (by omega), if_neg (by omega), if_pos ⟨h, hr⟩]
theorem way4 {n : Int} (h : 4 ≤ (n.fdiv 8).fmod 9 ∧ (n.fdiv 8).fmod 9 < 7) (hr : (n.fdiv 8).fmod 9 = 4 → (n.fdiv 72).fmod 3 ≠ 0) : wayOf n = 4 := by unfold wayOf; rw [if_neg (by omega), if_neg (by omega), if_neg (by omega), if_neg (fun q => hr q.1 q.2), if_pos h.2]
theorem way5 {n : Int} (h : (n.fdiv 8).fmod 9 = 7) : wayOf n = 5 := by unfold wayOf; rw [if_neg (by omega), if_neg (by omega), if_neg (by omega), if_neg (by omega), if_neg (by omega), if_pos h]
theorem way6 {n : Int} (h : (n.fdiv 8).fmod 9 = 8) (hr : (n.fdiv 72).fmod 2 = 0) : wayOf n = 6 := by unfold wayOf; rw [if_neg (by omega), if_neg (by omega), if_neg (by omega), if_neg (by omega), if_neg (by omega), if_neg (by omega), if_pos ⟨h, hr⟩]
theorem way7 {n : Int} (h : (n.fdiv 8).fmod 9 = 8) (hr : (n.fdiv 72).fmod 2 ≠ 0) : wayOf n = 7 := by unfold wayOf; rw [if_neg (by omega), if_neg (by omega), if_neg (by omega), if_neg (by omega), if_neg (by omega), if_neg (by omega), if_neg (fun q => hr q.2)]
theorem keptM_end' {h₀ h g g₂ h₂ : Heap} {fs : List Addr} {L L₂ : Addr} {m₂ : Str → Option Value} {led : List (Addr × Obj)} {mods : List Addr} (N : News h₀ L h led) (hG : ∀ b o, h.get? b = some o → b ∉ led.map (·.1) → g.get? b = some o)
    (T : KtsTurn fs g g₂) (F₂ : Fr g₂ L₂ h₂ m₂) (hl : ∀ p ∈ led, p.1 ∉ mods → h₂.get? p.1 = some p.2) : ∀ b o, h.get? b = some o → b ∉ mods → b ∉ fs → h₂.get? b = some o := fun b o e hb hf => by
  by_cases hm : b ∈ led.map (·.1)
  · obtain ⟨p, hp, rfl⟩ := List.mem_map.mp hm
    have := (N p hp).1
    rw [e] at this; cases this
    exact hl p hp hb
  · exact F₂.keep b o (T.other b o (hG b o e hm) hf)
noncomputable def OneBody (w : World) (D U : Nat) (W : Nat) (n : Int) (led : List (Addr × Obj)) (mods : List Addr) (Pre : Heap → Prop) (Post : Heap → Value → Heap → Prop) (j : Nat) : Prop :=
  ∀ (dp un : Nat) (gd : Option (List Code)) (scope : Scope) (i0 i1 : Stmt) (rs : List Stmt) (cd : Value) (outer : List Env) (A₀ : Around) (base h₀ h g : Heap) (L₀ L : Addr) (m mg mb : Str → Option Value) (mean : ExcName → Option Value) (s : Shared) (Q : Flow → Shared → Prop) (E : Value → Shared → Prop) (t0 t1 t2 : Tok),
    begTail ((Mine.K39 w.params).lookup 870) = some (scope, i0, i1 :: rs) → News h₀ L₀ h led → (∀ b o, h.get? b = some o → b ∉ led.map (·.1) → g.get? b = some o) → (∀ p ∈ led, p.1 < L) → Below A₀ base outer g → Fr g L s.heap m →
    m (Str.ofString "world") = some (.ref W) → m (Str.ofString "k") = some (.int (n.fmod 8) t0) → m (Str.ofString "way") = some (.int ((n.fdiv 8).fmod 9) t1) → m (Str.ofString "rest") = some (.int (n.fdiv 72) t2) →
    (Mine.K39 w.params).In g → News g L s.heap led → Top topProg LZ mean mg mb g → dp + D < recursionLimit → un + U < cLine → Pre h →
    (∀ v h' tk' m', Fr g L h' m' → (∀ b o, h.get? b = some o → b ∉ mods → h'.get? b = some o) → Post h v h' → Q (.ret v) { s with heap := h', toks := tk' }) →
    (∀ h' tk' m', Fr g L h' m' → (∀ b o, h.get? b = some o → b ∉ mods → h'.get? b = some o) → Post h (.bool true) h' → Q .next { s with heap := h', toks := tk' }) →
    wpAny (model PySem.Challenge.rw_ac0032_01.row.prog w) (ktrTop dp un gd (Str.ofString "_law_one") scope L 870 cd [] outer) (execs (stAt j i1) (envOf (Str.ofString "_law_one") scope L 870 cd)) Q E s
noncomputable def OneBodyM (w : World) (D U : Nat) (W : Nat) (n : Int) (led : List (Addr × Obj)) (mods : List Addr) (Pre : Heap → Prop) (Post : Heap → Value → Heap → Prop) (j : Nat) : Prop :=
  ∀ (dp un : Nat) (gd : Option (List Code)) (scope : Scope) (i0 i1 : Stmt) (rs : List Stmt) (cd : Value) (outer : List Env) (A₀ : Around) (base h₀ h g : Heap) (L₀ L : Addr) (m mg mb : Str → Option Value) (mean : ExcName → Option Value) (s : Shared) (Q : Flow → Shared → Prop) (E : Value → Shared → Prop) (t0 t1 t2 : Tok),
    begTail ((Mine.K39 w.params).lookup 870) = some (scope, i0, i1 :: rs) → News h₀ L₀ h led → (∀ b o, h.get? b = some o → b ∉ led.map (·.1) → g.get? b = some o) → (∀ p ∈ led, p.1 < L) → Below A₀ base outer g → Fr g L s.heap m →
    m (Str.ofString "world") = some (.ref W) → m (Str.ofString "k") = some (.int (n.fmod 8) t0) → m (Str.ofString "way") = some (.int ((n.fdiv 8).fmod 9) t1) → m (Str.ofString "rest") = some (.int (n.fdiv 72) t2) →
    (Mine.K39 w.params).In base → News g L s.heap led → Top topProg LZ mean mg mb base → dp + D < recursionLimit → un + U < cLine → Pre h →
    (∀ v h' tk' g₂ m', KtsTurn (fsOf outer) g g₂ → Fr g₂ L h' m' → (∀ b o, h.get? b = some o → b ∉ mods → b ∉ fsOf outer → h'.get? b = some o) → Post h v h' → Q (.ret v) { s with heap := h', toks := tk' }) →
    (∀ h' tk' g₂ m', KtsTurn (fsOf outer) g g₂ → Fr g₂ L h' m' → (∀ b o, h.get? b = some o → b ∉ mods → b ∉ fsOf outer → h'.get? b = some o) → Post h (.bool true) h' → Q .next { s with heap := h', toks := tk' }) →
    wpAny (model PySem.Challenge.rw_ac0032_01.row.prog w) (ktrTop dp un gd (Str.ofString "_law_one") scope L 870 cd [] outer) (execs (stAt j i1) (envOf (Str.ofString "_law_one") scope L 870 cd)) Q E s
section
theorem one_head {w : World} {D U W : Nat} {n : Int} {tk : Tok} {led : List (Addr × Obj)} {mods : List Addr} {Pre : Heap → Prop} {Post : Heap → Value → Heap → Prop} (j : Nat) (hD : 100 ≤ D) (hU : 400 ≤ U) (hj : wayOf n = j) (H : OneBody w (D - 1) (U - 10) W n led mods Pre Post j) :
    Claim w D U 870 [.ref W, .int n tk] led mods Pre Post := by
  unfold Claim
  k_fill
  intro dp un gd cn cs a ccd cl outer A₀ base h₀ L m mg mb mean s Q E B F X N T hk hd hu hpre hret
  refine wpAny_call ?_
  k_dflt (refine' enter_plain (binds := [(Str.ofString "world", .ref W), (Str.ofString "number", .int n tk)]) B F X N T rfl rfl hk (by k_is) (by k_is) ?hr (BindsTo.of_eq rfl) (locs rfl) ?_ rfl rfl rfl (by decide))
  case hr => exact Nat.lt_of_le_of_lt (Nat.le_add_right _ _) hd
  intro g' L' h' hG hup l1 FG' F' N' B' X' T'
  have hpart := (congrArg begTail (show (Mine.K39 w.params).lookup 870 = some _ by k_is)).trans rfl
  refine one_first (dp := dp + 1) (un := un + 3) (gd := gd) (outer := envX cn cs L a ccd cl :: outer) W n tk hpart B' F' rfl rfl X' T' N' (by omega) (by omega) ?_
  intro h₁ tk₁ m₁ t0 t1 t2 F₁ e1 e2 e3 e4 N₁
  refine wpAny_execs_cons ?_
  refine one_chain (dp := dp + 1) (un := un + 3) (gd := gd) (outer := envX cn cs L a ccd cl :: outer) (led := led) n hpart B' F₁ e2 e3 e4 X' T' N₁ (by omega) (by omega) ?_
  intro tk₃
  rw [hj]
  refine H (dp + 1) (un + 3) gd _ _ _ _ _ (envX cn cs L a ccd cl :: outer) _ _ h₀ s.heap g' L L' _ mg mb mean _ _ _ t0 t1 t2 hpart N hG l1 B' F₁ e1 e2 e3 e4 X' N₁ T' (by omega) (by omega) hpre ?_ ?_
  · intro v h₂ tk₂ m₂ F₂ K₂ P₂
    exact leaveK_ F₂ (fun _ h => nomatch h : News g' L' h₂ []) fun _ _ => hret _ _ _ K₂ P₂
  · intro h₂ tk₂ m₂ F₂ K₂ P₂
    have N₂ : News g' L' h₂ [] := fun _ h => nomatch h
    clear F₁ N₁ F' N'
    dsimp only
    k_steps
    exact hret _ _ _ K₂ P₂
theorem one_headM {w : World} {D U W : Nat} {n : Int} {tk : Tok} {led : List (Addr × Obj)} {mods : List Addr} {Pre : Heap → Prop} {Post : Heap → Value → Heap → Prop} (j : Nat) (hD : 100 ≤ D) (hU : 400 ≤ U) (hj : wayOf n = j) (H : OneBodyM w (D - 1) (U - 10) W n led mods Pre Post j) :
    ClaimM w D U 870 [.ref W, .int n tk] led mods Pre Post False := by
  unfold ClaimM
  k_fill
  intro dp un gd cn cs a ccd cl outer A₀ base h₀ L m mg mb mean s Q E B F XB N TB hk hd hu hpre hret _
  have XH := XB.keeps B.stays
  refine wpAny_call ?_
  k_dflt (refine' enterM_plain (binds := [(Str.ofString "world", .ref W), (Str.ofString "number", .int n tk)]) B F XB N TB rfl rfl hk (by k_is) (by k_is) ?hr (BindsTo.of_eq rfl) (locs rfl) ?_ rfl rfl rfl (by decide))
  case hr => exact Nat.lt_of_le_of_lt (Nat.le_add_right _ _) hd
  intro g' L' h' hG hup l1 hL' FG' F' N' B' X' T'
  have hpart := (congrArg begTail (show (Mine.K39 w.params).lookup 870 = some _ by k_is)).trans rfl
  refine one_first (dp := dp + 1) (un := un + 3) (gd := gd) (outer := envX cn cs L a ccd cl :: outer) W n tk hpart B' F' rfl rfl X' T' N' (by omega) (by omega) ?_
  intro h₁ tk₁ m₁ t0 t1 t2 F₁ e1 e2 e3 e4 N₁
  refine wpAny_execs_cons ?_
  refine one_chain (dp := dp + 1) (un := un + 3) (gd := gd) (outer := envX cn cs L a ccd cl :: outer) (led := led) n hpart B' F₁ e2 e3 e4 X' T' N₁ (by omega) (by omega) ?_
  intro tk₃
  rw [hj]
  refine H (dp + 1) (un + 3) gd _ _ _ _ _ (envX cn cs L a ccd cl :: outer) _ _ h₀ s.heap g' L L' _ mg mb mean _ _ _ t0 t1 t2 hpart N hG l1 B' F₁ e1 e2 e3 e4 XB N₁ TB (by omega) (by omega) hpre ?_ ?_
  · intro v h₂ tk₂ g₂ m₂ T₂ F₂ K₂ P₂
    obtain ⟨h₀', Q₁, Q₂, Q₃⟩ := finishM B FG' T₂ F₂
    exact hret _ _ _ h₀' Q₁ Q₂ Q₃ K₂ P₂
  · intro h₂ tk₂ g₂ m₂ T₂ F₂ K₂ P₂
    obtain ⟨h₀', Q₁, Q₂, Q₃⟩ := finishM B FG' T₂ F₂
    have N₂ : News g₂ L' h₂ [] := fun _ h => nomatch h
    clear F₁ N₁ F' N'
    dsimp only
    k_steps
    exact hret _ _ _ h₀' Q₁ Q₂ Q₃ K₂ P₂
end
end Mine
end
section
open PySem PySem.W PyProof.Rows PySem.Calls PySem.Spec PyProof.V
namespace Mine
theorem Goes.back {I : List (Addr × Obj) → Prop} {led : List (Addr × Obj)} {h₁ h h' : Heap} (G : Goes I led h₁ h') (hf : ∀ b, h₁.get? b = none → h.get? b = none) : Goes I led h h' := by
  obtain ⟨led', a, b, c⟩ := G
  exact ⟨led', a, b, fun p hp => (c p hp).imp id (hf _)⟩
theorem fd72 {n : Int} (hn : 0 ≤ n ∧ n < 1000000) : 0 ≤ n.fdiv 72 ∧ n.fdiv 72 < 1000000 := by rw [Int.fdiv_eq_ediv_of_nonneg n (by decide)]; omega
section
local macro_rules | `(tactic| walk_at "eval Name") => `(tactic| (k_here; k_dflt (refine nameX_L (by k_asm) (by first | with_reducible assumption | exact (if_neg (by decide)).trans (by with_reducible assumption)) ?_)))
local macro_rules | `(tactic| k_all) => `(tactic| first | exact List.forall_mem_nil _ | with_reducible assumption | (refine List.forall_mem_cons.mpr ⟨by k_ne, by k_all⟩))
local macro_rules | `(tactic| walk_at "call ref") => `(tactic| (refine hold ?_))
theorem one_put {w : World} (W TH S SD DL IN O DD x : Nat) (oW : Obj) (c : Int) (tc : Tok) (hh : Int) (t1 : Tok) (n2 n3 n4 : Nat) (ths : List Nat) (vs is : List Value) (ns : List Int) (n : Int) (tk : Tok) (hl : vs.length ≤ 8) (hln : ns.length ≤ 8)
    (hW : oW.IsDictOf (strKind PySem.Challenge.rw_ac0032_01.row.prog w) (worldKvs TH S IN O DD c tc)) (hi : IntsAre is ns) (hn : 0 ≤ n ∧ n < 1000000) (hw : (n.fdiv 8).fmod 9 < 2)
    (hx : (things ths)[(n.fmod 8).toNat]? = some (.ref x)) (hxm : x ∈ ths) (hV : ValsN vs ths) (e1 : @Ne Nat W SD) (e2 : @Ne Nat DL TH) (e3 : @Ne Nat DL IN) (hoff : W ∉ ths ∧ TH ∉ ths ∧ IN ∉ ths ∧ S ∉ ths ∧ SD ∉ ths ∧ DL ∉ ths) :
    Claim w 120 600 870 [.ref W, .int n tk] (worldS W TH IN S SD DL oW ths is vs hh t1 n2 n3 n4) [W, SD, DL] (StandN ths) (fun h v h' => v = .bool true ∧ SetPost w W TH S SD DL IN O DD c tc hh t1 ths vs ns h h') := by
  refine one_head 0 (by decide) (by decide) (way0 hw) ?_
  unfold OneBody worldS setLed
  intro dp un gd scope i0 i1 rs cd outer A₀ base h₀ hs g' L L' m mg mb mean s Q E τ0 τ1 τ2 hpart N hG l1 B' F' μ1 μ2 μ3 μ4 X' N' T' hd hu hpre hret hnext
  k_lt l1
  revert X'
  k_fill
  intro X'
  rw [show stAt 0 i1 = brOf (lev 0 i1) from rfl]
  have hp := beg_of (by k_is) hpart
  dsimp only [begTail] at hp
  cases hp
  clear hpart
  try dsimp only [lev, brOf]
  obtain ⟨k0, k8⟩ := fm8 n
  obtain ⟨p1, p2, p3, p4, p5, p6⟩ := hoff
  have hX : StandN ths g' := StandN.base hpre hG ((fa6 p1 p2 p3 p4 p5 p6))
  k_steps
  all_goals try (exfalso; omega)
  rename News g' L' _ _ => N₁
  rename Fr g' L' _ _ => F₁
  have K₁ : ∀ b o, hs.get? b = some o → b ∉ ([] : List Addr) → _ := kept_end N hG F₁.keep ((fa6 (fun _ => N₁.get (by k_mem)) (fun _ => N₁.get (by k_mem)) (fun _ => N₁.get (by k_mem)) (fun _ => N₁.get (by k_mem)) (fun _ => N₁.get (by k_mem)) (fun _ => N₁.get (by k_mem))))
  have B₁ := fresh_back2 N hG F₁ ((fa6 ⟨_, N₁.get (by k_mem)⟩ ⟨_, N₁.get (by k_mem)⟩ ⟨_, N₁.get (by k_mem)⟩ ⟨_, N₁.get (by k_mem)⟩ ⟨_, N₁.get (by k_mem)⟩ ⟨_, N₁.get (by k_mem)⟩))
  refine Hold.out (Claim.use (put_s W TH S SD DL IN O DD x oW c tc hh t1 n2 n3 n4 ths vs is ns _ _ hl hln hW hi k0 k8 hx hxm hV e1 e2 e3) B' F₁ X' N₁ T' rfl ?_ ?_ ?_ (hX.keeps F₁.keep) ?_)
  · exact (fa6 (by k_mem) (by k_mem) (by k_mem) (by k_mem) (by k_mem) (by k_mem))
  · first | exact room hd (by decide) | exact room hu (by decide) | omega
  · first | exact room hd (by decide) | exact room hu (by decide) | omega
  rintro v h₂ tk₂ hk₂ ⟨rfl, hP⟩
  have F₂ := Fr.turns F₁ N₁ ((fa3 ⟨_, by k_mem⟩ ⟨_, by k_mem⟩ ⟨_, by k_mem⟩)) hk₂
  have N₂ : News g' L' h₂ [] := fun _ h => nomatch h
  have K₂ : ∀ b o, hs.get? b = some o → b ∉ ([W, SD, DL] : List Addr) → h₂.get? b = some o := fun b o e hb => hk₂ _ _ (K₁ b o e notin_nil) hb
  have P₂ := SetPost.back hP B₁
  clear hP hk₂ N₁ F₁ K₁ B₁
  try dsimp only
  k_steps
  rename Fr g' L' _ _ => F₉
  exact hnext _ _ _ F₉ K₂ ⟨rfl, P₂⟩
theorem one_out_hit {w : World} (W TH S SD DL IN O DD x : Nat) (oW : Obj) (c : Int) (tc : Tok) (hh : Int) (t1 : Tok) (n2 n3 n4 : Nat) (ths : List Nat) (vs is : List Value) (ns : List Int) (n : Int) (tk : Tok) (hl : vs.length ≤ 8) (hln : ns.length ≤ 8)
    (hW : oW.IsDictOf (strKind PySem.Challenge.rw_ac0032_01.row.prog w) (worldKvs TH S IN O DD c tc)) (hi : IntsAre is ns) (hn : 0 ≤ n ∧ n < 1000000) (hw : (n.fdiv 8).fmod 9 = 2)
    (hx : (things ths)[(n.fmod 8).toNat]? = some (.ref x)) (hxm : x ∈ ths) (hV : ValsN vs ths) (hlo : TH < W ∧ W < SD ∧ SD < S) (hoff : W ∉ ths ∧ TH ∉ ths ∧ IN ∉ ths ∧ S ∉ ths ∧ SD ∉ ths ∧ DL ∉ ths) (hv : vs.any (· == .ref x) = true) (hk : ns.any (· == n.fmod 8) = true) :
    Claim w 120 600 870 [.ref W, .int n tk] (worldS W TH IN S SD DL oW ths is vs hh t1 n2 n3 n4) [W, SD, DL] (StandN ths) (fun h v h' => v = .bool true ∧ SetPost w W TH S SD DL IN O DD c tc hh t1 ths vs ns h h') := by
  refine one_head 1 (by decide) (by decide) (way1 hw) ?_
  unfold OneBody worldS setLed
  intro dp un gd scope i0 i1 rs cd outer A₀ base h₀ hs g' L L' m mg mb mean s Q E τ0 τ1 τ2 hpart N hG l1 B' F' μ1 μ2 μ3 μ4 X' N' T' hd hu hpre hret hnext
  k_lt l1
  revert X'
  k_fill
  intro X'
  rw [show stAt 1 i1 = brOf (lev 1 i1) from rfl]
  have hp := beg_of (by k_is) hpart
  dsimp only [begTail] at hp
  cases hp
  clear hpart
  try dsimp only [lev, brOf]
  obtain ⟨k0, k8⟩ := fm8 n
  obtain ⟨p1, p2, p3, p4, p5, p6⟩ := hoff
  have hX : StandN ths g' := StandN.base hpre hG ((fa6 p1 p2 p3 p4 p5 p6))
  k_steps
  all_goals try (exfalso; omega)
  rename News g' L' _ _ => N₁
  rename Fr g' L' _ _ => F₁
  have K₁ : ∀ b o, hs.get? b = some o → b ∉ ([] : List Addr) → _ := kept_end N hG F₁.keep ((fa6 (fun _ => N₁.get (by k_mem)) (fun _ => N₁.get (by k_mem)) (fun _ => N₁.get (by k_mem)) (fun _ => N₁.get (by k_mem)) (fun _ => N₁.get (by k_mem)) (fun _ => N₁.get (by k_mem))))
  have B₁ := fresh_back2 N hG F₁ ((fa6 ⟨_, N₁.get (by k_mem)⟩ ⟨_, N₁.get (by k_mem)⟩ ⟨_, N₁.get (by k_mem)⟩ ⟨_, N₁.get (by k_mem)⟩ ⟨_, N₁.get (by k_mem)⟩ ⟨_, N₁.get (by k_mem)⟩))
  refine Hold.out (Claim.use (out_s W TH S SD DL IN O DD x oW c tc hh t1 n2 n3 n4 ths vs is ns _ _ hl hln hW hi k0 k8 hx hxm hV hlo ⟨p1, p2, p3, p4, p5, p6⟩ hv hk) B' F₁ X' N₁ T' rfl ?_ ?_ ?_ (hX.keeps F₁.keep) ?_)
  · exact (fa6 (by k_mem) (by k_mem) (by k_mem) (by k_mem) (by k_mem) (by k_mem))
  · first | exact room hd (by decide) | exact room hu (by decide) | omega
  · first | exact room hd (by decide) | exact room hu (by decide) | omega
  rintro v h₂ tk₂ hk₂ ⟨rfl, hP⟩
  have F₂ := Fr.turns F₁ N₁ ((fa3 ⟨_, by k_mem⟩ ⟨_, by k_mem⟩ ⟨_, by k_mem⟩)) hk₂
  have N₂ : News g' L' h₂ [] := fun _ h => nomatch h
  have K₂ : ∀ b o, hs.get? b = some o → b ∉ ([W, SD, DL] : List Addr) → h₂.get? b = some o := fun b o e hb => hk₂ _ _ (K₁ b o e notin_nil) hb
  have P₂ := SetPost.back hP B₁
  clear hP hk₂ N₁ F₁ K₁ B₁
  try dsimp only
  k_steps
  rename Fr g' L' _ _ => F₉
  exact hret _ _ _ _ F₉ K₂ ⟨rfl, P₂⟩
theorem one_out_miss {w : World} (W TH S SD DL IN O DD x : Nat) (oW : Obj) (c : Int) (tc : Tok) (hh : Int) (t1 : Tok) (n2 n3 n4 : Nat) (ths : List Nat) (vs is : List Value) (ns : List Int) (n : Int) (tk : Tok) (hl : vs.length ≤ 8) (hln : ns.length ≤ 8)
    (hW : oW.IsDictOf (strKind PySem.Challenge.rw_ac0032_01.row.prog w) (worldKvs TH S IN O DD c tc)) (hi : IntsAre is ns) (hn : 0 ≤ n ∧ n < 1000000) (hw : (n.fdiv 8).fmod 9 = 2)
    (hx : (things ths)[(n.fmod 8).toNat]? = some (.ref x)) (hxm : x ∈ ths) (hV : ValsN vs ths) (hlo : TH < W ∧ W < SD ∧ SD < S) (hoff : W ∉ ths ∧ TH ∉ ths ∧ IN ∉ ths ∧ S ∉ ths ∧ SD ∉ ths ∧ DL ∉ ths) (hv : vs.any (· == .ref x) = false) (hk : ns.any (· == n.fmod 8) = false) :
    ClaimM w 120 600 870 [.ref W, .int n tk] (worldS W TH IN S SD DL oW ths is vs hh t1 n2 n3 n4) [] (StandN ths) (fun h v h' => v = .bool true) False := by
  refine one_headM 1 (by decide) (by decide) (way1 hw) ?_
  unfold OneBodyM worldS setLed
  intro dp un gd scope i0 i1 rs cd outer A₀ base h₀ hs g' L L' m mg mb mean s Q E τ0 τ1 τ2 hpart N hG l1 B' F' μ1 μ2 μ3 μ4 XB N' TB hd hu hpre hret hnext
  k_lt l1
  have X' := XB.keeps B'.stays
  have T' := TB.keeps B'.stays
  revert X'
  k_fill
  intro X'
  rw [show stAt 1 i1 = brOf (lev 1 i1) from rfl]
  have hp := beg_of (by k_is) hpart
  dsimp only [begTail] at hp
  cases hp
  clear hpart
  try dsimp only [lev, brOf]
  obtain ⟨k0, k8⟩ := fm8 n
  obtain ⟨p1, p2, p3, p4, p5, p6⟩ := hoff
  have hX : StandN ths g' := StandN.base hpre hG ((fa6 p1 p2 p3 p4 p5 p6))
  k_steps
  all_goals try (exfalso; omega)
  rename News g' L' _ _ => N₁
  rename Fr g' L' _ _ => F₁
  refine Hold.out (ClaimM.use (out_miss_c W TH S SD DL IN O DD x oW c tc hh t1 n2 n3 n4 ths vs is ns _ _ hl hln hW hi k0 k8 hx hxm hV hlo ⟨p1, p2, p3, p4, p5, p6⟩ hv hk) B' F₁ XB N₁ TB rfl ?_ ?_ ?_ (hX.keeps F₁.keep) ?_ ?_)
  · exact (fa6 (by k_mem) (by k_mem) (by k_mem) (by k_mem) (by k_mem) (by k_mem))
  · first | exact room hd (by decide) | exact room hu (by decide) | omega
  · first | exact room hd (by decide) | exact room hu (by decide) | omega
  · rintro v h₂ tk₂ g₂ T₂ F₂ B₂ hk₂ rfl
    have N₂ : News g₂ L' h₂ [] := fun _ h => nomatch h
    have H₂ : ∀ p ∈ (worldS W TH IN S SD DL oW ths is vs hh t1 n2 n3 n4), p.1 ∉ ([] : List Addr) → h₂.get? p.1 = some p.2 := (fa6 (fun _ => hk₂ _ _ (N₁.get (by k_mem)) notin_nil (News.apart B' N₁ (p := (W, _)) (by k_mem))) (fun _ => hk₂ _ _ (N₁.get (by k_mem)) notin_nil (News.apart B' N₁ (p := (TH, _)) (by k_mem))) (fun _ => hk₂ _ _ (N₁.get (by k_mem)) notin_nil (News.apart B' N₁ (p := (IN, _)) (by k_mem))) (fun _ => hk₂ _ _ (N₁.get (by k_mem)) notin_nil (News.apart B' N₁ (p := (S, _)) (by k_mem))) (fun _ => hk₂ _ _ (N₁.get (by k_mem)) notin_nil (News.apart B' N₁ (p := (SD, _)) (by k_mem))) (fun _ => hk₂ _ _ (N₁.get (by k_mem)) notin_nil (News.apart B' N₁ (p := (DL, _)) (by k_mem))))
    have K₂ := keptM_end' N hG T₂ F₂ H₂
    clear hk₂ N₁ F₁ H₂
    have X₂ := XB.keeps B₂.stays
    have P₂ := TB.keeps B₂.stays
    clear B' X' T'
    try dsimp only
    k_steps
    rename Fr g₂ L' _ _ => F₉
    exact hret _ _ _ _ _ T₂ F₉ K₂ rfl
  · intro _ _ _ hf; exact hf.elim
theorem one_clear {w : World} (W TH S SD DL IN O DD : Nat) (oW : Obj) (c : Int) (tc : Tok) (hh : Int) (t1 : Tok) (n2 n3 n4 : Nat) (ths : List Nat) (vs is : List Value) (ns : List Int) (n : Int) (tk : Tok) (hl : vs.length ≤ 8) (hln : ns.length ≤ 8)
    (hW : oW.IsDictOf (strKind PySem.Challenge.rw_ac0032_01.row.prog w) (worldKvs TH S IN O DD c tc)) (hi : IntsAre is ns) (hn : 0 ≤ n ∧ n < 1000000) (hw : (n.fdiv 8).fmod 9 = 4) (hr : (n.fdiv 72).fmod 3 = 0) (e1 : @Ne Nat W SD) (e2 : @Ne Nat DL TH) (e3 : @Ne Nat DL IN) :
    Claim w 120 600 870 [.ref W, .int n tk] (worldS W TH IN S SD DL oW ths is vs hh t1 n2 n3 n4) [W, SD, DL] (fun _ => True) (fun h v h' => v = .bool true ∧ SetPost w W TH S SD DL IN O DD c tc hh t1 ths vs ns h h') := by
  refine one_head 3 (by decide) (by decide) (way3 hw hr) ?_
  unfold OneBody worldS setLed
  intro dp un gd scope i0 i1 rs cd outer A₀ base h₀ hs g' L L' m mg mb mean s Q E τ0 τ1 τ2 hpart N hG l1 B' F' μ1 μ2 μ3 μ4 X' N' T' hd hu hpre hret hnext
  k_lt l1
  revert X'
  k_fill
  intro X'
  rw [show stAt 3 i1 = brOf (lev 3 i1) from rfl]
  have hp := beg_of (by k_is) hpart
  dsimp only [begTail] at hp
  cases hp
  clear hpart
  try dsimp only [lev, brOf]
  obtain ⟨k0, k8⟩ := fm8 n
  k_steps
  all_goals try (exfalso; omega)
  rename News g' L' _ _ => N₅
  rename Fr g' L' _ _ => F₅
  have d_W : @Ne Nat W DL := News.ne N₅ (by k_mem) (by k_mem) (by rw [isDictOf_cls hW]; exact fun q => absurd (Value.type.inj q) (show ¬ ("dict" = "list") by decide))
  have d_TH : @Ne Nat TH DL := e2.symm
  have d_IN : @Ne Nat IN DL := e3.symm
  have d_S : @Ne Nat S DL := News.ne N₅ (by k_mem) (by k_mem) (fun q => Value.noConfusion q)
  have d_SD : @Ne Nat SD DL := News.ne N₅ (by k_mem) (by k_mem) (fun q => absurd (Value.type.inj q) (show ¬ ("dict" = "list") by decide))
  have w_TH : @Ne Nat TH W := News.ne N₅ (by k_mem) (by k_mem) (by rw [isDictOf_cls hW]; exact fun q => absurd (Value.type.inj q) (show ¬ ("list" = "dict") by decide))
  have w_IN : @Ne Nat IN W := News.ne N₅ (by k_mem) (by k_mem) (by rw [isDictOf_cls hW]; exact fun q => absurd (Value.type.inj q) (show ¬ ("list" = "dict") by decide))
  have w_S : @Ne Nat S W := News.ne N₅ (by k_mem) (by k_mem) (by rw [isDictOf_cls hW]; exact fun q => Value.noConfusion q)
  refine Hold.out (Claim.use (clear_c S SD DL hh t1 n2 vs hl) B' F₅ X' N₅ T' rfl ?_ ?_ ?_ trivial ?_)
  · exact (fa3 (by k_mem) (by k_mem) (by k_mem))
  · first | exact room hd (by decide) | exact room hu (by decide) | omega
  · first | exact room hd (by decide) | exact room hu (by decide) | omega
  rintro v h₆ tk₆ hk₆ ⟨rfl, n', hD⟩
  have F₆ := Fr.turns F₅ N₅ ((fa1 ⟨_, by k_mem⟩)) hk₆
  have N₆ := News.turns ((W, oW) :: (TH, listOf (things ths).toArray n3) :: (IN, listOf is.toArray n4) :: (S, instObj 83 SD) :: (SD, dictOf [⟨hh, .str (Str.ofString "data") t1, .ref DL⟩] 1) :: [(DL, listOf #[] n')]) N₅ hk₆ ((fa6 (.inl ⟨by k_mem, notin_cons d_W notin_nil⟩) (.inl ⟨by k_mem, notin_cons d_TH notin_nil⟩) (.inl ⟨by k_mem, notin_cons d_IN notin_nil⟩) (.inl ⟨by k_mem, notin_cons d_S notin_nil⟩) (.inl ⟨by k_mem, notin_cons d_SD notin_nil⟩) (.inr ⟨hD, _, by k_mem⟩)))
  clear N₅ F₅ hk₆
  try dsimp only
  k_steps
  rename News g' L' _ _ => N₇
  rename Fr g' L' _ _ => F₇
  rename Obj.IsDictOf _ _ _ => hd₇
  refine hnext _ _ _ F₇ (kept_end N hG F₇.keep ((fa6 (fun q => absurd (.head _) q) (fun _ => N₇.get (by k_mem)) (fun _ => N₇.get (by k_mem)) (fun _ => N₇.get (by k_mem)) (fun q => absurd (in1) q) (fun q => absurd (in2) q)))) ⟨rfl, _, _, DL, n', 0, [], [], [], N₇.get (in1), hd₇, .inr (not_in_heap hG (N₇.fresh (.head _)) (notin_led (by clear d_W d_TH d_IN d_S d_SD w_TH w_IN w_S e1 e2 e3; k_all))), N₇.get (.head _), .nil, N₇.get (by k_mem), .inl rfl, (by clear d_W d_TH d_IN d_S d_SD w_TH w_IN w_S e1 e2 e3; omega), N₇.get (by k_mem), .inr (.inr (.inr ⟨rfl, rfl⟩))⟩
theorem one_walked {w : World} {t : Nat} (x : WS) (ok : x.Ok w t) (n : Int) (tk : Tok) (hn : 0 ≤ n ∧ n < 1000000) (hw : (n.fdiv 8).fmod 9 = 3) :
    Claim w 500 2600 870 [.ref x.W, .int n tk] (x.led w) ((x.led w).map (·.1)) (fun _ => True) (fun h v h' => v = .bool true ∧ Goes (fun led' => ∃ y : WS, led' = y.led w ∧ x.Like y ∧ y.Ok w t) (x.led w) h h') := by
  refine one_head 2 (by decide) (by decide) (way2 hw) ?_
  unfold OneBody 
  intro dp un gd scope i0 i1 rs cd outer A₀ base h₀ hs g' L L' m mg mb mean s Q E τ0 τ1 τ2 hpart N hG l1 B' F' μ1 μ2 μ3 μ4 X' N' T' hd hu hpre hret hnext
  clear l1
  revert X'
  k_fill
  intro X'
  rw [show stAt 2 i1 = brOf (lev 2 i1) from rfl]
  have hp := beg_of (by k_is) hpart
  dsimp only [begTail] at hp
  cases hp
  clear hpart
  try dsimp only [lev, brOf]
  obtain ⟨q0, q1⟩ := fd72 hn
  k_steps
  all_goals try (exfalso; omega)
  rename News g' L' _ _ => N₁
  rename Fr g' L' _ _ => F₁
  have B₁ := fresh_back2 N hG F₁ (fun p hp => ⟨_, (N₁ p hp).1⟩)
  refine Hold.out (Claim.use (walked_c x ok _ _ ⟨q0, q1⟩) B' F₁ X' N₁ T' rfl (fun p hp => hp) ?_ ?_ trivial ?_)
  · first | exact room hd (by decide) | exact room hu (by decide) | omega
  · first | exact room hd (by decide) | exact room hu (by decide) | omega
  rintro v h₂ tk₂ hk₂ ⟨rfl, G₂⟩
  have F₂ := Fr.turns F₁ N₁ (fun b hb => by
    obtain ⟨p, hp, e⟩ := List.mem_map.mp hb
    exact ⟨p.2, (by rw [← e]; exact hp)⟩) hk₂
  have N₂ : News g' L' h₂ [] := fun _ h => nomatch h
  have K₂ : ∀ b o, hs.get? b = some o → b ∉ (x.led w).map (·.1) → h₂.get? b = some o := fun b o e hb => hk₂ _ _ (F₁.keep _ _ (hG b o e hb)) hb
  have P₂ := Goes.back G₂ B₁
  clear G₂ hk₂ N₁ F₁ B₁
  try dsimp only
  k_steps
  rename Fr g' L' _ _ => F₉
  exact hret _ _ _ _ F₉ K₂ ⟨rfl, P₂⟩
theorem one_rest {w : World} (W : Nat) (n : Int) (tk : Tok) (hn : 0 ≤ n ∧ n < 1000000) (hw : (n.fdiv 8).fmod 9 = 8) (hr : (n.fdiv 72).fmod 2 ≠ 0) :
    Claim w 120 600 870 [.ref W, .int n tk] [] [] (fun _ => True) (fun h v h' => v = .bool true) := by
  refine one_head 7 (by decide) (by decide) (way7 hw hr) ?_
  unfold OneBody 
  intro dp un gd scope i0 i1 rs cd outer A₀ base h₀ hs g' L L' m mg mb mean s Q E τ0 τ1 τ2 hpart N hG l1 B' F' μ1 μ2 μ3 μ4 X' N' T' hd hu hpre hret hnext
  clear l1
  revert X'
  k_fill
  intro X'
  rw [show stAt 7 i1 = [] from rfl]
  have hp := beg_of (by k_is) hpart
  dsimp only [begTail] at hp
  cases hp
  clear hpart
  try dsimp only [lev, brOf]
  k_steps
  all_goals try (exfalso; omega)
  rename Fr g' L' _ _ => F₁
  rename Fr g' L' _ _ => F₉
  exact hnext _ _ _ F₉ (fun b o e _ => F₉.keep _ _ (hG b o e notin_nil)) rfl
end
end Mine
end
section
open PySem PySem.W PyProof.Rows PySem.Calls PySem.Spec PyProof.V
namespace Mine
local macro_rules | `(tactic| k_lt $h:ident) => `(tactic| (replace $h := allLt_of $h; dsimp only [AllLt] at $h:ident))
section
variable {K : Type} [DecidableEq K]
theorem valueAt_map (k k' : K) (v : Value) : ∀ kvs : List (K × Value), valueAt (kvs.map fun kv => if kv.1 = k then (kv.1, v) else kv) k' = if k = k' then (if kvs.any (fun kv => kv.1 = k) then some v else none) else valueAt kvs k'
  | [] => by by_cases h : k = k' <;> simp [valueAt, h]
  | kv :: r => by
    have ih := valueAt_map k k' v r
    unfold valueAt at ih ⊢
    rw [List.map_cons, List.find?_cons, List.find?_cons, List.any_cons]
    by_cases h1 : kv.1 = k
    · subst h1
      simp only [if_true, decide_true, Bool.true_or]
      by_cases h2 : kv.1 = k'
      · simp [h2]
      · simp only [h2, decide_false, if_false] at ih ⊢
        exact ih
    · simp only [h1, if_false, decide_false, Bool.false_or]
      by_cases h2 : kv.1 = k'
      · have h3 : k ≠ k' := fun e => h1 (h2.trans e.symm)
        simp [h2, h3]
      · simp only [h2, decide_false]
        exact ih
theorem valueAt_app (k k' : K) (v : Value) : ∀ kvs : List (K × Value), kvs.any (fun kv => kv.1 = k) = false → valueAt (kvs ++ [(k, v)]) k' = if k = k' then some v else valueAt kvs k'
  | [], _ => by by_cases h : k = k' <;> simp [valueAt, h]
  | kv :: r, hn => by
    rw [List.any_cons, Bool.or_eq_false_iff] at hn
    have ih := valueAt_app k k' v r hn.2
    have h1 : kv.1 ≠ k := of_decide_eq_false hn.1
    unfold valueAt at ih ⊢
    rw [List.cons_append, List.find?_cons, List.find?_cons]
    by_cases h2 : kv.1 = k'
    · have h3 : k ≠ k' := fun e => h1 (h2.trans e.symm)
      simp [h2, h3]
    · simp only [h2, decide_false]
      exact ih
theorem valueAt_stored (k k' : K) (v : Value) (kvs : List (K × Value)) : valueAt (stored kvs k v) k' = if k = k' then some v else valueAt kvs k' := by
  unfold stored
  cases h : kvs.any (fun kv => kv.1 = k) with
  | true => simp only [if_true]; rw [valueAt_map, h]; rfl
  | false => simp only [Bool.false_eq_true, if_false]; exact valueAt_app k k' v kvs h
theorem valueAt_self (k : K) (v : Value) (kvs : List (K × Value)) : valueAt (stored kvs k v) k = some v := by rw [valueAt_stored, if_pos rfl]
end
noncomputable def Thru : Prop := True
section
local macro_rules | `(tactic| walk_at "eval Name") => `(tactic| (k_here; k_dflt (refine nameX_L (by k_asm) (by first | with_reducible assumption | exact (if_neg (by decide)).trans (by with_reducible assumption)) ?_)))
local macro_rules | `(tactic| k_all) => `(tactic| first | exact List.forall_mem_nil _ | with_reducible assumption | (refine List.forall_mem_cons.mpr ⟨by k_ne, by k_all⟩))
local macro_rules | `(tactic| walk_at "subscriptTail") => `(tactic| (k_here; (try dsimp only); (with_reducible show wpAny _ _ (subscriptTail _ _ (Value.ref _) (Value.int _ _)) _ _ _); k_dflt (refine item_L (by k_asm) (by k_mem) (by assumption) (by assumption) (by assumption) ?_)))
local macro_rules | `(tactic| walk_at "call ref") => `(tactic| (refine hold ?_))
local macro_rules | `(tactic| walk_at "setItem ref int") => `(tactic| (refine hold ?_))
theorem data_rows_c {w : World} (W TH S IN O OD S2 DD x : Nat) (oW oD : Obj) (c : Int) (tc : Tok) (t1 t2 t3 : Tok) (n3 : Nat) (ths : List Nat) (kvs : List (Int × Value)) (n : Int) (tk : Tok) (st : Tst)
    (hW : oW.IsDictOf (strKind PySem.Challenge.rw_ac0032_01.row.prog w) (worldKvs TH S IN O DD c tc)) (hD : oD.IsDictOf (intKind PySem.Challenge.rw_ac0032_01.row.prog w) kvs) (hn : 0 ≤ n ∧ n < 1000000) (hw : 4 ≤ (n.fdiv 8).fmod 9 ∧ (n.fdiv 8).fmod 9 < 7) (hr : (n.fdiv 8).fmod 9 = 4 → (n.fdiv 72).fmod 3 ≠ 0)
    (hc : 0 ≤ c ∧ c ≤ 1000) (hkl : kvs.length ≤ 64) (hx : (things ths)[(n.fmod 8).toNat]? = some (.ref x)) (hxm : x ∈ ths) (hDD : ((DD : Addr) == sysModules) = false) (t : Tok) (DA nr : Nat) (rows : List Row) (hne : @Ne Nat W DD ∧ @Ne Nat W OD ∧ @Ne Nat W st.TD ∧ @Ne Nat DD OD ∧ @Ne Nat DD st.TD) (hlen : rows.length ≤ 8) (hrx : ∀ r ∈ rows, r.x ∈ ths)
    (hlo : W ∉ ths ∧ TH ∉ ths ∧ DD ∉ ths ∧ O ∉ ths ∧ OD ∉ ths ∧ st.T ∉ ths ∧ st.TD ∉ ths ∧ DA ∉ ths) :
    Claim w 160 800 870 [.ref W, .int n tk] ((W, oW) :: (TH, listOf (things ths).toArray n3) :: (DD, oD) :: ownerLed w O OD S2 (.ref st.T) t1 t2 t3 ++ [(st.T, instObj 542 st.TD), (st.TD, dictOf (st.ents w S2 active (.ref O) [ent w "_data" t (.ref DA)]) 13), (DA, listOf (rowVals rows).toArray nr)]) [W, DD, st.TD] (fun h => RowsAt rows h ∧ StandN ths h)
      (fun h v h' => v = .bool true ∧ ∃ (oW' oD' : Obj) (tc' : Tok) (y DA' nr' a' : Nat), h'.get? W = some oW' ∧ oW'.IsDictOf (strKind PySem.Challenge.rw_ac0032_01.row.prog w) (worldKvs TH S IN O DD (c + 1) tc') ∧ h'.get? DD = some oD' ∧
        oD'.IsDictOf (intKind PySem.Challenge.rw_ac0032_01.row.prog w) (stored kvs (n.fmod 8) (.ref y)) ∧ h.get? DA' = none ∧ h.get? a' = none ∧ h'.get? st.TD = some (dictOf (st.ents w S2 active (.ref O) [ent w "_data" t (.ref DA')]) 13) ∧
        h'.get? DA' = some (listOf (rowVals (rows.filter (fun r => r.x != x) ++ [⟨a', x, y⟩])).toArray nr') ∧ IsTup h' a' #[.ref x, .ref y]) := by
  refine one_head 4 (by decide) (by decide) (way4 hw hr) ?_
  unfold OneBody ownerLed
  intro dp un gd scope i0 i1 rs cd outer A₀ base h₀ hs g' L L' m mg mb mean s Q E τ0 τ1 τ2 hpart N hG l1 B' F' μ1 μ2 μ3 μ4 X' N' T' hd hu hpre hret hnext
  simp only [List.cons_append, List.nil_append] at N N' l1 hG
  k_lt l1
  revert X'
  k_fill
  intro X'
  rw [show stAt 4 i1 = brOf (lev 4 i1) from rfl]
  have hp := beg_of (by k_is) hpart
  dsimp only [begTail] at hp
  cases hp
  clear hpart
  try dsimp only [lev, brOf]
  obtain ⟨k0, k8⟩ := fm8 n
  obtain ⟨n1, n2, n3', n4, n5⟩ := hne
  have cW := isDictOf_cls hW
  have cD := isDictOf_cls hD
  have w1 : @Ne Nat TH W := News.ne N' (by k_mem) (by k_mem) (by rw [cW]; exact fun q => absurd (Value.type.inj q) (show ¬ ("list" = "dict") by decide))
  have w2 : @Ne Nat O W := News.ne N' (by k_mem) (by k_mem) (by rw [cW]; exact fun q => Value.noConfusion q)
  have w3 : @Ne Nat st.T W := News.ne N' (by k_mem) (by k_mem) (by rw [cW]; exact fun q => Value.noConfusion q)
  have w4 : @Ne Nat DA W := News.ne N' (by k_mem) (by k_mem) (by rw [cW]; exact fun q => absurd (Value.type.inj q) (show ¬ ("list" = "dict") by decide))
  have d1 : @Ne Nat TH DD := News.ne N' (by k_mem) (by k_mem) (by rw [cD]; exact fun q => absurd (Value.type.inj q) (show ¬ ("list" = "dict") by decide))
  have d2 : @Ne Nat O DD := News.ne N' (by k_mem) (by k_mem) (by rw [cD]; exact fun q => Value.noConfusion q)
  have d3 : @Ne Nat st.T DD := News.ne N' (by k_mem) (by k_mem) (by rw [cD]; exact fun q => Value.noConfusion q)
  have d4 : @Ne Nat DA DD := News.ne N' (by k_mem) (by k_mem) (by rw [cD]; exact fun q => absurd (Value.type.inj q) (show ¬ ("list" = "dict") by decide))
  obtain ⟨o1, o2, o3, o4, o5, o6, o7, o8⟩ := hlo
  have hR : RowsAt rows g' := hpre.1.base N hG ((fa8 (by rw [cW]; exact fun q => absurd (Value.type.inj q) (show ¬ ("dict" = "tuple") by decide)) (fun q => absurd (Value.type.inj q) (show ¬ ("list" = "tuple") by decide)) (by rw [cD]; exact fun q => absurd (Value.type.inj q) (show ¬ ("dict" = "tuple") by decide)) (fun q => Value.noConfusion q) (fun q => absurd (Value.type.inj q) (show ¬ ("dict" = "tuple") by decide)) (fun q => Value.noConfusion q) (fun q => absurd (Value.type.inj q) (show ¬ ("dict" = "tuple") by decide)) (fun q => absurd (Value.type.inj q) (show ¬ ("list" = "tuple") by decide))))
  have hX : StandN ths g' := hpre.2.base hG ((fa8 o1 o2 o3 o4 o5 o6 o7 o8))
  k_steps
  rename News g' L' _ _ => N₁
  rename Fr g' L' _ _ => F₁
  refine Hold.out (kda_set (knd := intKind _ _) F₁ N₁ (by k_updF) hD (intKind_is _ _ _ _) (Nat.le_trans hkl (by decide)) ?_)
  intro h₃ oD' F₃ N₃ hD'
  try dsimp only at N₃
  clear F₁ N₁
  try dsimp only
  k_steps
  rename News g' L' _ _ => N₁
  rename Fr g' L' _ _ => F₁
  refine Hold.out (Claim.use (get_old_c O OD S2 t1 t2 t3 st.T) B' F₁ X' N₁ T' rfl ?_ ?_ ?_ trivial ?_)
  · exact (fa2 (by k_mem) (by k_mem))
  · first | exact room hd (by decide) | exact room hu (by decide) | omega
  · first | exact room hd (by decide) | exact room hu (by decide) | omega
  rintro v h₂ tk₂ hk₂ rfl
  have hk3 : ∀ b o, _ → h₂.get? b = some o := fun b o e => hk₂ b o e List.not_mem_nil
  have N₂ := News.keep N₁ hk3
  have F₂ := F₁.keptAll hk3
  clear N₁ F₁ hk₂ hk3
  try dsimp only
  k_steps
  rename News g' L' _ _ => N₁
  refine getItem_D (N₁.get (by k_mem)) hD' (valueAt_self _ _ _) ?_
  try dsimp only
  k_steps
  rename News g' L' _ _ => N₁
  rename Fr g' L' _ _ => F₁
  rename Obj.IsDictOf (PySem.strKind _ _) _ _ => hd9
  have B₁ := fresh_back2 N hG F₁ ((fa8 ⟨_, N₁.get (by k_mem)⟩ ⟨_, N₁.get (by k_mem)⟩ ⟨_, N₁.get (by k_mem)⟩ ⟨_, N₁.get (by k_mem)⟩ ⟨_, N₁.get (by k_mem)⟩ ⟨_, N₁.get (by k_mem)⟩ ⟨_, N₁.get (by k_mem)⟩ ⟨_, N₁.get (by k_mem)⟩))
  have K₁ : ∀ b o, hs.get? b = some o → b ∉ ([W, DD] : List Addr) → _ := kept_end N hG F₁.keep ((fa8 (fun q => absurd (.head _) q) (fun _ => N₁.get (by k_mem)) (fun q => absurd (in1) q) (fun _ => N₁.get (by k_mem)) (fun _ => N₁.get (by k_mem)) (fun _ => N₁.get (by k_mem)) (fun _ => N₁.get (by k_mem)) (fun _ => N₁.get (by k_mem))))
  refine Hold.out (Claim.use (setdata_old_c st S2 (.ref O) t DA nr rows x _ ths hlen hxm hrx ⟨o6, o7, o8⟩) B' F₁ X' N₁ T' rfl ?_ ?_ ?_ ⟨hR.keeps F₁.keep, hX.keeps F₁.keep⟩ ?_)
  · exact (fa3 (by k_mem) (by k_mem) (by k_mem))
  · first | exact room hd (by decide) | exact room hu (by decide) | omega
  · first | exact room hd (by decide) | exact room hu (by decide) | omega
  rintro v h₂ tk₂ hk₂ ⟨rfl, DA', nr', a', z1, z2, z3, z4, z5⟩
  have F₂ := Fr.turns F₁ N₁ ((fa1 ⟨_, by k_mem⟩)) hk₂
  have gW := hk₂ _ _ (N₁.get (a := W) (by k_mem)) (notin_cons n3' notin_nil)
  have gD := hk₂ _ _ (N₁.get (a := DD) (by k_mem)) (notin_cons n5 notin_nil)
  have K₂ : ∀ b o, hs.get? b = some o → b ∉ ([W, DD, st.TD] : List Addr) → h₂.get? b = some o := fun b o e hb =>
    hk₂ _ _ (K₁ b o e (fun q => hb (by
      rcases List.mem_cons.mp q with rfl | q
      · exact .head _
      · rw [List.mem_singleton.mp q]; exact in1))) (fun q => hb (by rw [List.mem_singleton.mp q]; exact in2))
  have N₂ : News g' L' h₂ [] := fun _ h => nomatch h
  have y1 := B₁ _ z1
  have y2 := B₁ _ z2
  clear hk₂ N₁ F₁ K₁ B₁ z1 z2
  try dsimp only
  k_steps
  rename Fr g' L' _ _ => F₉
  exact hnext _ _ _ F₉ K₂ ⟨rfl, _, oD', _, _, DA', nr', a', gW, hd9, gD, hD', y1, y2, z3, z4, z5⟩
end
end Mine
end
section
open PySem PySem.W PyProof.Rows PySem.Calls PySem.Spec PyProof.V
namespace Mine
local macro_rules | `(tactic| k_lt $h:ident) => `(tactic| (replace $h := allLt_of $h; dsimp only [AllLt] at $h:ident))
section
local macro_rules | `(tactic| walk_at "eval Name") => `(tactic| (k_here; k_dflt (refine nameX_L (by k_asm) (by first | with_reducible assumption | exact (if_neg (by decide)).trans (by with_reducible assumption)) ?_)))
local macro_rules | `(tactic| k_all) => `(tactic| first | exact List.forall_mem_nil _ | with_reducible assumption | (refine List.forall_mem_cons.mpr ⟨by k_ne, by k_all⟩))
local macro_rules | `(tactic| walk_at "subscriptTail") => `(tactic| (k_here; (try dsimp only); (with_reducible show wpAny _ _ (subscriptTail _ _ (Value.ref _) (Value.int _ _)) _ _ _); k_dflt (refine item_L (by k_asm) (by k_mem) (by assumption) (by assumption) (by assumption) ?_)))
local macro_rules | `(tactic| walk_at "call ref") => `(tactic| (refine hold ?_))
local macro_rules | `(tactic| walk_at "setItem ref int") => `(tactic| (refine hold ?_))
theorem data_fresh_c {w : World} (W TH S IN O OD S2 DD x : Nat) (oW oD : Obj) (c : Int) (tc : Tok) (t1 t2 t3 : Tok) (n3 : Nat) (ths : List Nat) (kvs : List (Int × Value)) (n : Int) (tk : Tok) (st : Tst)
    (hW : oW.IsDictOf (strKind PySem.Challenge.rw_ac0032_01.row.prog w) (worldKvs TH S IN O DD c tc)) (hD : oD.IsDictOf (intKind PySem.Challenge.rw_ac0032_01.row.prog w) kvs) (hn : 0 ≤ n ∧ n < 1000000) (hw : 4 ≤ (n.fdiv 8).fmod 9 ∧ (n.fdiv 8).fmod 9 < 7) (hr : (n.fdiv 8).fmod 9 = 4 → (n.fdiv 72).fmod 3 ≠ 0)
    (hc : 0 ≤ c ∧ c ≤ 1000) (hkl : kvs.length ≤ 64) (hx : (things ths)[(n.fmod 8).toNat]? = some (.ref x)) (hDD : ((DD : Addr) == sysModules) = false) (hne : @Ne Nat W DD ∧ @Ne Nat W OD ∧ @Ne Nat W st.TD ∧ @Ne Nat DD OD ∧ @Ne Nat DD st.TD) :
    ClaimM w 160 800 870 [.ref W, .int n tk] ((W, oW) :: (TH, listOf (things ths).toArray n3) :: (DD, oD) :: ownerLed w O OD S2 (.ref st.T) t1 t2 t3 ++ [(st.T, instObj 542 st.TD), (st.TD, dictOf (st.ents w S2 active (.ref O) []) 12)]) [W, DD, st.TD] (fun _ => True)
      (fun h v h' => v = .bool true ∧ ∃ (oW' oD' : Obj) (tc' t : Tok) (y DA' nr' a' : Nat), h'.get? W = some oW' ∧ oW'.IsDictOf (strKind PySem.Challenge.rw_ac0032_01.row.prog w) (worldKvs TH S IN O DD (c + 1) tc') ∧ h'.get? DD = some oD' ∧
        oD'.IsDictOf (intKind PySem.Challenge.rw_ac0032_01.row.prog w) (stored kvs (n.fmod 8) (.ref y)) ∧ h.get? DA' = none ∧ h.get? a' = none ∧ h'.get? st.TD = some (dictOf (st.ents w S2 active (.ref O) [ent w "_data" t (.ref DA')]) 13) ∧
        h'.get? DA' = some (listOf (rowVals [⟨a', x, y⟩]).toArray nr') ∧ IsTup h' a' #[.ref x, .ref y]) False := by
  refine one_headM 4 (by decide) (by decide) (way4 hw hr) ?_
  unfold OneBodyM ownerLed
  intro dp un gd scope i0 i1 rs cd outer A₀ base h₀ hs g' L L' m mg mb mean s Q E τ0 τ1 τ2 hpart N hG l1 B' F' μ1 μ2 μ3 μ4 XB N' TB hd hu hpre hret hnext
  simp only [List.cons_append, List.nil_append] at N N' l1 hG
  k_lt l1
  have X' := XB.keeps B'.stays
  have T' := TB.keeps B'.stays
  revert X'
  k_fill
  intro X'
  rw [show stAt 4 i1 = brOf (lev 4 i1) from rfl]
  have hp := beg_of (by k_is) hpart
  dsimp only [begTail] at hp
  cases hp
  clear hpart
  try dsimp only [lev, brOf]
  obtain ⟨k0, k8⟩ := fm8 n
  obtain ⟨n1, n2, n3', n4, n5⟩ := hne
  have cW := isDictOf_cls hW
  have cD := isDictOf_cls hD
  have w1 : @Ne Nat TH W := News.ne N' (by k_mem) (by k_mem) (by rw [cW]; exact fun q => absurd (Value.type.inj q) (show ¬ ("list" = "dict") by decide))
  have w2 : @Ne Nat O W := News.ne N' (by k_mem) (by k_mem) (by rw [cW]; exact fun q => Value.noConfusion q)
  have d1 : @Ne Nat TH DD := News.ne N' (by k_mem) (by k_mem) (by rw [cD]; exact fun q => absurd (Value.type.inj q) (show ¬ ("list" = "dict") by decide))
  have d2 : @Ne Nat O DD := News.ne N' (by k_mem) (by k_mem) (by rw [cD]; exact fun q => Value.noConfusion q)
  have w3 : @Ne Nat st.T W := News.ne N' (by k_mem) (by k_mem) (by rw [cW]; exact fun q => Value.noConfusion q)
  have d3 : @Ne Nat st.T DD := News.ne N' (by k_mem) (by k_mem) (by rw [cD]; exact fun q => Value.noConfusion q)
  k_steps
  rename News g' L' _ _ => N₁
  rename Fr g' L' _ _ => F₁
  rename Obj => oW9
  rename Obj.IsDictOf (PySem.strKind _ _) _ _ => hd9
  refine Hold.out (kda_set (knd := intKind _ _) F₁ N₁ (by k_updF) hD (intKind_is _ _ _ _) (Nat.le_trans hkl (by decide)) ?_)
  intro h₃ oD' F₃ N₃ hD'
  try dsimp only at N₃
  clear F₁ N₁
  try dsimp only
  k_steps
  rename News g' L' _ _ => N₁
  rename Fr g' L' _ _ => F₁
  refine Hold.out (Claim.use (get_old_c O OD S2 t1 t2 t3 st.T) B' F₁ X' N₁ T' rfl ?_ ?_ ?_ trivial ?_)
  · exact (fa2 (by k_mem) (by k_mem))
  · first | exact room hd (by decide) | exact room hu (by decide) | omega
  · first | exact room hd (by decide) | exact room hu (by decide) | omega
  rintro v h₂ tk₂ hk₂ rfl
  have hk3 : ∀ b o, _ → h₂.get? b = some o := fun b o e => hk₂ b o e List.not_mem_nil
  have N₂ := News.keep N₁ hk3
  have F₂ := F₁.keptAll hk3
  clear N₁ F₁ hk₂ hk3
  try dsimp only
  k_steps
  rename News g' L' _ _ => N₁
  refine getItem_D (N₁.get (by k_mem)) hD' (valueAt_self _ _ _) ?_
  try dsimp only
  k_steps
  rename News g' L' _ _ => N₁
  rename Fr g' L' _ _ => F₁
  have B₁ := fresh_back2 N hG F₁ ((fa7 ⟨_, N₁.get (by k_mem)⟩ ⟨_, N₁.get (by k_mem)⟩ ⟨_, N₁.get (by k_mem)⟩ ⟨_, N₁.get (by k_mem)⟩ ⟨_, N₁.get (by k_mem)⟩ ⟨_, N₁.get (by k_mem)⟩ ⟨_, N₁.get (by k_mem)⟩))
  have f3 : @Ne Nat st.T st.TD := News.ne N₁ (by k_mem) (by k_mem) (fun q => Value.noConfusion q)
  have f4 : @Ne Nat O st.TD := News.ne N₁ (by k_mem) (by k_mem) (fun q => Value.noConfusion q)
  have f5 : @Ne Nat TH st.TD := News.ne N₁ (by k_mem) (by k_mem) (fun q => absurd (Value.type.inj q) (show ¬ ("list" = "dict") by decide))
  have f6 : @Ne Nat OD st.TD := fun q => by
    have z := (N₁ (OD, dictOf [ent w "explicit" t1 (.bool false), ent w "_txn" t2 (.ref st.T), ent w "_synchs" t3 (.ref S2)] 3) (by k_mem)).1
    have z' := (N₁ (st.TD, dictOf (st.ents w S2 active (.ref O) []) 12) (by k_mem)).1
    rw [show (OD, dictOf [ent w "explicit" t1 (.bool false), ent w "_txn" t2 (.ref st.T), ent w "_synchs" t3 (.ref S2)] 3).1 = st.TD from q] at z
    have z'' := Option.some.inj (z.symm.trans z')
    have z3 := congrArg Obj.data z''
    injection z3 with _ z4
    exact absurd z4 (by decide)
  refine Hold.out (ClaimM.use (setdata_new_c st S2 (.ref O) x _) B' F₁ XB N₁ TB rfl ?_ ?_ ?_ trivial ?_ ?_)
  · exact (fa2 (by k_mem) (by k_mem))
  · first | exact room hd (by decide) | exact room hu (by decide) | omega
  · first | exact room hd (by decide) | exact room hu (by decide) | omega
  · rintro v h₂ tk₂ g₂ T₂ F₂ B₂ hk₂ ⟨rfl, t, DA', nr', a', z1, z2, z3, z4, z5⟩
    have kk : ∀ (b : Nat) (o : Obj), (b, o) ∈ _ → @Ne Nat b st.TD → h₂.get? b = some o := fun b o hm hb => hk₂ _ _ (N₁ (b, o) hm).1 (notin_cons hb notin_nil) (News.apart B' N₁ hm)
    have gW := kk W _ (by k_mem) n3'
    have gD := kk DD _ (by k_mem) n5
    have H₂ : ∀ p ∈ ((W, oW) :: (TH, listOf (things ths).toArray n3) :: (DD, oD) :: ownerLed w O OD S2 (.ref st.T) t1 t2 t3 ++ [(st.T, instObj 542 st.TD), (st.TD, dictOf (st.ents w S2 active (.ref O) []) 12)]), p.1 ∉ ([W, DD, st.TD] : List Addr) → h₂.get? p.1 = some p.2 := (fa7 (fun q => absurd (.head _) q) (fun _ => kk TH _ (by k_mem) f5) (fun q => absurd (in1) q) (fun _ => kk O _ (by k_mem) f4) (fun _ => kk OD _ (by k_mem) f6) (fun _ => kk st.T _ (by k_mem) f3) (fun q => absurd (in2) q))
    have K₂ := keptM_end' N hG T₂ F₂ H₂
    have y1 := B₁ _ z1
    have y2 := B₁ _ z2
    have N₂ : News g₂ L' h₂ [] := fun _ h => nomatch h
    have X₂ := XB.keeps B₂.stays
    have P₂ := TB.keeps B₂.stays
    clear hk₂ N₁ F₁ H₂ B₁ z1 z2 kk B' X' T'
    try dsimp only
    k_steps
    rename Fr g₂ L' _ _ => F₉
    exact hnext _ _ _ _ T₂ F₉ K₂ ⟨rfl, oW9, oD', _, t, _, DA', nr', a', gW, hd9, gD, hD', y1, y2, z3, z4, z5⟩
  · intro _ _ _ hf; exact hf.elim
end
end Mine
end
section
open PySem PySem.W PyProof.Rows PySem.Calls PySem.Spec PyProof.V
namespace Mine
local macro_rules | `(tactic| k_lt $h:ident) => `(tactic| (replace $h := allLt_of $h; dsimp only [AllLt] at $h:ident))
theorem ne_of_none {h : Heap} {a b : Addr} {o : Obj} (e : h.get? a = some o) (n : h.get? b = none) : @Ne Nat a b := fun q => by rw [show a = b from q, n] at e; cases e
section
local macro_rules | `(tactic| walk_at "eval Name") => `(tactic| (k_here; k_dflt (refine nameX_L (by k_asm) (by first | with_reducible assumption | exact (if_neg (by decide)).trans (by with_reducible assumption)) ?_)))
local macro_rules | `(tactic| k_all) => `(tactic| first | exact List.forall_mem_nil _ | with_reducible assumption | (refine List.forall_mem_cons.mpr ⟨by k_ne, by k_all⟩))
local macro_rules | `(tactic| walk_at "subscriptTail") => `(tactic| (k_here; (try dsimp only); (with_reducible show wpAny _ _ (subscriptTail _ _ (Value.ref _) (Value.int _ _)) _ _ _); k_dflt (refine item_L (by k_asm) (by k_mem) (by assumption) (by assumption) (by assumption) ?_)))
local macro_rules | `(tactic| walk_at "call ref") => `(tactic| (refine hold ?_))
local macro_rules | `(tactic| walk_at "setItem ref int") => `(tactic| (refine hold ?_))
theorem data_none_c2 {w : World} (W TH S IN O OD S2 DD x : Nat) (oW oD : Obj) (c : Int) (tc : Tok) (t1 t2 t3 : Tok) (n3 : Nat) (ths : List Nat) (kvs : List (Int × Value)) (n : Int) (tk : Tok) (SD2 DL2 : Nat) (h2 : Int) (t4 : Tok) (m2 : Nat)
    (hW : oW.IsDictOf (strKind PySem.Challenge.rw_ac0032_01.row.prog w) (worldKvs TH S IN O DD c tc)) (hD : oD.IsDictOf (intKind PySem.Challenge.rw_ac0032_01.row.prog w) kvs) (hn : 0 ≤ n ∧ n < 1000000) (hw : 4 ≤ (n.fdiv 8).fmod 9 ∧ (n.fdiv 8).fmod 9 < 7) (hr : (n.fdiv 8).fmod 9 = 4 → (n.fdiv 72).fmod 3 ≠ 0)
    (hc : 0 ≤ c ∧ c ≤ 1000) (hkl : kvs.length ≤ 64) (hx : (things ths)[(n.fmod 8).toNat]? = some (.ref x)) (hDD : ((DD : Addr) == sysModules) = false) (hne : @Ne Nat W DD ∧ @Ne Nat W OD ∧ @Ne Nat W SD2 ∧ @Ne Nat DD OD ∧ @Ne Nat DD SD2) (hlo : 875 < OD ∧ OD < O ∧ O < SD2 ∧ SD2 < S2 ∧ S2 < DL2) :
    ClaimM w 160 800 870 [.ref W, .int n tk] ((W, oW) :: (TH, listOf (things ths).toArray n3) :: (DD, oD) :: ownerLed w O OD S2 .none t1 t2 t3 ++ setLed S2 SD2 DL2 h2 t4 [] m2) [W, DD, OD] (fun _ => True)
      (fun h v h' => v = .bool true ∧ ∃ (oW' oD' : Obj) (tc' t : Tok) (y DA' nr' a' : Nat) (st : Tst), h'.get? W = some oW' ∧ oW'.IsDictOf (strKind PySem.Challenge.rw_ac0032_01.row.prog w) (worldKvs TH S IN O DD (c + 1) tc') ∧ h'.get? DD = some oD' ∧
        oD'.IsDictOf (intKind PySem.Challenge.rw_ac0032_01.row.prog w) (stored kvs (n.fmod 8) (.ref y)) ∧ h.get? DA' = none ∧ h.get? a' = none ∧ st.Chain ∧ DL2 < st.TD ∧ (∀ p ∈ st.led w S2 active (.ref O) [ent w "_data" t (.ref DA')] 13, h.get? p.1 = none ∧ @Ne Nat p.1 DA' ∧ @Ne Nat p.1 a') ∧
        Holds h' (st.led w S2 active (.ref O) [ent w "_data" t (.ref DA')] 13) ∧ h'.get? OD = some (dictOf [ent w "explicit" t1 (.bool false), ent w "_txn" t2 (.ref st.T), ent w "_synchs" t3 (.ref S2)] 3) ∧
        h'.get? DA' = some (listOf (rowVals [⟨a', x, y⟩]).toArray nr') ∧ IsTup h' a' #[.ref x, .ref y]) False := by
  refine one_headM 4 (by decide) (by decide) (way4 hw hr) ?_
  unfold OneBodyM ownerLed setLed
  intro dp un gd scope i0 i1 rs cd outer A₀ base h₀ hs g' L L' m mg mb mean s Q E τ0 τ1 τ2 hpart N hG l1 B' F' μ1 μ2 μ3 μ4 XB N' TB hd hu hpre hret hnext
  simp only [List.cons_append, List.nil_append] at N N' l1 hG
  k_lt l1
  have X' := XB.keeps B'.stays
  have T' := TB.keeps B'.stays
  revert X'
  k_fill
  intro X'
  rw [show stAt 4 i1 = brOf (lev 4 i1) from rfl]
  have hp := beg_of (by k_is) hpart
  dsimp only [begTail] at hp
  cases hp
  clear hpart
  try dsimp only [lev, brOf]
  obtain ⟨k0, k8⟩ := fm8 n
  obtain ⟨n1, n2, n3', n4, n5⟩ := hne
  have cW := isDictOf_cls hW
  have cD := isDictOf_cls hD
  have w1 : @Ne Nat TH W := News.ne N' (by k_mem) (by k_mem) (by rw [cW]; exact fun q => absurd (Value.type.inj q) (show ¬ ("list" = "dict") by decide))
  have w2 : @Ne Nat O W := News.ne N' (by k_mem) (by k_mem) (by rw [cW]; exact fun q => Value.noConfusion q)
  have d1 : @Ne Nat TH DD := News.ne N' (by k_mem) (by k_mem) (by rw [cD]; exact fun q => absurd (Value.type.inj q) (show ¬ ("list" = "dict") by decide))
  have d2 : @Ne Nat O DD := News.ne N' (by k_mem) (by k_mem) (by rw [cD]; exact fun q => Value.noConfusion q)
  have w3 : @Ne Nat S2 W := News.ne N' (by k_mem) (by k_mem) (by rw [cW]; exact fun q => Value.noConfusion q)
  have w4 : @Ne Nat DL2 W := News.ne N' (by k_mem) (by k_mem) (by rw [cW]; exact fun q => absurd (Value.type.inj q) (show ¬ ("list" = "dict") by decide))
  have d3 : @Ne Nat S2 DD := News.ne N' (by k_mem) (by k_mem) (by rw [cD]; exact fun q => Value.noConfusion q)
  have d4 : @Ne Nat DL2 DD := News.ne N' (by k_mem) (by k_mem) (by rw [cD]; exact fun q => absurd (Value.type.inj q) (show ¬ ("list" = "dict") by decide))
  have hlo' := hlo
  obtain ⟨v1, v2, v3, v4, v5⟩ := hlo
  have w5 : @Ne Nat TH OD := News.ne N' (by k_mem) (by k_mem) (fun q => absurd (Value.type.inj q) (show ¬ ("list" = "dict") by decide))
  k_steps
  rename News g' L' _ _ => N₁
  rename Fr g' L' _ _ => F₁
  rename Obj => oW9
  rename Obj.IsDictOf (PySem.strKind _ _) _ _ => hd9
  refine Hold.out (kda_set (knd := intKind _ _) F₁ N₁ (by k_updF) hD (intKind_is _ _ _ _) (Nat.le_trans hkl (by decide)) ?_)
  intro h₃ oD' F₃ N₃ hD'
  try dsimp only at N₃
  clear F₁ N₁
  try dsimp only
  k_steps
  rename News g' L' _ _ => N₁
  rename Fr g' L' _ _ => F₁
  refine Hold.out (Claim.use (get_new2_c O OD S2 SD2 DL2 t1 t2 t3 h2 t4 m2 hlo') B' F₁ X' N₁ T' rfl ?_ ?_ ?_ trivial ?_)
  · exact (fa5 (by k_mem) (by k_mem) (by k_mem) (by k_mem) (by k_mem))
  · first | exact room hd (by decide) | exact room hu (by decide) | omega
  · first | exact room hd (by decide) | exact room hu (by decide) | omega
  rintro v h₂ tk₂ hk₂ ⟨st, rfl, hch, hlt, hH, hf, hO⟩
  have F₂ := Fr.turns F₁ N₁ ((fa1 ⟨_, by k_mem⟩)) hk₂
  have hf' : ∀ p ∈ st.led w S2 active (.ref O) [] 12, hs.get? p.1 = none := fun p hp => fresh_back2 N hG F₁ ((fa8 ⟨_, N₁.get (by k_mem)⟩ ⟨_, N₁.get (by k_mem)⟩ ⟨_, N₁.get (by k_mem)⟩ ⟨_, N₁.get (by k_mem)⟩ ⟨_, N₁.get (by k_mem)⟩ ⟨_, N₁.get (by k_mem)⟩ ⟨_, N₁.get (by k_mem)⟩ ⟨_, N₁.get (by k_mem)⟩)) _ (hf p hp)
  have N₂ := News.grow F₁ hH hf (News.turns ((W, oW9) :: (TH, listOf (things ths).toArray n3) :: (DD, oD') :: (OD, dictOf [ent w "explicit" t1 (.bool false), ent w "_txn" t2 (.ref st.T), ent w "_synchs" t3 (.ref S2)] 3) :: (O, instObj 814 OD) :: setLed S2 SD2 DL2 h2 t4 [] m2) N₁ hk₂ ((fa8 (.inl ⟨by k_mem, notin_cons n2 notin_nil⟩) (.inl ⟨by k_mem, notin_cons w5 notin_nil⟩) (.inl ⟨by k_mem, notin_cons n4 notin_nil⟩) (.inr ⟨hO, _, by k_mem⟩) (.inl ⟨by k_mem, (notin_cons (a := O) (Nat.ne_of_gt v2) notin_nil)⟩) (.inl ⟨by k_mem, (notin_cons (a := S2) (Nat.ne_of_gt (Nat.lt_trans v2 (Nat.lt_trans v3 v4))) notin_nil)⟩) (.inl ⟨by k_mem, (notin_cons (a := SD2) (Nat.ne_of_gt (Nat.lt_trans v2 v3)) notin_nil)⟩) (.inl ⟨by k_mem, (notin_cons (a := DL2) (Nat.ne_of_gt (Nat.lt_trans v2 (Nat.lt_trans v3 (Nat.lt_trans v4 v5)))) notin_nil)⟩))))
  unfold Tst.led setLed at N₂
  simp only [List.cons_append, List.nil_append] at N₂
  clear N₁ F₁ hk₂
  try dsimp only
  k_steps
  rename News g' L' _ _ => N₁
  refine getItem_D (N₁.get (by k_mem)) hD' (valueAt_self _ _ _) ?_
  try dsimp only
  k_steps
  rename News g' L' _ _ => N₁
  rename Fr g' L' _ _ => F₁
  have B₁ := fresh_back2 N hG F₁ ((fa8 ⟨_, N₁.get (by k_mem)⟩ ⟨_, N₁.get (by k_mem)⟩ ⟨_, N₁.get (by k_mem)⟩ ⟨_, N₁.get (by k_mem)⟩ ⟨_, N₁.get (by k_mem)⟩ ⟨_, N₁.get (by k_mem)⟩ ⟨_, N₁.get (by k_mem)⟩ ⟨_, N₁.get (by k_mem)⟩))
  have cc := hch
  obtain ⟨c1, c2, c3, c4, c5, c6, c7⟩ := cc
  have zL : ∀ p ∈ st.lists, @Ne Nat p.1 st.TD := fun p hp => Nat.ne_of_gt (Nat.lt_trans c1 (hch.lists p hp))
  have yS : @LT.lt Nat _ S2 st.TD := Nat.lt_trans v5 hlt
  have yD : @LT.lt Nat _ SD2 st.TD := Nat.lt_trans v4 yS
  have yO : @LT.lt Nat _ O st.TD := Nat.lt_trans v3 yD
  have zOD : @Ne Nat OD st.TD := Nat.ne_of_lt (Nat.lt_trans v2 yO)
  have zO : @Ne Nat O st.TD := Nat.ne_of_lt yO
  have zS2 : @Ne Nat S2 st.TD := Nat.ne_of_lt yS
  have zSD2 : @Ne Nat SD2 st.TD := Nat.ne_of_lt yD
  have zDL : @Ne Nat DL2 st.TD := Nat.ne_of_lt hlt
  have u : ∀ p ∈ st.led w S2 active (.ref O) [] 12, @Ne Nat p.1 W ∧ @Ne Nat p.1 DD ∧ @Ne Nat p.1 TH := fun p hp => ⟨(ne_of_none (N (W, oW) (by k_mem)).1 (hf' p hp)).symm, (ne_of_none (N (DD, oD) (by k_mem)).1 (hf' p hp)).symm, (ne_of_none (N (TH, listOf (things ths).toArray n3) (by k_mem)).1 (hf' p hp)).symm⟩
  have uT := u _ (in1)
  dsimp only at uT
  refine Hold.out (ClaimM.use (setdata_new_c st S2 (.ref O) x _) B' F₁ XB N₁ TB rfl ?_ ?_ ?_ trivial ?_ ?_)
  · exact (fa2 (by k_mem) (by k_mem))
  · first | exact room hd (by decide) | exact room hu (by decide) | omega
  · first | exact room hd (by decide) | exact room hu (by decide) | omega
  · rintro v h₂ tk₂ g₂ T₂ F₂ B₂ hk₂ ⟨rfl, t, DA', nr', a', z1, z2, z3, z4, z5⟩
    have kk : ∀ (b : Nat) (o : Obj), (b, o) ∈ _ → @Ne Nat b st.TD → h₂.get? b = some o := fun b o hm hb => hk₂ _ _ (N₁ (b, o) hm).1 (notin_cons hb notin_nil) (News.apart B' N₁ hm)
    have gW := kk W _ (by k_mem) uT.1.symm
    have gD := kk DD _ (by k_mem) uT.2.1.symm
    have gO := kk OD _ (by k_mem) zOD
    have HS : Holds h₂ (st.led w S2 active (.ref O) [ent w "_data" t (.ref DA')] 13) := (fa8 (kk st.T _ (by k_mem) (Nat.ne_of_gt c1)) z3 (kk st.R _ (by k_mem) (zL (st.R, listOf #[] 0) in0)) (kk st.V _ (by k_mem) (zL (st.V, listOf #[] 0) in1)) (kk st.B1 _ (by k_mem) (zL (st.B1, listOf #[] 0) in2)) (kk st.A1 _ (by k_mem) (zL (st.A1, listOf #[] 0) in3)) (kk st.B2 _ (by k_mem) (zL (st.B2, listOf #[] 0) in4)) (kk st.A2 _ (by k_mem) (zL (st.A2, listOf #[] 0) in5)))
    have u9 : ∀ p ∈ st.led w S2 active (.ref O) [] 12, @Ne Nat p.1 DA' ∧ @Ne Nat p.1 a' := (fa8 ⟨ne_of_none (N₁ (st.T, _) (by k_mem)).1 z1, ne_of_none (N₁ (st.T, _) (by k_mem)).1 z2⟩ ⟨ne_of_none (N₁ (st.TD, _) (by k_mem)).1 z1, ne_of_none (N₁ (st.TD, _) (by k_mem)).1 z2⟩ ⟨ne_of_none (N₁ (st.R, _) (by k_mem)).1 z1, ne_of_none (N₁ (st.R, _) (by k_mem)).1 z2⟩ ⟨ne_of_none (N₁ (st.V, _) (by k_mem)).1 z1, ne_of_none (N₁ (st.V, _) (by k_mem)).1 z2⟩ ⟨ne_of_none (N₁ (st.B1, _) (by k_mem)).1 z1, ne_of_none (N₁ (st.B1, _) (by k_mem)).1 z2⟩ ⟨ne_of_none (N₁ (st.A1, _) (by k_mem)).1 z1, ne_of_none (N₁ (st.A1, _) (by k_mem)).1 z2⟩ ⟨ne_of_none (N₁ (st.B2, _) (by k_mem)).1 z1, ne_of_none (N₁ (st.B2, _) (by k_mem)).1 z2⟩ ⟨ne_of_none (N₁ (st.A2, _) (by k_mem)).1 z1, ne_of_none (N₁ (st.A2, _) (by k_mem)).1 z2⟩)
    have uf : ∀ p ∈ st.led w S2 active (.ref O) [ent w "_data" t (.ref DA')] 13, hs.get? p.1 = none ∧ @Ne Nat p.1 DA' ∧ @Ne Nat p.1 a' := (fa8 ⟨hf' (st.T, _) (.head _), u9 (st.T, _) (.head _)⟩ ⟨hf' (st.TD, dictOf (st.ents w S2 active (.ref O) []) 12) (in1), u9 (st.TD, dictOf (st.ents w S2 active (.ref O) []) 12) (in1)⟩ ⟨hf' (st.R, _) (in2), u9 (st.R, _) (in2)⟩ ⟨hf' (st.V, _) (in3), u9 (st.V, _) (in3)⟩ ⟨hf' (st.B1, _) (in4), u9 (st.B1, _) (in4)⟩ ⟨hf' (st.A1, _) (in5), u9 (st.A1, _) (in5)⟩ ⟨hf' (st.B2, _) (in6), u9 (st.B2, _) (in6)⟩ ⟨hf' (st.A2, _) (in7), u9 (st.A2, _) (in7)⟩)
    have H₂ : ∀ p ∈ ((W, oW) :: (TH, listOf (things ths).toArray n3) :: (DD, oD) :: ownerLed w O OD S2 .none t1 t2 t3 ++ setLed S2 SD2 DL2 h2 t4 [] m2), p.1 ∉ ([W, DD, OD] : List Addr) → h₂.get? p.1 = some p.2 := (fa8 (fun q => absurd (.head _) q) (fun _ => kk TH _ (by k_mem) uT.2.2.symm) (fun q => absurd (in1) q) (fun _ => kk O _ (by k_mem) zO) (fun q => absurd (in2) q) (fun _ => kk S2 _ (by k_mem) zS2) (fun _ => kk SD2 _ (by k_mem) zSD2) (fun _ => kk DL2 _ (by k_mem) zDL))
    have K₂ := keptM_end' N hG T₂ F₂ H₂
    have y1 := B₁ _ z1
    have y2 := B₁ _ z2
    have N₂ : News g₂ L' h₂ [] := fun _ h => nomatch h
    have X₂ := XB.keeps B₂.stays
    have P₂ := TB.keeps B₂.stays
    clear hk₂ N₁ F₁ H₂ B₁ z1 z2 kk B' X' T' u u9 hf hf' hH
    try dsimp only
    k_steps
    rename Fr g₂ L' _ _ => F₉
    exact hnext _ _ _ _ T₂ F₉ K₂ ⟨rfl, oW9, oD', _, t, _, DA', nr', a', st, gW, hd9, gD, hD', y1, y2, hch, hlt, uf, HS, gO, z4, z5⟩
  · intro _ _ _ hf; exact hf.elim
end
end Mine
end
section
open PySem PySem.W PyProof.Rows PySem.Calls PySem.Spec PyProof.V
namespace Mine
theorem fd2 {n : Int} (hn : 0 ≤ n ∧ n < 1000000) : 0 ≤ n.fdiv 2 ∧ n.fdiv 2 < 1000000 := by rw [Int.fdiv_eq_ediv_of_nonneg n (by decide)]; omega
section
local macro_rules | `(tactic| walk_at "eval Name") => `(tactic| (k_here; k_dflt (refine nameX_L (by k_asm) (by first | with_reducible assumption | exact (if_neg (by decide)).trans (by with_reducible assumption)) ?_)))
local macro_rules | `(tactic| k_all) => `(tactic| first | exact List.forall_mem_nil _ | with_reducible assumption | (refine List.forall_mem_cons.mpr ⟨by k_ne, by k_all⟩))
local macro_rules | `(tactic| walk_at "ite") => `(tactic| first | ((with_reducible refine ieq_neg ?h ?_); (case h => omega)) | ((with_reducible refine ieq_pos ?h ?_); (case h => omega)))
local macro_rules | `(tactic| walk_at "subscriptTail") => `(tactic| (k_here; (try dsimp only); (with_reducible show wpAny _ _ (subscriptTail _ _ (Value.ref _) (Value.int _ _)) _ _ _); k_dflt (refine item_L (by k_asm) (by k_mem) (by assumption) (by assumption) (by assumption) ?_)))
local macro_rules | `(tactic| walk_at "call ref") => `(tactic| (refine hold ?_))
local macro_rules | `(tactic| walk_at "call builtin:list.append") => `(tactic| (refine hold ?_))
local macro_rules | `(tactic| walk_at "call builtin:isinstance") => `(tactic| (refine hold ?_))
theorem one_append {w : World} (W TH S IN O DD x : Nat) (oW : Obj) (c : Int) (tc : Tok) (n3 : Nat) (ths : List Nat) (n : Int) (tk : Tok) (its : Array Value) (mx : Nat)
    (hW : oW.IsDictOf (strKind PySem.Challenge.rw_ac0032_01.row.prog w) (worldKvs TH S IN O DD c tc)) (hn : 0 ≤ n ∧ n < 1000000) (hw : (n.fdiv 8).fmod 9 = 7) (hx : (things ths)[(n.fmod 8).toNat]? = some (.ref x)) (hxT : @Ne Nat x TH) (hsz : its.size ≤ 1000) :
    Claim w 120 600 870 [.ref W, .int n tk] [(W, oW), (TH, listOf (things ths).toArray n3), (x, listOf its mx)] [x] (fun _ => True) (fun h v h' => v = .bool true ∧ ∃ t mx', h'.get? x = some (listOf (its.push (.int 0 t)) mx')) := by
  refine one_head 5 (by decide) (by decide) (way5 hw) ?_
  unfold OneBody 
  intro dp un gd scope i0 i1 rs cd outer A₀ base h₀ hs g' L L' m mg mb mean s Q E τ0 τ1 τ2 hpart N hG l1 B' F' μ1 μ2 μ3 μ4 X' N' T' hd hu hpre hret hnext
  k_lt l1
  revert X'
  k_fill
  intro X'
  rw [show stAt 5 i1 = [lev 5 i1] from rfl]
  have hp := beg_of (by k_is) hpart
  dsimp only [begTail] at hp
  cases hp
  clear hpart
  try dsimp only [lev, brOf]
  obtain ⟨k0, k8⟩ := fm8 n
  have w1 : @Ne Nat x W := News.ne N' (by k_mem) (by k_mem) (by rw [isDictOf_cls hW]; exact fun q => absurd (Value.type.inj q) (show ¬ ("list" = "dict") by decide))
  k_steps
  rename News g' L' _ _ => N₁
  refine Hold.out (IsiPair.list_list (N₁.get (a := x) (o := listOf its mx) (by k_mem)) rfl ?_)
  k_steps
  rename News g' L' _ _ => N₁
  rename Fr g' L' _ _ => F₁
  refine Hold.out (append_K F₁ N₁ (by k_upd) ?_ (Nat.le_trans hsz (by decide)))
  intro h₃ F₃ N₃
  clear F₁ N₁
  k_steps
  rename Fr g' L' _ _ => F₉
  exact hnext _ _ _ F₉ (kept_end N hG F₉.keep ((fa3 (fun _ => N₃.get (by k_mem)) (fun _ => N₃.get (by k_mem)) (fun q => absurd (.head _) q)))) ⟨rfl, _, _, N₃.get (by k_mem)⟩
theorem one_skip {w : World} (W TH S IN O DD x : Nat) (oW oX : Obj) (c : Int) (tc : Tok) (n3 : Nat) (ths : List Nat) (n : Int) (tk : Tok)
    (hW : oW.IsDictOf (strKind PySem.Challenge.rw_ac0032_01.row.prog w) (worldKvs TH S IN O DD c tc)) (hn : 0 ≤ n ∧ n < 1000000) (hw : (n.fdiv 8).fmod 9 = 7) (hx : (things ths)[(n.fmod 8).toNat]? = some (.ref x)) (hcl : oX.cls = .type "dict") :
    Claim w 120 600 870 [.ref W, .int n tk] [(W, oW), (TH, listOf (things ths).toArray n3), (x, oX)] [] (fun _ => True) (fun h v h' => v = .bool true) := by
  refine one_head 5 (by decide) (by decide) (way5 hw) ?_
  unfold OneBody 
  intro dp un gd scope i0 i1 rs cd outer A₀ base h₀ hs g' L L' m mg mb mean s Q E τ0 τ1 τ2 hpart N hG l1 B' F' μ1 μ2 μ3 μ4 X' N' T' hd hu hpre hret hnext
  k_lt l1
  revert X'
  k_fill
  intro X'
  rw [show stAt 5 i1 = [lev 5 i1] from rfl]
  have hp := beg_of (by k_is) hpart
  dsimp only [begTail] at hp
  cases hp
  clear hpart
  try dsimp only [lev, brOf]
  obtain ⟨k0, k8⟩ := fm8 n
  k_steps
  rename News g' L' _ _ => N₁
  refine Hold.out (IsiPair.dict_list (N₁.get (a := x) (o := oX) (by k_mem)) hcl ?_)
  k_steps
  rename Fr g' L' _ _ => F₃
  rename News g' L' _ _ => N₃
  rename Fr g' L' _ _ => F₉
  exact hnext _ _ _ F₉ (kept_end N hG F₉.keep ((fa3 (fun _ => N₃.get (by k_mem)) (fun _ => N₃.get (by k_mem)) (fun _ => N₃.get (by k_mem))))) rfl
theorem one_ended_new {w : World} (W TH S IN O OD S2 SD2 DL2 DD : Nat) (oW : Obj) (c : Int) (tc : Tok) (t1 t2 t3 : Tok) (h2 : Int) (t4 : Tok) (m2 : Nat) (pc pa : Array Value) (n : Int) (tk : Tok)
    (hW : oW.IsDictOf (strKind PySem.Challenge.rw_ac0032_01.row.prog w) (worldKvs TH S IN O DD c tc)) (hlo : 875 < OD ∧ OD < O ∧ O < SD2 ∧ SD2 < S2 ∧ S2 < DL2) (hWl : 875 < W ∧ @Ne Nat W OD ∧ @Ne Nat W SD2) (hn : 0 ≤ n ∧ n < 1000000) (hw : (n.fdiv 8).fmod 9 = 8) (hr : (n.fdiv 72).fmod 2 = 0) :
    Claim w 300 1500 870 [.ref W, .int n tk] ((W, oW) :: (353, tabObj pc) :: (505, tabObj pa) :: ownerLed w O OD S2 .none t1 t2 t3 ++ setLed S2 SD2 DL2 h2 t4 [] m2) [W, 353, 505, OD] (fun _ => TriplesOk pc.toList ∧ TriplesOk pa.toList) (fun h v h' => v = .bool true ∧ (∃ oW' DD' oD', h'.get? W = some oW' ∧ oW'.IsDictOf (strKind PySem.Challenge.rw_ac0032_01.row.prog w) (worldKvs TH S IN O DD' c tc) ∧ h.get? DD' = none ∧ ((DD' : Addr) == sysModules) = false ∧ h'.get? DD' = some oD' ∧ oD'.IsDictOf (intKind PySem.Challenge.rw_ac0032_01.row.prog w) []) ∧ (∃ ps, TriplesOk ps.toList ∧ h'.get? 353 = some (tabObj ps)) ∧ (∃ ps, TriplesOk ps.toList ∧ h'.get? 505 = some (tabObj ps)) ∧ (h'.get? OD = some (dictOf [ent w "explicit" t1 (.bool false), ent w "_txn" t2 .none, ent w "_synchs" t3 (.ref S2)] 3) ∨ ∃ zz : Tst, zz.Chain ∧ DL2 < zz.TD ∧ Holds h' (zz.led w S2 active (.ref O) [] 12) ∧ (∀ p ∈ zz.led w S2 active (.ref O) [] 12, h.get? p.1 = none) ∧
      h'.get? OD = some (dictOf [ent w "explicit" t1 (.bool false), ent w "_txn" t2 (.ref zz.T), ent w "_synchs" t3 (.ref S2)] 3))) := by
  refine one_head 6 (by decide) (by decide) (way6 hw hr) ?_
  unfold OneBody ownerLed setLed
  intro dp un gd scope i0 i1 rs cd outer A₀ base h₀ hs g' L L' m mg mb mean s Q E τ0 τ1 τ2 hpart N hG l1 B' F' μ1 μ2 μ3 μ4 X' N' T' hd hu hpre hret hnext
  simp only [List.cons_append, List.nil_append] at N N' l1 hG
  clear l1
  revert X'
  k_fill
  intro X'
  rw [show stAt 6 i1 = brOf (lev 6 i1) from rfl]
  have hp := beg_of (by k_is) hpart
  dsimp only [begTail] at hp
  cases hp
  clear hpart
  try dsimp only [lev, brOf]
  obtain ⟨k0, k8⟩ := fm8 n
  obtain ⟨q0, q1⟩ := fd72 hn
  have hb := fd2 ⟨q0, q1⟩
  k_steps
  rename News g' L' _ _ => N₁
  rename Fr g' L' _ _ => F₁
  have B₁ := fresh_back2 N hG F₁ ((fa8 ⟨_, N₁.get (by k_mem)⟩ ⟨_, N₁.get (by k_mem)⟩ ⟨_, N₁.get (by k_mem)⟩ ⟨_, N₁.get (by k_mem)⟩ ⟨_, N₁.get (by k_mem)⟩ ⟨_, N₁.get (by k_mem)⟩ ⟨_, N₁.get (by k_mem)⟩ ⟨_, N₁.get (by k_mem)⟩))
  have K₁ : ∀ b o, hs.get? b = some o → b ∉ ([] : List Addr) → _ := kept_end N hG F₁.keep ((fa8 (fun _ => N₁.get (by k_mem)) (fun _ => N₁.get (by k_mem)) (fun _ => N₁.get (by k_mem)) (fun _ => N₁.get (by k_mem)) (fun _ => N₁.get (by k_mem)) (fun _ => N₁.get (by k_mem)) (fun _ => N₁.get (by k_mem)) (fun _ => N₁.get (by k_mem))))
  refine Hold.out (Claim.use (ended_new_c W TH S IN O OD S2 SD2 DL2 DD oW c tc t1 t2 t3 h2 t4 m2 pc pa _ _ hW hlo hWl hb) B' F₁ X' N₁ T' rfl ?_ ?_ ?_ hpre ?_)
  · exact (fa8 (by k_mem) (by k_mem) (by k_mem) (by k_mem) (by k_mem) (by k_mem) (by k_mem) (by k_mem))
  · first | exact room hd (by decide) | exact room hu (by decide) | omega
  · first | exact room hd (by decide) | exact room hu (by decide) | omega
  rintro v h₂ tk₂ hk₂ ⟨rfl, ⟨oW', DD', oD', g1, g2, g3, g4, g5, g6⟩, p1, p2, p3⟩
  have F₂ := Fr.turns F₁ N₁ ((fa4 ⟨_, by k_mem⟩ ⟨_, by k_mem⟩ ⟨_, by k_mem⟩ ⟨_, by k_mem⟩)) hk₂
  have N₂ : News g' L' h₂ [] := fun _ h => nomatch h
  have K₂ : ∀ b o, hs.get? b = some o → b ∉ ([W, 353, 505, OD] : List Addr) → h₂.get? b = some o := fun b o e hb => hk₂ _ _ (K₁ b o e notin_nil) hb
  have y1 := B₁ _ g3
  have p3' : h₂.get? OD = some (dictOf [ent w "explicit" t1 (.bool false), ent w "_txn" t2 .none, ent w "_synchs" t3 (.ref S2)] 3) ∨ ∃ zz : Tst, zz.Chain ∧ DL2 < zz.TD ∧ Holds h₂ (zz.led w S2 active (.ref O) [] 12) ∧ (∀ p ∈ zz.led w S2 active (.ref O) [] 12, hs.get? p.1 = none) ∧
      h₂.get? OD = some (dictOf [ent w "explicit" t1 (.bool false), ent w "_txn" t2 (.ref zz.T), ent w "_synchs" t3 (.ref S2)] 3) := p3.imp id fun ⟨zz, a1, a2, a3, a4, a5⟩ => ⟨zz, a1, a2, a3, fun p hp => B₁ _ (a4 p hp), a5⟩
  clear hk₂ N₁ F₁ K₁ B₁ g3 p3
  try dsimp only
  k_steps
  rename Fr g' L' _ _ => F₉
  exact hnext _ _ _ F₉ K₂ ⟨rfl, ⟨oW', DD', oD', g1, g2, y1, g4, g5, g6⟩, p1, p2, p3'⟩
theorem one_ended_old {w : World} (W TH S IN O OD S2 SD2 DL2 DD : Nat) (oW : Obj) (c : Int) (tc : Tok) (t1 t2 t3 : Tok) (h2 : Int) (t4 : Tok) (m2 : Nat) (pc pa : Array Value) (n : Int) (tk : Tok) (st : Tst) (hc : st.Chain) (more : List DictEntry) (nm : Nat) (hm : MoreOk w more nm)
    (hW : oW.IsDictOf (strKind PySem.Challenge.rw_ac0032_01.row.prog w) (worldKvs TH S IN O DD c tc)) (hlo : 875 < OD ∧ OD < O ∧ O < SD2 ∧ SD2 < S2 ∧ S2 < DL2 ∧ DL2 < st.TD) (hWl : 875 < W ∧ @Ne Nat W OD ∧ @Ne Nat W SD2 ∧ @Ne Nat W st.TD) (hn : 0 ≤ n ∧ n < 1000000) (hw : (n.fdiv 8).fmod 9 = 8) (hr : (n.fdiv 72).fmod 2 = 0) :
    Claim w 300 1500 870 [.ref W, .int n tk] ((W, oW) :: (353, tabObj pc) :: (505, tabObj pa) :: ownerLed w O OD S2 (.ref st.T) t1 t2 t3 ++ setLed S2 SD2 DL2 h2 t4 [] m2 ++ st.led w S2 active (.ref O) more nm) [W, 353, 505, OD, st.TD] (fun _ => TriplesOk pc.toList ∧ TriplesOk pa.toList) (fun h v h' => v = .bool true ∧ (∃ oW' DD' oD', h'.get? W = some oW' ∧ oW'.IsDictOf (strKind PySem.Challenge.rw_ac0032_01.row.prog w) (worldKvs TH S IN O DD' c tc) ∧ h.get? DD' = none ∧ ((DD' : Addr) == sysModules) = false ∧ h'.get? DD' = some oD' ∧ oD'.IsDictOf (intKind PySem.Challenge.rw_ac0032_01.row.prog w) []) ∧ (∃ ps, TriplesOk ps.toList ∧ h'.get? 353 = some (tabObj ps)) ∧ (∃ ps, TriplesOk ps.toList ∧ h'.get? 505 = some (tabObj ps)) ∧ (h'.get? OD = some (dictOf [ent w "explicit" t1 (.bool false), ent w "_txn" t2 .none, ent w "_synchs" t3 (.ref S2)] 3) ∨ ∃ zz : Tst, zz.Chain ∧ DL2 < zz.TD ∧ Holds h' (zz.led w S2 active (.ref O) [] 12) ∧ (∀ p ∈ zz.led w S2 active (.ref O) [] 12, h.get? p.1 = none) ∧
      h'.get? OD = some (dictOf [ent w "explicit" t1 (.bool false), ent w "_txn" t2 (.ref zz.T), ent w "_synchs" t3 (.ref S2)] 3))) := by
  refine one_head 6 (by decide) (by decide) (way6 hw hr) ?_
  unfold OneBody ownerLed setLed Tst.led
  intro dp un gd scope i0 i1 rs cd outer A₀ base h₀ hs g' L L' m mg mb mean s Q E τ0 τ1 τ2 hpart N hG l1 B' F' μ1 μ2 μ3 μ4 X' N' T' hd hu hpre hret hnext
  simp only [List.cons_append, List.nil_append] at N N' l1 hG
  clear l1
  revert X'
  k_fill
  intro X'
  rw [show stAt 6 i1 = brOf (lev 6 i1) from rfl]
  have hp := beg_of (by k_is) hpart
  dsimp only [begTail] at hp
  cases hp
  clear hpart
  try dsimp only [lev, brOf]
  obtain ⟨k0, k8⟩ := fm8 n
  obtain ⟨q0, q1⟩ := fd72 hn
  have hb := fd2 ⟨q0, q1⟩
  k_steps
  rename News g' L' _ _ => N₁
  rename Fr g' L' _ _ => F₁
  have B₁ := fresh_back2 N hG F₁ ((fa16 ⟨_, N₁.get (by k_mem)⟩ ⟨_, N₁.get (by k_mem)⟩ ⟨_, N₁.get (by k_mem)⟩ ⟨_, N₁.get (by k_mem)⟩ ⟨_, N₁.get (by k_mem)⟩ ⟨_, N₁.get (by k_mem)⟩ ⟨_, N₁.get (by k_mem)⟩ ⟨_, N₁.get (by k_mem)⟩ ⟨_, N₁.get (by k_mem)⟩ ⟨_, N₁.get (by k_mem)⟩ ⟨_, N₁.get (by k_mem)⟩ ⟨_, N₁.get (by k_mem)⟩ ⟨_, N₁.get (by k_mem)⟩ ⟨_, N₁.get (by k_mem)⟩ ⟨_, N₁.get (by k_mem)⟩ ⟨_, N₁.get (by k_mem)⟩))
  have K₁ : ∀ b o, hs.get? b = some o → b ∉ ([] : List Addr) → _ := kept_end N hG F₁.keep ((fa16 (fun _ => N₁.get (by k_mem)) (fun _ => N₁.get (by k_mem)) (fun _ => N₁.get (by k_mem)) (fun _ => N₁.get (by k_mem)) (fun _ => N₁.get (by k_mem)) (fun _ => N₁.get (by k_mem)) (fun _ => N₁.get (by k_mem)) (fun _ => N₁.get (by k_mem)) (fun _ => N₁.get (by k_mem)) (fun _ => N₁.get (by k_mem)) (fun _ => N₁.get (by k_mem)) (fun _ => N₁.get (by k_mem)) (fun _ => N₁.get (by k_mem)) (fun _ => N₁.get (by k_mem)) (fun _ => N₁.get (by k_mem)) (fun _ => N₁.get (by k_mem))))
  refine Hold.out (Claim.use (ended_old_c W TH S IN O OD S2 SD2 DL2 DD oW c tc t1 t2 t3 h2 t4 m2 pc pa _ _ st hc more nm hm hW hlo hWl hb) B' F₁ X' N₁ T' rfl ?_ ?_ ?_ hpre ?_)
  · exact (fa16 (by k_mem) (by k_mem) (by k_mem) (by k_mem) (by k_mem) (by k_mem) (by k_mem) (by k_mem) (by k_mem) (by k_mem) (by k_mem) (by k_mem) (by k_mem) (by k_mem) (by k_mem) (by k_mem))
  · first | exact room hd (by decide) | exact room hu (by decide) | omega
  · first | exact room hd (by decide) | exact room hu (by decide) | omega
  rintro v h₂ tk₂ hk₂ ⟨rfl, ⟨oW', DD', oD', g1, g2, g3, g4, g5, g6⟩, p1, p2, p3⟩
  have F₂ := Fr.turns F₁ N₁ ((fa5 ⟨_, by k_mem⟩ ⟨_, by k_mem⟩ ⟨_, by k_mem⟩ ⟨_, by k_mem⟩ ⟨_, by k_mem⟩)) hk₂
  have N₂ : News g' L' h₂ [] := fun _ h => nomatch h
  have K₂ : ∀ b o, hs.get? b = some o → b ∉ ([W, 353, 505, OD, st.TD] : List Addr) → h₂.get? b = some o := fun b o e hb => hk₂ _ _ (K₁ b o e notin_nil) hb
  have y1 := B₁ _ g3
  have p3' : h₂.get? OD = some (dictOf [ent w "explicit" t1 (.bool false), ent w "_txn" t2 .none, ent w "_synchs" t3 (.ref S2)] 3) ∨ ∃ zz : Tst, zz.Chain ∧ DL2 < zz.TD ∧ Holds h₂ (zz.led w S2 active (.ref O) [] 12) ∧ (∀ p ∈ zz.led w S2 active (.ref O) [] 12, hs.get? p.1 = none) ∧
      h₂.get? OD = some (dictOf [ent w "explicit" t1 (.bool false), ent w "_txn" t2 (.ref zz.T), ent w "_synchs" t3 (.ref S2)] 3) := p3.imp id fun ⟨zz, a1, a2, a3, a4, a5⟩ => ⟨zz, a1, a2, a3, fun p hp => B₁ _ (a4 p hp), a5⟩
  clear hk₂ N₁ F₁ K₁ B₁ g3 p3
  try dsimp only
  k_steps
  rename Fr g' L' _ _ => F₉
  exact hnext _ _ _ F₉ K₂ ⟨rfl, ⟨oW', DD', oD', g1, g2, y1, g4, g5, g6⟩, p1, p2, p3'⟩
end
end Mine
end
section
open PySem PySem.W PyProof.Rows PySem.Calls PySem.Spec PyProof.V
namespace Mine
theorem nd_txn {A T T' R : List Addr} (h : (A ++ (T ++ R)).Nodup) (hT : T'.Nodup) (hs : ∀ a ∈ T', a ∈ T ∨ a ∉ A ++ (T ++ R)) : (A ++ (T' ++ R)).Nodup := by
  obtain ⟨h1, h2, h3⟩ := List.nodup_append.mp h
  obtain ⟨h4, h5, h6⟩ := List.nodup_append.mp h2
  refine List.nodup_append.mpr ⟨h1, List.nodup_append.mpr ⟨hT, h5, fun a ha b hb e => ?_⟩, fun a ha b hb e => ?_⟩
  · rcases hs a ha with q | q
    · exact h6 a q b hb e
    · exact q (List.mem_append_right _ (List.mem_append_right _ (e ▸ hb)))
  · rcases List.mem_append.mp hb with hb | hb
    · rcases hs b hb with q | q
      · exact h3 a ha b (List.mem_append_left _ q) e
      · exact q (List.mem_append_left _ (e ▸ ha))
    · exact h3 a ha b (List.mem_append_right _ hb) e
theorem WS.led_map (x : WS) (w : World) : (x.led w).map (·.1) = x.fixA ++ ((x.txn.led w x.S2 x.O).map (·.1) ++ (x.tl.map (·.1) ++ x.bag.map (·.1))) := by
  rw [show (x.led w).map (·.1) = x.fixA ++ (x.rest w).map (·.1) from rfl, WS.rest, List.map_append, List.map_append]
section
variable {w : World} {t : Nat} {x : WS} {h h' : Heap}
theorem WS.Ok.ndp (ok : x.Ok w t) : (x.fixA ++ ((x.txn.led w x.S2 x.O).map (·.1) ++ (x.tl.map (·.1) ++ x.bag.map (·.1)))).Nodup := x.led_map w ▸ ok.nd
theorem WS.Ok.txn_tl (ok : x.Ok w t) {p q : Addr × Obj} (hp : p ∈ x.txn.led w x.S2 x.O) (hq : q ∈ x.tl) : @Ne Nat p.1 q.1 := fun e =>
  (List.nodup_append.mp (List.nodup_append.mp ok.ndp).2.1).2.2 p.1 (List.mem_map_of_mem hp) q.1 (List.mem_append_left _ (List.mem_map_of_mem hq)) e
theorem WS.Ok.txn_bag (ok : x.Ok w t) {p q : Addr × Obj} (hp : p ∈ x.txn.led w x.S2 x.O) (hq : q ∈ x.bag) : @Ne Nat p.1 q.1 := fun e =>
  (List.nodup_append.mp (List.nodup_append.mp ok.ndp).2.1).2.2 p.1 (List.mem_map_of_mem hp) q.1 (List.mem_append_right _ (List.mem_map_of_mem hq)) e
theorem WS.Ok.tl_bag (ok : x.Ok w t) {p q : Addr × Obj} (hp : p ∈ x.tl) (hq : q ∈ x.bag) : @Ne Nat p.1 q.1 := fun e =>
  (List.nodup_append.mp (List.nodup_append.mp (List.nodup_append.mp ok.ndp).2.1).2.1).2.2 p.1 (List.mem_map_of_mem hp) q.1 (List.mem_map_of_mem hq) e
theorem WS.Ok.txn_off (ok : x.Ok w t) {p : Addr × Obj} (hp : p ∈ x.txn.led w x.S2 x.O) : @Membership.mem Nat (List Nat) _ x.ths p.1 → False := fun hm => by
  rw [← ok.ta] at hm
  obtain ⟨q, hq, e⟩ := List.mem_map.mp hm
  exact ok.txn_tl hp hq e.symm
theorem WS.Ok.fix_at (_ok : x.Ok w t) {j : Nat} {p : Addr × Obj} (hj : (x.led w)[j]? = some p) (h15 : j < 15) : x.fixA[j]? = some p.1 := by
  have e : ((x.led w).map (·.1))[j]? = some p.1 := by rw [List.getElem?_map, hj]; rfl
  rw [show (x.led w).map (·.1) = x.fixA ++ (x.rest w).map (·.1) from rfl, List.getElem?_append_left (by exact h15)] at e
  exact e
theorem WS.Ok.keepF (ok : x.Ok w t) {mods : List Addr} (is : List Nat) (ex : List Addr) (hm : ∀ b ∈ mods, (∃ i ∈ is, x.fixA[i]? = some b) ∨ ∃ q ∈ x.rest w, q.1 = b ∧ b ∈ ex) (kept : ∀ p ∈ x.led w, p.1 ∉ mods → h'.get? p.1 = some p.2) :
    (∀ {j : Nat} {p : Addr × Obj}, (x.led w)[j]? = some p → j < 15 → j ∉ is → h'.get? p.1 = some p.2) ∧ ∀ p ∈ x.rest w, p.1 ∉ ex → h'.get? p.1 = some p.2 := by
  refine ⟨fun {j p} hj h15 hn => kept p (List.mem_of_getElem? hj) fun hb => ?_, fun p hp hn => kept p (WS.rest_led hp) fun hb => ?_⟩
  · have e := ok.fix_at hj h15
    rcases hm _ hb with ⟨i, hi, e'⟩ | ⟨q, hq, e', _⟩
    · exact ok.ne e' e (fun q : i = j => hn (q ▸ hi)) rfl
    · exact ok.rest_ne e hq e'
  · rcases hm _ hb with ⟨i, hi, e'⟩ | ⟨q, hq, e', hx⟩
    · exact ok.rest_ne e' hp rfl
    · exact hn hx
theorem WS.holds_rest {y : WS} (ht : Holds h' (y.txn.led w y.S2 y.O)) (hl : Holds h' y.tl) (hb : Holds h' y.bag) : ∀ p ∈ y.rest w, h'.get? p.1 = some p.2 := fun p hp => by
  rcases List.mem_append.mp hp with hp | hp
  · exact ht p hp
  · rcases List.mem_append.mp hp with hp | hp
    · exact hl p hp
    · exact hb p hp
theorem WS.rest_cases {y : WS} {P : Addr × Obj → Prop} (ht : ∀ p ∈ y.txn.led w y.S2 y.O, P p) (hl : ∀ p ∈ y.tl, P p) (hb : ∀ p ∈ y.bag, P p) : ∀ p ∈ y.rest w, P p := fun p hp => by
  rcases List.mem_append.mp hp with hp | hp
  · exact ht p hp
  · rcases List.mem_append.mp hp with hp | hp
    · exact hl p hp
    · exact hb p hp
theorem ThingOk.up {i j : Nat} {o : Obj} (T : ThingOk i j o) : ThingOk (i + 1) j o := by
  unfold ThingOk at T ⊢
  split at T
  · rename_i hj
    rw [if_pos hj]; exact T
  · rename_i hj
    rw [if_neg hj]
    obtain ⟨its, n, e, hs⟩ := T
    exact ⟨its, n, e, by omega⟩
theorem WS.Ok.up (ok : x.Ok w t) : x.Ok w (t + 1) :=
  { ok with to := fun j p hj => (ok.to j p hj).up, hc := ⟨ok.hc.1, by have := ok.hc.2; omega⟩, kl := Nat.le_succ_of_le ok.kl }
theorem WS.Ok.key (ok : x.Ok w t) (n : Int) : ∃ a, (things x.ths)[(n.fmod 8).toNat]? = some (.ref a) ∧ x.ths[(n.fmod 8).toNat]? = some a ∧ a ∈ x.ths := by
  obtain ⟨k0, k8⟩ := fm8 n
  have tn := ok.tn
  have e : x.ths[(n.fmod 8).toNat]? = some (x.ths[(n.fmod 8).toNat]'(by omega)) := List.getElem?_eq_getElem (by omega)
  exact ⟨_, at_things e, e, List.mem_of_getElem? e⟩
theorem RowsOk.rowsAt {ths : List Nat} {kvs : List (Int × Value)} {bag : List (Addr × Obj)} {rs : List Row} (R : RowsOk ths kvs bag rs) (H : Holds h bag) : RowsAt rs h := fun r hr =>
  let ⟨o, n, hm, hc, hd⟩ := R.at_ r hr
  ⟨o, H _ hm, hc, n, hd⟩
theorem RowsOk.set {ths : List Nat} {kvs : List (Int × Value)} {bag : List (Addr × Obj)} {rs : List Row} (R : RowsOk ths kvs bag rs) (td : ths.Nodup) {k : Int} {a a' y : Nat} {o : Obj} {n : Nat} (k0 : 0 ≤ k) (k8 : k < 8) (hx : (things ths)[k.toNat]? = some (.ref a))
    (hc : o.cls = .type "tuple") (hd : o.data = .seq #[.ref a, .ref y] n) : RowsOk ths (stored kvs k (.ref y)) ((a', o) :: bag) (rs.filter (fun r => r.x != a) ++ [⟨a', a, y⟩]) := by
  refine ⟨fun r hr => ?_, fun r hr => ?_, ?_, fun k' x' h0 h8 h => ?_⟩
  · rcases List.mem_append.mp hr with hr | hr
    · obtain ⟨o', n', z, c, d⟩ := R.at_ r (List.mem_filter.mp hr).1
      exact ⟨o', n', .tail _ z, c, d⟩
    · rw [List.mem_singleton.mp hr]; exact ⟨o, n, .head _, hc, hd⟩
  · rcases List.mem_append.mp hr with hr | hr
    · exact R.xs r (List.mem_filter.mp hr).1
    · rw [List.mem_singleton.mp hr]; exact List.mem_of_getElem? (things_at hx)
  · rw [List.map_append, List.map_cons, List.map_nil]
    refine List.nodup_append.mpr ⟨List.Nodup.sublist (List.Sublist.map _ List.filter_sublist) R.nd, List.nodup_cons.mpr ⟨List.not_mem_nil, .nil⟩, fun b hb c hc e => ?_⟩
    rw [List.mem_singleton.mp hc] at e
    obtain ⟨r, hr, e'⟩ := List.mem_map.mp hb
    have := (List.mem_filter.mp hr).2
    rw [e', e] at this
    simp at this
  · rw [valueAt_stored, List.filter_append]
    by_cases hk : k = k'
    · subst hk
      have e : x' = a := by rw [hx] at h; cases h; rfl
      subst e
      rw [if_pos rfl]
      have e1 : (rs.filter fun r => r.x != x').filter (fun r => r.x == x') = [] := by
        rw [List.filter_filter]
        apply List.filter_eq_nil_iff.mpr
        intro r _
        cases q : (r.x == x') <;> simp_all
      rw [e1]
      simp
    · rw [if_neg hk, R.agree k' x' h0 h8 h]
      have hne : x' ≠ a := fun e => by
        subst e
        have := nd_at (l := ths) td (things_at hx) (things_at h) (fun q => hk (by omega))
        exact this rfl
      have e1 : (rs.filter fun r => r.x != a).filter (fun r => r.x == x') = rs.filter fun r => r.x == x' := by
        rw [List.filter_filter]
        apply List.filter_congr
        intro r _
        cases q : (r.x == x')
        · rfl
        · have : r.x = x' := beq_iff_eq.mp q
          simp [this, hne]
      have e2 : ([(⟨a', a, y⟩ : Row)].filter fun r => r.x == x') = [] := by
        apply List.filter_eq_nil_iff.mpr
        intro r hr
        rw [List.mem_singleton.mp hr]
        intro q
        exact hne (beq_iff_eq.mp q).symm
      rw [e1, e2, List.append_nil]
end
end Mine
end
section
open PySem PySem.W PyProof.Rows PySem.Calls PySem.Spec PyProof.V
namespace Mine
theorem LookTab.bag {pw : Array Value} {bag bag' : List (Addr × Obj)} (L : LookTab pw bag) (h : ∀ p ∈ bag, p ∈ bag') : LookTab pw bag' := L.imp id fun ⟨c', oc, vs, t, a, b, c, d⟩ => ⟨c', oc, vs, t, a, h _ b, c, d⟩
noncomputable def Up : List Nat → Prop
  | a :: b :: r => a < b ∧ Up (b :: r)
  | _ => True
theorem up_all : ∀ {l : List Nat} {a : Nat}, Up (a :: l) → ∀ b ∈ l, a < b
  | [], _, _, _, h => nomatch h
  | c :: r, a, h, b, hb => by
    rcases List.mem_cons.mp hb with rfl | hb
    · exact h.1
    · exact Nat.lt_trans h.1 (up_all h.2 b hb)
theorem up_nodup : ∀ {l : List Nat}, Up l → l.Nodup
  | [], _ => .nil
  | [_], _ => List.nodup_cons.mpr ⟨List.not_mem_nil, .nil⟩
  | _ :: _ :: _, h => List.nodup_cons.mpr ⟨fun q => Nat.lt_irrefl _ (up_all h _ q), up_nodup h.2⟩
theorem Tst.Chain.nd {st : Tst} (c : st.Chain) (w : World) (S2 : Nat) (sv mv : Value) (more : List DictEntry) (n : Nat) : ((st.led w S2 sv mv more n).map (·.1)).Nodup := by
  obtain ⟨c1, c2, c3, c4, c5, c6, c7⟩ := c
  show ([st.T, st.TD, st.R, st.V, st.B1, st.A1, st.B2, st.A2] : List Nat).Nodup
  have u : Up [st.T, st.R, st.V, st.B1, st.A1, st.B2, st.A2] := ⟨c2, c3, c4, c5, c6, c7, trivial⟩
  have v : Up [st.TD, st.R, st.V, st.B1, st.A1, st.B2, st.A2] := ⟨Nat.lt_trans c1 c2, c3, c4, c5, c6, c7, trivial⟩
  exact List.nodup_cons.mpr ⟨fun q => (List.mem_cons.mp q).elim (fun e => Nat.lt_irrefl st.TD (e ▸ c1)) fun q => Nat.lt_irrefl _ (up_all u _ q), up_nodup v⟩
noncomputable abbrev NextW (w : World) (x : WS) (t : Nat) : List (Addr × Obj) → Prop := fun led' => ∃ y : WS, led' = y.led w ∧ x.Like y ∧ y.Ok w t
section
variable {w : World} {t : Nat} {x : WS} {h h' : Heap}
theorem WS.data_goes (ok : x.Ok w t) (H : Holds h (x.led w)) {st : Tst} {tt tc' : Tok} {DA' nr' yv a' : Nat} {k : Int} {oW' oD' o' : Obj} {rs' : List Row}
    (gW : h'.get? x.W = some oW') (hW' : oW'.IsDictOf (strKind PySem.Challenge.rw_ac0032_01.row.prog w) (worldKvs x.TH x.S x.IN x.O x.DD (x.c + 1) tc')) (gD : h'.get? x.DD = some oD') (hD' : oD'.IsDictOf (intKind PySem.Challenge.rw_ac0032_01.row.prog w) (stored x.kvs k (.ref yv)))
    (gO : h'.get? x.OD = some (dictOf [ent w "explicit" x.u1 (.bool false), ent w "_txn" x.u2 (.ref st.T), ent w "_synchs" x.u3 (.ref x.S2)] 3))
    (K : ∀ {j : Nat} {p : Addr × Obj}, (x.led w)[j]? = some p → j < 15 → j ∉ [0, 6, 8] → h'.get? p.1 = some p.2) (gL : Holds h' x.tl) (gB : Holds h' x.bag)
    (gT : Holds h' (st.led w x.S2 active (.ref x.O) [ent w "_data" tt (.ref DA')] 13)) (gDA : h'.get? DA' = some (listOf (rowVals rs').toArray nr')) (gA : h'.get? a' = some o') (f1 : h.get? DA' = none) (f2 : h.get? a' = none) (hne : @Ne Nat DA' a')
    (fT : ∀ b ∈ (st.led w x.S2 active (.ref x.O) [ent w "_data" tt (.ref DA')] 13).map (·.1), @Ne Nat b DA' ∧ @Ne Nat b a' ∧ (b ∈ (x.txn.led w x.S2 x.O).map (·.1) ∨ h.get? b = none)) (hch : st.Chain) (hlt : x.DL2 < st.TD)
    (hR : RowsOk x.ths (stored x.kvs k (.ref yv)) ((a', o') :: x.bag) rs') : Goes (NextW w x (t + 1)) (x.led w) h h' := by
  have off : ∀ b, h.get? b = none → b ∉ x.fixA ++ ((x.txn.led w x.S2 x.O).map (·.1) ++ (x.tl.map (·.1) ++ x.bag.map (·.1))) := fun b hb => x.led_map w ▸ fresh_off H hb
  refine ⟨_, ⟨{ x with oW := oW', oD := oD', c := x.c + 1, tc := tc', kvs := stored x.kvs k (.ref yv), txn := .rows st tt DA' nr' rs', bag := (a', o') :: x.bag }, rfl, ⟨rfl, rfl, rfl, rfl, rfl, rfl, rfl, rfl, rfl, rfl⟩, ?ok⟩, ?holds, ?fresh⟩
  case holds =>
    exact List.forall_mem_cons.mpr ⟨gW, List.forall_mem_cons.mpr ⟨K (j := 1) rfl (by decide) (by decide), List.forall_mem_cons.mpr ⟨K (j := 2) rfl (by decide) (by decide), List.forall_mem_cons.mpr ⟨K (j := 3) rfl (by decide) (by decide), List.forall_mem_cons.mpr ⟨K (j := 4) rfl (by decide) (by decide), List.forall_mem_cons.mpr ⟨K (j := 5) rfl (by decide) (by decide), List.forall_mem_cons.mpr ⟨gD, List.forall_mem_cons.mpr ⟨K (j := 7) rfl (by decide) (by decide), List.forall_mem_cons.mpr ⟨gO, List.forall_mem_cons.mpr ⟨K (j := 9) rfl (by decide) (by decide), List.forall_mem_cons.mpr ⟨K (j := 10) rfl (by decide) (by decide), List.forall_mem_cons.mpr ⟨K (j := 11) rfl (by decide) (by decide), List.forall_mem_cons.mpr ⟨K (j := 12) rfl (by decide) (by decide), List.forall_mem_cons.mpr ⟨K (j := 13) rfl (by decide) (by decide), List.forall_mem_cons.mpr ⟨K (j := 14) rfl (by decide) (by decide), WS.holds_rest (List.forall_mem_cons.mpr ⟨gDA, gT⟩) gL (List.forall_mem_cons.mpr ⟨gA, gB⟩)⟩⟩⟩⟩⟩⟩⟩⟩⟩⟩⟩⟩⟩⟩⟩
  case fresh =>
    exact List.forall_mem_cons.mpr ⟨.inl (List.mem_of_getElem? (i := 0) rfl), List.forall_mem_cons.mpr ⟨.inl (List.mem_of_getElem? (i := 1) rfl), List.forall_mem_cons.mpr ⟨.inl (List.mem_of_getElem? (i := 2) rfl), List.forall_mem_cons.mpr ⟨.inl (List.mem_of_getElem? (i := 3) rfl), List.forall_mem_cons.mpr ⟨.inl (List.mem_of_getElem? (i := 4) rfl), List.forall_mem_cons.mpr ⟨.inl (List.mem_of_getElem? (i := 5) rfl), List.forall_mem_cons.mpr ⟨.inl (List.mem_of_getElem? (i := 6) rfl), List.forall_mem_cons.mpr ⟨.inl (List.mem_of_getElem? (i := 7) rfl), List.forall_mem_cons.mpr ⟨.inl (List.mem_of_getElem? (i := 8) rfl), List.forall_mem_cons.mpr ⟨.inl (List.mem_of_getElem? (i := 9) rfl), List.forall_mem_cons.mpr ⟨.inl (List.mem_of_getElem? (i := 10) rfl), List.forall_mem_cons.mpr ⟨.inl (List.mem_of_getElem? (i := 11) rfl), List.forall_mem_cons.mpr ⟨.inl (List.mem_of_getElem? (i := 12) rfl), List.forall_mem_cons.mpr ⟨.inl (List.mem_of_getElem? (i := 13) rfl), List.forall_mem_cons.mpr ⟨.inl (List.mem_of_getElem? (i := 14) rfl), WS.rest_cases (List.forall_mem_cons.mpr ⟨.inr f1, fun p hp => (fT p.1 (List.mem_map_of_mem hp)).2.2.imp (fun q => by rw [x.led_map]; exact List.mem_append_right _ (List.mem_append_left _ q)) id⟩) (fun p hp => .inl (List.mem_map_of_mem (WS.rest_led (WS.tl_rest hp)))) (List.forall_mem_cons.mpr ⟨.inr f2, fun p hp => .inl (List.mem_map_of_mem (WS.rest_led (WS.bag_rest hp)))⟩)⟩⟩⟩⟩⟩⟩⟩⟩⟩⟩⟩⟩⟩⟩⟩
  case ok =>
    refine { ok.up with nd := ?_, hW := hW', hD := hD', hc := ⟨by have := ok.hc.1; show 0 ≤ x.c + 1; omega, by have := ok.hc.2; show x.c + 1 ≤ ((t + 1 : Nat) : Int); omega⟩, kl := ?_, tx := ⟨hch, hlt, hR⟩, pw := ok.pw.bag fun p hp => .tail _ hp }
    · have n1 : (x.fixA ++ ((DA' :: (st.led w x.S2 active (.ref x.O) [ent w "_data" tt (.ref DA')] 13).map (fun p => p.1)) ++ (x.tl.map (fun p => p.1) ++ x.bag.map (fun p => p.1)))).Nodup := by
        refine nd_txn ok.ndp (List.nodup_cons.mpr ⟨fun q => (fT _ q).1 rfl, hch.nd ..⟩) ?_
        intro b hb
        rcases List.mem_cons.mp hb with rfl | hb
        · exact .inr (off _ f1)
        · exact (fT b hb).2.2.imp id (off _)
      have n2 := nodup_ins (a := a') n1 (fun hm => by
        rcases List.mem_append.mp hm with hm | hm
        · exact off _ f2 (List.mem_append_left _ hm)
        · rcases List.mem_append.mp hm with hm | hm
          · rcases List.mem_cons.mp hm with e | hm
            · exact hne e.symm
            · exact (fT _ hm).2.1 rfl
          · exact off _ f2 (List.mem_append_right _ (List.mem_append_right _ hm)))
      rw [WS.led_map]
      exact n2
    · exact Nat.le_trans (stored_length_le _ _ _) (Nat.succ_le_succ ok.kl)
end
end Mine
end
section
open PySem PySem.W PyProof.Rows PySem.Calls PySem.Spec PyProof.V
namespace Mine
noncomputable abbrev OneStep (w : World) (t : Nat) (x : WS) (n : Int) (tk : Tok) : Prop :=
  ClaimM w 600 3200 870 [.ref x.W, .int n tk] (x.led w) ((x.led w).map (·.1)) (fun _ => True) (fun h v h' => v = .bool true ∧ Goes (NextW w x (t + 1)) (x.led w) h h') False
theorem RowsOk.nil (ths : List Nat) (bag : List (Addr × Obj)) : RowsOk ths [] bag [] := ⟨fun _ h => (nomatch h), fun _ h => (nomatch h), .nil, fun _ _ _ _ _ => rfl⟩
theorem memW {x : WS} {w : World} {j : Nat} {p : Addr × Obj} (h : (x.led w)[j]? = some p) : p.1 ∈ (x.led w).map (·.1) := List.mem_map_of_mem (List.mem_of_getElem? h)
theorem ne_list_tup {h : Heap} {a b : Addr} {o : Obj} {its : Array Value} {n : Nat} (e : h.get? a = some (listOf its n)) (e' : h.get? b = some o) (c : o.cls = .type "tuple") : @Ne Nat a b := fun q => by
  rw [show a = b from q, e'] at e
  cases e
  exact absurd (Value.type.inj c) (by decide)
theorem one_data_rows {w : World} {t : Nat} {x : WS} (ok : x.Ok w t) (ht : t ≤ 60) {st : Tst} {tt : Tok} {DA nr : Nat} {rs : List Row} (hx : x.txn = .rows st tt DA nr rs) (n : Int) (tk : Tok) (hn : 0 ≤ n ∧ n < 1000000) (hw : 4 ≤ (n.fdiv 8).fmod 9 ∧ (n.fdiv 8).fmod 9 < 7) (hr : (n.fdiv 8).fmod 9 = 4 → (n.fdiv 72).fmod 3 ≠ 0) : OneStep w t x n tk := by
  obtain ⟨a, hxa, hxt, ham⟩ := ok.key n
  obtain ⟨k0, k8⟩ := fm8 n
  have hval : x.txn.val = .ref st.T := by rw [hx]; rfl
  have hT : x.txn.led w x.S2 x.O = (DA, listOf (rowVals rs).toArray nr) :: st.led w x.S2 active (.ref x.O) [ent w "_data" tt (.ref DA)] 13 := by rw [hx]; rfl
  have tx := ok.tx
  rw [hx] at tx
  refine ((data_rows_c x.W x.TH x.S x.IN x.O x.OD x.S2 x.DD a x.oW x.oD x.c x.tc x.u1 x.u2 x.u3 x.n3 x.ths x.kvs n tk st ok.hW ok.hD hn hw hr ⟨ok.hc.1, by have := ok.hc.2; omega⟩ (by have := ok.kl; omega) hxa ham ok.dm tt DA nr rs ⟨ok.ne (i := 0) (j := 6) rfl rfl (by decide), ok.ne (i := 0) (j := 8) rfl rfl (by decide), (ok.rest_ne (i := 0) rfl (WS.txn_rest (by rw [hT]; exact in2))).symm, ok.ne (i := 6) (j := 8) rfl rfl (by decide), (ok.rest_ne (i := 6) rfl (WS.txn_rest (by rw [hT]; exact in2))).symm⟩ (tx.2.2.len ok.tn) tx.2.2.xs ⟨ok.off (i := 0) rfl, ok.off (i := 1) rfl, ok.off (i := 6) rfl, ok.off (i := 7) rfl, ok.off (i := 8) rfl, ok.txn_off (p := (st.T, _)) (by rw [hT]; exact in1), ok.txn_off (p := (st.TD, _)) (by rw [hT]; exact in2), ok.txn_off (p := (DA, _)) (by rw [hT]; exact .head _)⟩).toM ((fa3 ⟨_, .head _⟩ ⟨_, in2⟩ ⟨_, in6⟩))).wk ?sub ?mods ?pre ?post
  case sub => exact (fa8 (List.mem_of_getElem? (i := 0) rfl) (List.mem_of_getElem? (i := 1) rfl) (List.mem_of_getElem? (i := 6) rfl) (List.mem_of_getElem? (i := 7) rfl) (by rw [← hval]; exact List.mem_of_getElem? (i := 8) rfl) (WS.rest_led (WS.txn_rest (by rw [hT]; exact in1))) (WS.rest_led (WS.txn_rest (by rw [hT]; exact in2))) (WS.rest_led (WS.txn_rest (by rw [hT]; exact .head _))))
  case mods => exact (fa3 (memW (j := 0) rfl) (memW (j := 6) rfl) (List.mem_map_of_mem (f := (·.1)) (WS.rest_led (WS.txn_rest (by rw [hT]; exact in2)))))
  case pre =>
    intro h H _
    exact ⟨tx.2.2.rowsAt fun p hp => H p (WS.rest_led (WS.bag_rest hp)), ok.stand H⟩
  case post =>
    rintro h v h' H _ kept ⟨rfl, oW', oD', tc', yv, DA', nr', a', g1, g2, g3, g4, f1, f2, z3, z4, z5⟩
    obtain ⟨o', go, oc, n', od⟩ := z5
    obtain ⟨KF, KR⟩ := ok.keepF (h' := h') [0, 6] [st.TD] ((fa3 (by exact .inl ⟨0, by decide, rfl⟩) (by exact .inl ⟨6, by decide, rfl⟩) (by exact .inr ⟨_, WS.txn_rest (by rw [hT]; exact in2), rfl, .head _⟩))) kept
    have nT : ∀ p ∈ x.tl, p.1 ∉ [st.TD] := fun p hp => notin_cons (ok.txn_tl (p := (st.TD, _)) (by rw [hT]; exact in2) hp).symm notin_nil
    have nB : ∀ p ∈ x.bag, p.1 ∉ [st.TD] := fun p hp => notin_cons (ok.txn_bag (p := (st.TD, _)) (by rw [hT]; exact in2) hp).symm notin_nil
    have gO := KF (j := 8) rfl (by decide) (by decide)
    rw [hval] at gO
    obtain ⟨c1, c2, c3, c4, c5, c6, c7⟩ := tx.1
    have gT : Holds h' (st.led w x.S2 active (.ref x.O) [ent w "_data" tt (.ref DA')] 13) := (fa8 (KR (st.T, _) (WS.txn_rest (by rw [hT]; exact in1)) (notin_cons (a := st.T) (by omega) notin_nil)) z3 (KR (st.R, _) (WS.txn_rest (by rw [hT]; exact in3)) (notin_cons (a := st.R) (by omega) notin_nil)) (KR (st.V, _) (WS.txn_rest (by rw [hT]; exact in4)) (notin_cons (a := st.V) (by omega) notin_nil)) (KR (st.B1, _) (WS.txn_rest (by rw [hT]; exact in5)) (notin_cons (a := st.B1) (by omega) notin_nil)) (KR (st.A1, _) (WS.txn_rest (by rw [hT]; exact in6)) (notin_cons (a := st.A1) (by omega) notin_nil)) (KR (st.B2, _) (WS.txn_rest (by rw [hT]; exact in7)) (notin_cons (a := st.B2) (by omega) notin_nil)) (KR (st.A2, _) (WS.txn_rest (by rw [hT]; exact in8)) (notin_cons (a := st.A2) (by omega) notin_nil)))
    have oldS : ∀ p ∈ x.txn.led w x.S2 x.O, h.get? p.1 = some p.2 := fun p hp => H p (WS.rest_led (WS.txn_rest hp))
    have fT : ∀ b ∈ ([st.T, st.TD, st.R, st.V, st.B1, st.A1, st.B2, st.A2] : List Addr), @Ne Nat b DA' ∧ @Ne Nat b a' ∧ (b ∈ (x.txn.led w x.S2 x.O).map (·.1) ∨ h.get? b = none) :=
      (fa8 ⟨ne_of_none (oldS (st.T, _) (by rw [hT]; exact in1)) f1, ne_of_none (oldS (st.T, _) (by rw [hT]; exact in1)) f2, .inl (List.mem_map_of_mem (f := (·.1)) (show (st.T, _) ∈ x.txn.led w x.S2 x.O from by rw [hT]; exact in1))⟩ ⟨ne_of_none (oldS (st.TD, _) (by rw [hT]; exact in2)) f1, ne_of_none (oldS (st.TD, _) (by rw [hT]; exact in2)) f2, .inl (List.mem_map_of_mem (f := (·.1)) (show (st.TD, _) ∈ x.txn.led w x.S2 x.O from by rw [hT]; exact in2))⟩ ⟨ne_of_none (oldS (st.R, _) (by rw [hT]; exact in3)) f1, ne_of_none (oldS (st.R, _) (by rw [hT]; exact in3)) f2, .inl (List.mem_map_of_mem (f := (·.1)) (show (st.R, _) ∈ x.txn.led w x.S2 x.O from by rw [hT]; exact in3))⟩ ⟨ne_of_none (oldS (st.V, _) (by rw [hT]; exact in4)) f1, ne_of_none (oldS (st.V, _) (by rw [hT]; exact in4)) f2, .inl (List.mem_map_of_mem (f := (·.1)) (show (st.V, _) ∈ x.txn.led w x.S2 x.O from by rw [hT]; exact in4))⟩ ⟨ne_of_none (oldS (st.B1, _) (by rw [hT]; exact in5)) f1, ne_of_none (oldS (st.B1, _) (by rw [hT]; exact in5)) f2, .inl (List.mem_map_of_mem (f := (·.1)) (show (st.B1, _) ∈ x.txn.led w x.S2 x.O from by rw [hT]; exact in5))⟩ ⟨ne_of_none (oldS (st.A1, _) (by rw [hT]; exact in6)) f1, ne_of_none (oldS (st.A1, _) (by rw [hT]; exact in6)) f2, .inl (List.mem_map_of_mem (f := (·.1)) (show (st.A1, _) ∈ x.txn.led w x.S2 x.O from by rw [hT]; exact in6))⟩ ⟨ne_of_none (oldS (st.B2, _) (by rw [hT]; exact in7)) f1, ne_of_none (oldS (st.B2, _) (by rw [hT]; exact in7)) f2, .inl (List.mem_map_of_mem (f := (·.1)) (show (st.B2, _) ∈ x.txn.led w x.S2 x.O from by rw [hT]; exact in7))⟩ ⟨ne_of_none (oldS (st.A2, _) (by rw [hT]; exact in8)) f1, ne_of_none (oldS (st.A2, _) (by rw [hT]; exact in8)) f2, .inl (List.mem_map_of_mem (f := (·.1)) (show (st.A2, _) ∈ x.txn.led w x.S2 x.O from by rw [hT]; exact in8))⟩)
    exact ⟨rfl, WS.data_goes ok H g1 g2 g3 g4 gO (fun hj h15 hn => KF hj h15 (fun q => hn (by rcases List.mem_cons.mp q with e | q; exact e ▸ .head _; exact (List.mem_singleton.mp q) ▸ in1))) (fun p hp => KR p (WS.tl_rest hp) (nT p hp)) (fun p hp => KR p (WS.bag_rest hp) (nB p hp)) gT z4 go f1 f2 (ne_list_tup z4 go oc) fT tx.1 tx.2.1 (RowsOk.set tx.2.2 ok.td k0 k8 hxa oc od)⟩
theorem one_data_fresh {w : World} {t : Nat} {x : WS} (ok : x.Ok w t) (ht : t ≤ 60) {st : Tst} (hx : x.txn = .fresh st) (n : Int) (tk : Tok) (hn : 0 ≤ n ∧ n < 1000000) (hw : 4 ≤ (n.fdiv 8).fmod 9 ∧ (n.fdiv 8).fmod 9 < 7) (hr : (n.fdiv 8).fmod 9 = 4 → (n.fdiv 72).fmod 3 ≠ 0) : OneStep w t x n tk := by
  obtain ⟨a, hxa, hxt, ham⟩ := ok.key n
  obtain ⟨k0, k8⟩ := fm8 n
  have hval : x.txn.val = .ref st.T := by rw [hx]; rfl
  have hT : x.txn.led w x.S2 x.O = st.led w x.S2 active (.ref x.O) [] 12 := by rw [hx]; rfl
  have tx := ok.tx
  rw [hx] at tx
  refine ((data_fresh_c x.W x.TH x.S x.IN x.O x.OD x.S2 x.DD a x.oW x.oD x.c x.tc x.u1 x.u2 x.u3 x.n3 x.ths x.kvs n tk st ok.hW ok.hD hn hw hr ⟨ok.hc.1, by have := ok.hc.2; omega⟩ (by have := ok.kl; omega) hxa ok.dm ⟨ok.ne (i := 0) (j := 6) rfl rfl (by decide), ok.ne (i := 0) (j := 8) rfl rfl (by decide), (ok.rest_ne (i := 0) rfl (WS.txn_rest (by rw [hT]; exact in1))).symm, ok.ne (i := 6) (j := 8) rfl rfl (by decide), (ok.rest_ne (i := 6) rfl (WS.txn_rest (by rw [hT]; exact in1))).symm⟩)).wk ?sub ?mods ?pre ?post
  case sub => exact (fa7 (List.mem_of_getElem? (i := 0) rfl) (List.mem_of_getElem? (i := 1) rfl) (List.mem_of_getElem? (i := 6) rfl) (List.mem_of_getElem? (i := 7) rfl) (by rw [← hval]; exact List.mem_of_getElem? (i := 8) rfl) (WS.rest_led (WS.txn_rest (by rw [hT]; exact .head _))) (WS.rest_led (WS.txn_rest (by rw [hT]; exact in1))))
  case mods => exact (fa3 (memW (j := 0) rfl) (memW (j := 6) rfl) (List.mem_map_of_mem (f := (·.1)) (WS.rest_led (WS.txn_rest (by rw [hT]; exact in1)))))
  case pre =>
    intro h H _
    exact trivial
  case post =>
    rintro h v h' H _ kept ⟨rfl, oW', oD', tc', tt, yv, DA', nr', a', g1, g2, g3, g4, f1, f2, z3, z4, z5⟩
    obtain ⟨o', go, oc, n', od⟩ := z5
    obtain ⟨KF, KR⟩ := ok.keepF (h' := h') [0, 6] [st.TD] ((fa3 (by exact .inl ⟨0, by decide, rfl⟩) (by exact .inl ⟨6, by decide, rfl⟩) (by exact .inr ⟨_, WS.txn_rest (by rw [hT]; exact in1), rfl, .head _⟩))) kept
    have nT : ∀ p ∈ x.tl, p.1 ∉ [st.TD] := fun p hp => notin_cons (ok.txn_tl (p := (st.TD, _)) (by rw [hT]; exact in1) hp).symm notin_nil
    have nB : ∀ p ∈ x.bag, p.1 ∉ [st.TD] := fun p hp => notin_cons (ok.txn_bag (p := (st.TD, _)) (by rw [hT]; exact in1) hp).symm notin_nil
    have gO := KF (j := 8) rfl (by decide) (by decide)
    rw [hval] at gO
    obtain ⟨c1, c2, c3, c4, c5, c6, c7⟩ := tx.1
    have gT : Holds h' (st.led w x.S2 active (.ref x.O) [ent w "_data" tt (.ref DA')] 13) := (fa8 (KR (st.T, _) (WS.txn_rest (by rw [hT]; exact .head _)) (notin_cons (a := st.T) (by omega) notin_nil)) z3 (KR (st.R, _) (WS.txn_rest (by rw [hT]; exact in2)) (notin_cons (a := st.R) (by omega) notin_nil)) (KR (st.V, _) (WS.txn_rest (by rw [hT]; exact in3)) (notin_cons (a := st.V) (by omega) notin_nil)) (KR (st.B1, _) (WS.txn_rest (by rw [hT]; exact in4)) (notin_cons (a := st.B1) (by omega) notin_nil)) (KR (st.A1, _) (WS.txn_rest (by rw [hT]; exact in5)) (notin_cons (a := st.A1) (by omega) notin_nil)) (KR (st.B2, _) (WS.txn_rest (by rw [hT]; exact in6)) (notin_cons (a := st.B2) (by omega) notin_nil)) (KR (st.A2, _) (WS.txn_rest (by rw [hT]; exact in7)) (notin_cons (a := st.A2) (by omega) notin_nil)))
    have oldS : ∀ p ∈ x.txn.led w x.S2 x.O, h.get? p.1 = some p.2 := fun p hp => H p (WS.rest_led (WS.txn_rest hp))
    have fT : ∀ b ∈ ([st.T, st.TD, st.R, st.V, st.B1, st.A1, st.B2, st.A2] : List Addr), @Ne Nat b DA' ∧ @Ne Nat b a' ∧ (b ∈ (x.txn.led w x.S2 x.O).map (·.1) ∨ h.get? b = none) :=
      (fa8 ⟨ne_of_none (oldS (st.T, _) (by rw [hT]; exact .head _)) f1, ne_of_none (oldS (st.T, _) (by rw [hT]; exact .head _)) f2, .inl (List.mem_map_of_mem (f := (·.1)) (show (st.T, _) ∈ x.txn.led w x.S2 x.O from by rw [hT]; exact .head _))⟩ ⟨ne_of_none (oldS (st.TD, _) (by rw [hT]; exact in1)) f1, ne_of_none (oldS (st.TD, _) (by rw [hT]; exact in1)) f2, .inl (List.mem_map_of_mem (f := (·.1)) (show (st.TD, _) ∈ x.txn.led w x.S2 x.O from by rw [hT]; exact in1))⟩ ⟨ne_of_none (oldS (st.R, _) (by rw [hT]; exact in2)) f1, ne_of_none (oldS (st.R, _) (by rw [hT]; exact in2)) f2, .inl (List.mem_map_of_mem (f := (·.1)) (show (st.R, _) ∈ x.txn.led w x.S2 x.O from by rw [hT]; exact in2))⟩ ⟨ne_of_none (oldS (st.V, _) (by rw [hT]; exact in3)) f1, ne_of_none (oldS (st.V, _) (by rw [hT]; exact in3)) f2, .inl (List.mem_map_of_mem (f := (·.1)) (show (st.V, _) ∈ x.txn.led w x.S2 x.O from by rw [hT]; exact in3))⟩ ⟨ne_of_none (oldS (st.B1, _) (by rw [hT]; exact in4)) f1, ne_of_none (oldS (st.B1, _) (by rw [hT]; exact in4)) f2, .inl (List.mem_map_of_mem (f := (·.1)) (show (st.B1, _) ∈ x.txn.led w x.S2 x.O from by rw [hT]; exact in4))⟩ ⟨ne_of_none (oldS (st.A1, _) (by rw [hT]; exact in5)) f1, ne_of_none (oldS (st.A1, _) (by rw [hT]; exact in5)) f2, .inl (List.mem_map_of_mem (f := (·.1)) (show (st.A1, _) ∈ x.txn.led w x.S2 x.O from by rw [hT]; exact in5))⟩ ⟨ne_of_none (oldS (st.B2, _) (by rw [hT]; exact in6)) f1, ne_of_none (oldS (st.B2, _) (by rw [hT]; exact in6)) f2, .inl (List.mem_map_of_mem (f := (·.1)) (show (st.B2, _) ∈ x.txn.led w x.S2 x.O from by rw [hT]; exact in6))⟩ ⟨ne_of_none (oldS (st.A2, _) (by rw [hT]; exact in7)) f1, ne_of_none (oldS (st.A2, _) (by rw [hT]; exact in7)) f2, .inl (List.mem_map_of_mem (f := (·.1)) (show (st.A2, _) ∈ x.txn.led w x.S2 x.O from by rw [hT]; exact in7))⟩)
    exact ⟨rfl, WS.data_goes ok H g1 g2 g3 g4 gO (fun hj h15 hn => KF hj h15 (fun q => hn (by rcases List.mem_cons.mp q with e | q; exact e ▸ .head _; exact (List.mem_singleton.mp q) ▸ in1))) (fun p hp => KR p (WS.tl_rest hp) (nT p hp)) (fun p hp => KR p (WS.bag_rest hp) (nB p hp)) gT z4 go f1 f2 (ne_list_tup z4 go oc) fT tx.1 tx.2.1 ((by have z := RowsOk.set (RowsOk.nil x.ths x.bag) ok.td (a' := a') (y := yv) k0 k8 hxa oc od; rw [tx.2.2]; exact z))⟩
theorem one_data_none {w : World} {t : Nat} {x : WS} (ok : x.Ok w t) (ht : t ≤ 60) (hx : x.txn = .none) (n : Int) (tk : Tok) (hn : 0 ≤ n ∧ n < 1000000) (hw : 4 ≤ (n.fdiv 8).fmod 9 ∧ (n.fdiv 8).fmod 9 < 7) (hr : (n.fdiv 8).fmod 9 = 4 → (n.fdiv 72).fmod 3 ≠ 0) : OneStep w t x n tk := by
  obtain ⟨a, hxa, hxt, ham⟩ := ok.key n
  obtain ⟨k0, k8⟩ := fm8 n
  have hval : x.txn.val = .none := by rw [hx]; rfl
  have hT : x.txn.led w x.S2 x.O = [] := by rw [hx]; rfl
  have tx := ok.tx
  rw [hx] at tx
  refine ((data_none_c2 x.W x.TH x.S x.IN x.O x.OD x.S2 x.DD a x.oW x.oD x.c x.tc x.u1 x.u2 x.u3 x.n3 x.ths x.kvs n tk x.SD2 x.DL2 x.h2 x.t4 x.m2 ok.hW ok.hD hn hw hr ⟨ok.hc.1, by have := ok.hc.2; omega⟩ (by have := ok.kl; omega) hxa ok.dm ⟨ok.ne (i := 0) (j := 6) rfl rfl (by decide), ok.ne (i := 0) (j := 8) rfl rfl (by decide), ok.ne (i := 0) (j := 10) rfl rfl (by decide), ok.ne (i := 6) (j := 8) rfl rfl (by decide), ok.ne (i := 6) (j := 10) rfl rfl (by decide)⟩ ok.lo2)).wk ?sub ?mods ?pre ?post
  case sub => exact (fa8 (List.mem_of_getElem? (i := 0) rfl) (List.mem_of_getElem? (i := 1) rfl) (List.mem_of_getElem? (i := 6) rfl) (List.mem_of_getElem? (i := 7) rfl) (by rw [← hval]; exact List.mem_of_getElem? (i := 8) rfl) (List.mem_of_getElem? (i := 9) rfl) (List.mem_of_getElem? (i := 10) rfl) (List.mem_of_getElem? (i := 11) rfl))
  case mods => exact (fa3 (memW (j := 0) rfl) (memW (j := 6) rfl) (memW (j := 8) rfl))
  case pre =>
    intro h H _
    exact trivial
  case post =>
    rintro h v h' H _ kept ⟨rfl, oW', oD', tc', tt, yv, DA', nr', a', st, g1, g2, g3, g4, f1, f2, hch, hlt, uf, z3, gO, z4, z5⟩
    obtain ⟨o', go, oc, n', od⟩ := z5
    obtain ⟨KF, KR⟩ := ok.keepF (h' := h') [0, 6, 8] ([] : List Addr) ((fa3 (by exact .inl ⟨0, by decide, rfl⟩) (by exact .inl ⟨6, by decide, rfl⟩) (by exact .inl ⟨8, by decide, rfl⟩))) kept
    have fT : ∀ b ∈ (st.led w x.S2 active (.ref x.O) [ent w "_data" tt (.ref DA')] 13).map (·.1), @Ne Nat b DA' ∧ @Ne Nat b a' ∧ (b ∈ (x.txn.led w x.S2 x.O).map (·.1) ∨ h.get? b = none) := fun b hb => by
      obtain ⟨p, hp, rfl⟩ := List.mem_map.mp hb
      obtain ⟨e1, e2, e3⟩ := uf p hp
      exact ⟨e2, e3, .inr e1⟩
    exact ⟨rfl, WS.data_goes ok H g1 g2 g3 g4 gO KF (fun p hp => KR p (WS.tl_rest hp) notin_nil) (fun p hp => KR p (WS.bag_rest hp) notin_nil) z3 z4 go f1 f2 (ne_list_tup z4 go oc) fT hch hlt
      (by have z := RowsOk.set (RowsOk.nil x.ths x.bag) ok.td (a' := a') (y := yv) k0 k8 hxa oc od; rw [show x.kvs = [] from tx]; exact z)⟩
end Mine
end
section
open PySem PySem.W PyProof.Rows PySem.Calls PySem.Spec PyProof.V
namespace Mine
theorem ne_emptyDict {prog : Program} {w : World} {es : List DictEntry} {n : Nat} {o : Obj} (hd : o.IsDictOf (intKind prog w) []) (he : es ≠ []) : o ≠ dictOf es n := fun q => by
  obtain ⟨es', ep, _, h1, _, h2, _⟩ := hd
  rw [q] at h1
  injection h1 with h1 _
  rw [← h1] at h2
  cases es with
  | nil => exact he rfl
  | cons e r => cases h2
section
variable {w : World} {t : Nat} {x : WS} {h h' : Heap}
theorem WS.append_goes (ok : x.Ok w t) (H : Holds h (x.led w)) {a mx mx' : Nat} {its : Array Value} {tk : Tok} (ha : (a, listOf its mx) ∈ x.tl) (kept : ∀ p ∈ x.led w, p.1 ∉ ([a] : List Addr) → h'.get? p.1 = some p.2) (g : h'.get? a = some (listOf (its.push (.int 0 tk)) mx')) :
    Goes (NextW w x (t + 1)) (x.led w) h h' := by
  obtain ⟨KF, KR⟩ := ok.keepF (h' := h') [] [a] ((fa1 (.inr ⟨_, WS.tl_rest ha, rfl, .head _⟩))) kept
  have hmap : (x.tl.map fun p => if p.1 = a then (a, listOf (its.push (.int 0 tk)) mx') else p).map (fun p => p.1) = x.tl.map (fun p => p.1) := by
    rw [List.map_map]
    apply List.map_congr_left
    intro p _
    show (if p.1 = a then ((a, listOf (its.push (.int 0 tk)) mx') : Addr × Obj) else p).1 = p.1
    by_cases e : p.1 = a
    · rw [if_pos e]; exact e.symm
    · rw [if_neg e]
  have mem' : ∀ p ∈ (x.tl.map fun p => if p.1 = a then ((a, listOf (its.push (.int 0 tk)) mx') : Addr × Obj) else p), h'.get? p.1 = some p.2 := fun p hp => by
    obtain ⟨q, hq, rfl⟩ := List.mem_map.mp hp
    by_cases e : q.1 = a
    · rw [if_pos e]; exact g
    · rw [if_neg e]; exact KR q (WS.tl_rest hq) (notin_cons e notin_nil)
  refine ⟨_, ⟨{ x with tl := x.tl.map fun p => if p.1 = a then (a, listOf (its.push (.int 0 tk)) mx') else p }, rfl, ⟨rfl, rfl, rfl, rfl, rfl, rfl, rfl, rfl, rfl, rfl⟩, ?ok⟩, ?holds, ?fresh⟩
  case holds =>
    exact List.forall_mem_cons.mpr ⟨KF (j := 0) rfl (by decide) (by decide), List.forall_mem_cons.mpr ⟨KF (j := 1) rfl (by decide) (by decide), List.forall_mem_cons.mpr ⟨KF (j := 2) rfl (by decide) (by decide), List.forall_mem_cons.mpr ⟨KF (j := 3) rfl (by decide) (by decide), List.forall_mem_cons.mpr ⟨KF (j := 4) rfl (by decide) (by decide), List.forall_mem_cons.mpr ⟨KF (j := 5) rfl (by decide) (by decide), List.forall_mem_cons.mpr ⟨KF (j := 6) rfl (by decide) (by decide), List.forall_mem_cons.mpr ⟨KF (j := 7) rfl (by decide) (by decide), List.forall_mem_cons.mpr ⟨KF (j := 8) rfl (by decide) (by decide), List.forall_mem_cons.mpr ⟨KF (j := 9) rfl (by decide) (by decide), List.forall_mem_cons.mpr ⟨KF (j := 10) rfl (by decide) (by decide), List.forall_mem_cons.mpr ⟨KF (j := 11) rfl (by decide) (by decide), List.forall_mem_cons.mpr ⟨KF (j := 12) rfl (by decide) (by decide), List.forall_mem_cons.mpr ⟨KF (j := 13) rfl (by decide) (by decide), List.forall_mem_cons.mpr ⟨KF (j := 14) rfl (by decide) (by decide), WS.holds_rest (fun p hp => KR p (WS.txn_rest hp) (notin_cons (ok.txn_tl hp ha) notin_nil)) mem' (fun p hp => KR p (WS.bag_rest hp) (notin_cons (ok.tl_bag ha hp).symm notin_nil))⟩⟩⟩⟩⟩⟩⟩⟩⟩⟩⟩⟩⟩⟩⟩
  case fresh =>
    exact List.forall_mem_cons.mpr ⟨.inl (List.mem_of_getElem? (i := 0) rfl), List.forall_mem_cons.mpr ⟨.inl (List.mem_of_getElem? (i := 1) rfl), List.forall_mem_cons.mpr ⟨.inl (List.mem_of_getElem? (i := 2) rfl), List.forall_mem_cons.mpr ⟨.inl (List.mem_of_getElem? (i := 3) rfl), List.forall_mem_cons.mpr ⟨.inl (List.mem_of_getElem? (i := 4) rfl), List.forall_mem_cons.mpr ⟨.inl (List.mem_of_getElem? (i := 5) rfl), List.forall_mem_cons.mpr ⟨.inl (List.mem_of_getElem? (i := 6) rfl), List.forall_mem_cons.mpr ⟨.inl (List.mem_of_getElem? (i := 7) rfl), List.forall_mem_cons.mpr ⟨.inl (List.mem_of_getElem? (i := 8) rfl), List.forall_mem_cons.mpr ⟨.inl (List.mem_of_getElem? (i := 9) rfl), List.forall_mem_cons.mpr ⟨.inl (List.mem_of_getElem? (i := 10) rfl), List.forall_mem_cons.mpr ⟨.inl (List.mem_of_getElem? (i := 11) rfl), List.forall_mem_cons.mpr ⟨.inl (List.mem_of_getElem? (i := 12) rfl), List.forall_mem_cons.mpr ⟨.inl (List.mem_of_getElem? (i := 13) rfl), List.forall_mem_cons.mpr ⟨.inl (List.mem_of_getElem? (i := 14) rfl), WS.rest_cases (fun p hp => .inl (List.mem_map_of_mem (WS.rest_led (WS.txn_rest hp)))) (fun p hp => .inl (by have z : p.1 ∈ (x.tl.map fun p => if p.1 = a then ((a, listOf (its.push (.int 0 tk)) mx') : Addr × Obj) else p).map (fun p => p.1) := List.mem_map_of_mem hp; rw [hmap] at z; rw [x.led_map]; exact List.mem_append_right _ (List.mem_append_right _ (List.mem_append_left _ z)))) (fun p hp => .inl (List.mem_map_of_mem (WS.rest_led (WS.bag_rest hp))))⟩⟩⟩⟩⟩⟩⟩⟩⟩⟩⟩⟩⟩⟩⟩
  case ok =>
    refine { ok.up with nd := ?_, ta := hmap.trans ok.ta, to := ?_ }
    · have := ok.ndp
      rw [← hmap] at this
      rw [WS.led_map]
      exact this
    · intro j p hj
      have hj' : (x.tl[j]?).map (fun p => if p.1 = a then ((a, listOf (its.push (.int 0 tk)) mx') : Addr × Obj) else p) = some p := by rw [← List.getElem?_map]; exact hj
      cases q : x.tl[j]? with
      | none => rw [q] at hj'; cases hj'
      | some r =>
        rw [q] at hj'
        have hr := ok.to j r q
        have hp : (if r.1 = a then ((a, listOf (its.push (.int 0 tk)) mx') : Addr × Obj) else r) = p := Option.some.inj hj'
        by_cases e : r.1 = a
        · rw [if_pos e] at hp
          have z1 := H _ (WS.rest_led (WS.tl_rest (List.mem_of_getElem? q)))
          have z2 := H _ (WS.rest_led (WS.tl_rest ha))
          rw [e, z2] at z1
          have z3 : listOf its mx = r.2 := Option.some.inj z1
          rw [← hp]
          unfold ThingOk at hr ⊢
          by_cases hj5 : j = 4 ∨ j = 5
          · rw [if_pos hj5, ← z3] at hr
            exact absurd (Value.type.inj hr) (by decide)
          · rw [if_neg hj5] at hr ⊢
            obtain ⟨its', n', e', hs⟩ := hr
            rw [← z3] at e'
            have e2 : (listOf its mx).data = (listOf its' n').data := congrArg Obj.data e'
            injection e2 with e3 _
            refine ⟨_, _, rfl, ?_⟩
            rw [Array.size_push, e3]
            omega
        · rw [if_neg e] at hp
          rw [← hp]; exact hr.up
theorem WS.ended_goes (ok : x.Ok w t) (H : Holds h (x.led w)) {DD' : Nat} {oW' oD' : Obj} {p1 p2 : Array Value} {txn' : Txn}
    (gW : h'.get? x.W = some oW') (hW' : oW'.IsDictOf (strKind PySem.Challenge.rw_ac0032_01.row.prog w) (worldKvs x.TH x.S x.IN x.O DD' x.c x.tc)) (f1 : h.get? DD' = none) (hdm : ((DD' : Addr) == sysModules) = false) (gD : h'.get? DD' = some oD') (hD' : oD'.IsDictOf (intKind PySem.Challenge.rw_ac0032_01.row.prog w) [])
    (gc : h'.get? 353 = some (tabObj p1)) (tc1 : TriplesOk p1.toList) (ga : h'.get? 505 = some (tabObj p2)) (tc2 : TriplesOk p2.toList) (gO : h'.get? x.OD = some (dictOf [ent w "explicit" x.u1 (.bool false), ent w "_txn" x.u2 txn'.val, ent w "_synchs" x.u3 (.ref x.S2)] 3))
    (K : ∀ {j : Nat} {p : Addr × Obj}, (x.led w)[j]? = some p → j < 15 → j ∉ [0, 6, 8, 12, 13] → h'.get? p.1 = some p.2) (gL : Holds h' x.tl) (gB : Holds h' x.bag) (gT : Holds h' (txn'.led w x.S2 x.O)) (fT : ∀ p ∈ txn'.led w x.S2 x.O, h.get? p.1 = none)
    (nT : ((txn'.led w x.S2 x.O).map (·.1)).Nodup) (nD : DD' ∉ (txn'.led w x.S2 x.O).map (·.1)) (htx : txn'.Ok x.ths x.DL2 [] x.bag) : Goes (NextW w x (t + 1)) (x.led w) h h' := by
  have off : ∀ b, h.get? b = none → b ∉ x.fixA ++ ((x.txn.led w x.S2 x.O).map (·.1) ++ (x.tl.map (·.1) ++ x.bag.map (·.1))) := fun b hb => x.led_map w ▸ fresh_off H hb
  refine ⟨_, ⟨{ x with oW := oW', oD := oD', DD := DD', pc := p1, pa := p2, kvs := [], txn := txn' }, rfl, ⟨rfl, rfl, rfl, rfl, rfl, rfl, rfl, rfl, rfl, rfl⟩, ?ok⟩, ?holds, ?fresh⟩
  case holds =>
    exact List.forall_mem_cons.mpr ⟨gW, List.forall_mem_cons.mpr ⟨K (j := 1) rfl (by decide) (by decide), List.forall_mem_cons.mpr ⟨K (j := 2) rfl (by decide) (by decide), List.forall_mem_cons.mpr ⟨K (j := 3) rfl (by decide) (by decide), List.forall_mem_cons.mpr ⟨K (j := 4) rfl (by decide) (by decide), List.forall_mem_cons.mpr ⟨K (j := 5) rfl (by decide) (by decide), List.forall_mem_cons.mpr ⟨gD, List.forall_mem_cons.mpr ⟨K (j := 7) rfl (by decide) (by decide), List.forall_mem_cons.mpr ⟨gO, List.forall_mem_cons.mpr ⟨K (j := 9) rfl (by decide) (by decide), List.forall_mem_cons.mpr ⟨K (j := 10) rfl (by decide) (by decide), List.forall_mem_cons.mpr ⟨K (j := 11) rfl (by decide) (by decide), List.forall_mem_cons.mpr ⟨gc, List.forall_mem_cons.mpr ⟨ga, List.forall_mem_cons.mpr ⟨K (j := 14) rfl (by decide) (by decide), WS.holds_rest gT gL gB⟩⟩⟩⟩⟩⟩⟩⟩⟩⟩⟩⟩⟩⟩⟩
  case fresh =>
    exact List.forall_mem_cons.mpr ⟨.inl (List.mem_of_getElem? (i := 0) rfl), List.forall_mem_cons.mpr ⟨.inl (List.mem_of_getElem? (i := 1) rfl), List.forall_mem_cons.mpr ⟨.inl (List.mem_of_getElem? (i := 2) rfl), List.forall_mem_cons.mpr ⟨.inl (List.mem_of_getElem? (i := 3) rfl), List.forall_mem_cons.mpr ⟨.inl (List.mem_of_getElem? (i := 4) rfl), List.forall_mem_cons.mpr ⟨.inl (List.mem_of_getElem? (i := 5) rfl), List.forall_mem_cons.mpr ⟨.inr f1, List.forall_mem_cons.mpr ⟨.inl (List.mem_of_getElem? (i := 7) rfl), List.forall_mem_cons.mpr ⟨.inl (List.mem_of_getElem? (i := 8) rfl), List.forall_mem_cons.mpr ⟨.inl (List.mem_of_getElem? (i := 9) rfl), List.forall_mem_cons.mpr ⟨.inl (List.mem_of_getElem? (i := 10) rfl), List.forall_mem_cons.mpr ⟨.inl (List.mem_of_getElem? (i := 11) rfl), List.forall_mem_cons.mpr ⟨.inl (List.mem_of_getElem? (i := 12) rfl), List.forall_mem_cons.mpr ⟨.inl (List.mem_of_getElem? (i := 13) rfl), List.forall_mem_cons.mpr ⟨.inl (List.mem_of_getElem? (i := 14) rfl), WS.rest_cases (fun p hp => .inr (fT p hp)) (fun p hp => .inl (List.mem_map_of_mem (WS.rest_led (WS.tl_rest hp)))) (fun p hp => .inl (List.mem_map_of_mem (WS.rest_led (WS.bag_rest hp))))⟩⟩⟩⟩⟩⟩⟩⟩⟩⟩⟩⟩⟩⟩⟩
  case ok =>
    refine { ok.up with nd := ?_, hW := hW', hD := hD', kl := Nat.zero_le _, tx := htx, pc := tc1, pa := tc2, dm := hdm }
    have n1 : (x.fixA ++ ((txn'.led w x.S2 x.O).map (fun p => p.1) ++ (x.tl.map (fun p => p.1) ++ x.bag.map (fun p => p.1)))).Nodup := nd_txn ok.ndp nT fun b hb => by
      obtain ⟨p, hp, rfl⟩ := List.mem_map.mp hb
      exact .inr (off _ (fT p hp))
    have n2 := nodup_set n1 6 DD' (.inl fun hm => by
      rcases List.mem_append.mp hm with hm | hm
      · exact off _ f1 (List.mem_append_left _ hm)
      · rcases List.mem_append.mp hm with hm | hm
        · exact nD hm
        · exact off _ f1 (List.mem_append_right _ (List.mem_append_right _ hm)))
    rw [WS.led_map]
    exact n2
end
end Mine
end
section
open PySem PySem.W PyProof.Rows PySem.Calls PySem.Spec PyProof.V
namespace Mine
theorem Goes.imp {I I' : List (Addr × Obj) → Prop} {led : List (Addr × Obj)} {h h' : Heap} (G : Goes I led h h') (hi : ∀ l, I l → I' l) : Goes I' led h h' := let ⟨l, a, b, c⟩ := G; ⟨l, hi l a, b, c⟩
theorem fm9 (a : Int) : 0 ≤ a.fmod 9 ∧ a.fmod 9 < 9 := by rw [Int.fmod_eq_emod_of_nonneg a (by decide)]; omega
theorem Claim.toM' {w : World} {D U : Nat} {f : Addr} {args : List Value} {led : List (Addr × Obj)} {Pre : Heap → Prop} {Post : Heap → Value → Heap → Prop} (C : Claim w D U f args led (led.map (·.1)) Pre Post) : ClaimM w D U f args led (led.map (·.1)) Pre Post False := C.toM fun b hb => by
  obtain ⟨p, hp, e⟩ := List.mem_map.mp hb
  exact ⟨p.2, by rw [← e]; exact hp⟩
section
variable {w : World} {t : Nat} {x : WS} {h h' : Heap}
theorem WS.Like.refl : x.Like x := ⟨rfl, rfl, rfl, rfl, rfl, rfl, rfl, rfl, rfl, rfl⟩
theorem WS.same_goes (ok : x.Ok w t) (kept : ∀ p ∈ x.led w, p.1 ∉ ([] : List Addr) → h'.get? p.1 = some p.2) : Goes (NextW w x (t + 1)) (x.led w) h h' :=
  ⟨_, ⟨x, rfl, .refl, ok.up⟩, fun p hp => kept p hp notin_nil, fun p hp => .inl (List.mem_map_of_mem hp)⟩
theorem WS.set_up (ok : x.Ok w t) (H : Holds h (x.led w)) (kept : ∀ p ∈ x.led w, p.1 ∉ ([x.W, x.SD, x.DL] : List Addr) → h'.get? p.1 = some p.2)
    (P : SetPost w x.W x.TH x.S x.SD x.DL x.IN x.O x.DD x.c x.tc x.hh x.t1 x.ths x.vs x.ns h h') : Goes (NextW w x (t + 1)) (x.led w) h h' := (WS.set_goes ok H kept P).imp fun _ ⟨y, e, l, o, _⟩ => ⟨y, e, l, o.up⟩
theorem WS.Ok.has (ok : x.Ok w t) {k : Int} {a : Nat} (k0 : 0 ≤ k) (h : (things x.ths)[k.toNat]? = some (.ref a)) : x.vs.any (· == .ref a) = x.ns.any (· == k) := by
  rw [ok.hv]; exact any_key ok.tn ok.td k0 (things_at h) ok.nr
theorem WS.Ok.tl_at (ok : x.Ok w t) {j : Nat} {a : Nat} (h : x.ths[j]? = some a) : ∃ o, x.tl[j]? = some (a, o) ∧ ThingOk t j o := by
  have e := h
  rw [← ok.ta, List.getElem?_map] at e
  cases q : x.tl[j]? with
  | none => rw [q] at e; cases e
  | some p =>
    rw [q] at e
    have e' : p.1 = a := Option.some.inj e
    exact ⟨p.2, by rw [← e'], ok.to j p q⟩
theorem one_set_put (ok : x.Ok w t) (n : Int) (tk : Tok) (hn : 0 ≤ n ∧ n < 1000000) (hw : (n.fdiv 8).fmod 9 < 2) : OneStep w t x n tk := by
  obtain ⟨a, hxa, hxt, ham⟩ := ok.key n
  refine ((one_put x.W x.TH x.S x.SD x.DL x.IN x.O x.DD a x.oW x.c x.tc x.hh x.t1 x.n2 x.n3 x.n4 x.ths x.vs x.is x.ns n tk ok.vslen ok.vlen ok.hW ok.hi hn hw hxa ham ok.vals (ok.ne (i := 0) (j := 4) rfl rfl (by decide)) (ok.ne (i := 5) (j := 1) rfl rfl (by decide)) (ok.ne (i := 5) (j := 2) rfl rfl (by decide))
    ⟨ok.off (i := 0) rfl, ok.off (i := 1) rfl, ok.off (i := 2) rfl, ok.off (i := 3) rfl, ok.off (i := 4) rfl, ok.off (i := 5) rfl⟩).toM ((fa3 ⟨_, .head _⟩ ⟨_, in4⟩ ⟨_, in5⟩))).wk ((fa6 (List.mem_of_getElem? (i := 0) rfl) (List.mem_of_getElem? (i := 1) rfl) (List.mem_of_getElem? (i := 2) rfl) (List.mem_of_getElem? (i := 3) rfl) (List.mem_of_getElem? (i := 4) rfl) (List.mem_of_getElem? (i := 5) rfl))) ((fa3 (memW (j := 0) rfl) (memW (j := 4) rfl) (memW (j := 5) rfl))) (fun h H _ => ok.stand H) ?_
  rintro h v h' H _ kept ⟨rfl, P⟩
  exact ⟨rfl, WS.set_up ok H kept P⟩
theorem one_set_out (ok : x.Ok w t) (n : Int) (tk : Tok) (hn : 0 ≤ n ∧ n < 1000000) (hw : (n.fdiv 8).fmod 9 = 2) : OneStep w t x n tk := by
  obtain ⟨a, hxa, hxt, ham⟩ := ok.key n
  have hk := ok.has (fm8 n).1 hxa
  cases q : x.ns.any (· == n.fmod 8) with
  | true =>
    rw [q] at hk
    refine ((one_out_hit x.W x.TH x.S x.SD x.DL x.IN x.O x.DD a x.oW x.c x.tc x.hh x.t1 x.n2 x.n3 x.n4 x.ths x.vs x.is x.ns n tk ok.vslen ok.vlen ok.hW ok.hi hn hw hxa ham ok.vals ok.lo.2
      ⟨ok.off (i := 0) rfl, ok.off (i := 1) rfl, ok.off (i := 2) rfl, ok.off (i := 3) rfl, ok.off (i := 4) rfl, ok.off (i := 5) rfl⟩ hk q).toM ((fa3 ⟨_, .head _⟩ ⟨_, in4⟩ ⟨_, in5⟩))).wk ((fa6 (List.mem_of_getElem? (i := 0) rfl) (List.mem_of_getElem? (i := 1) rfl) (List.mem_of_getElem? (i := 2) rfl) (List.mem_of_getElem? (i := 3) rfl) (List.mem_of_getElem? (i := 4) rfl) (List.mem_of_getElem? (i := 5) rfl))) ((fa3 (memW (j := 0) rfl) (memW (j := 4) rfl) (memW (j := 5) rfl))) (fun h H _ => ok.stand H) ?_
    rintro h v h' H _ kept ⟨rfl, P⟩
    exact ⟨rfl, WS.set_up ok H kept P⟩
  | false =>
    rw [q] at hk
    refine (one_out_miss x.W x.TH x.S x.SD x.DL x.IN x.O x.DD a x.oW x.c x.tc x.hh x.t1 x.n2 x.n3 x.n4 x.ths x.vs x.is x.ns n tk ok.vslen ok.vlen ok.hW ok.hi hn hw hxa ham ok.vals ok.lo.2
      ⟨ok.off (i := 0) rfl, ok.off (i := 1) rfl, ok.off (i := 2) rfl, ok.off (i := 3) rfl, ok.off (i := 4) rfl, ok.off (i := 5) rfl⟩ hk q).wk ((fa6 (List.mem_of_getElem? (i := 0) rfl) (List.mem_of_getElem? (i := 1) rfl) (List.mem_of_getElem? (i := 2) rfl) (List.mem_of_getElem? (i := 3) rfl) (List.mem_of_getElem? (i := 4) rfl) (List.mem_of_getElem? (i := 5) rfl))) (fun _ h => nomatch h) (fun h H _ => ok.stand H) ?_
    rintro h v h' H _ kept rfl
    exact ⟨rfl, WS.same_goes ok kept⟩
theorem one_set_clear (ok : x.Ok w t) (n : Int) (tk : Tok) (hn : 0 ≤ n ∧ n < 1000000) (hw : (n.fdiv 8).fmod 9 = 4) (hr : (n.fdiv 72).fmod 3 = 0) : OneStep w t x n tk := by
  refine ((one_clear x.W x.TH x.S x.SD x.DL x.IN x.O x.DD x.oW x.c x.tc x.hh x.t1 x.n2 x.n3 x.n4 x.ths x.vs x.is x.ns n tk ok.vslen ok.vlen ok.hW ok.hi hn hw hr (ok.ne (i := 0) (j := 4) rfl rfl (by decide)) (ok.ne (i := 5) (j := 1) rfl rfl (by decide)) (ok.ne (i := 5) (j := 2) rfl rfl (by decide))).toM ((fa3 ⟨_, .head _⟩ ⟨_, in4⟩ ⟨_, in5⟩))).wk ((fa6 (List.mem_of_getElem? (i := 0) rfl) (List.mem_of_getElem? (i := 1) rfl) (List.mem_of_getElem? (i := 2) rfl) (List.mem_of_getElem? (i := 3) rfl) (List.mem_of_getElem? (i := 4) rfl) (List.mem_of_getElem? (i := 5) rfl))) ((fa3 (memW (j := 0) rfl) (memW (j := 4) rfl) (memW (j := 5) rfl))) (fun _ _ _ => trivial) ?_
  rintro h v h' H _ kept ⟨rfl, P⟩
  exact ⟨rfl, WS.set_up ok H kept P⟩
theorem one_set_walked (ok : x.Ok w t) (n : Int) (tk : Tok) (hn : 0 ≤ n ∧ n < 1000000) (hw : (n.fdiv 8).fmod 9 = 3) : OneStep w t x n tk := by
  refine (one_walked x ok n tk hn hw).toM'.wk (fun _ h => h) (fun _ h => h) (fun _ _ _ => trivial) ?_
  rintro h v h' H _ kept ⟨rfl, P⟩
  exact ⟨rfl, P.imp fun _ ⟨y, e, l, o⟩ => ⟨y, e, l, o.up⟩⟩
theorem one_set_rest (ok : x.Ok w t) (n : Int) (tk : Tok) (hn : 0 ≤ n ∧ n < 1000000) (hw : (n.fdiv 8).fmod 9 = 8) (hr : (n.fdiv 72).fmod 2 ≠ 0) : OneStep w t x n tk := by
  refine ((one_rest x.W n tk hn hw hr).toM fun _ h => nomatch h).wk (fun _ h => nomatch h) (fun _ h => nomatch h) (fun _ _ _ => trivial) ?_
  rintro h v h' H _ kept rfl
  exact ⟨rfl, WS.same_goes ok kept⟩
theorem one_set_seven (ok : x.Ok w t) (ht : t ≤ 60) (n : Int) (tk : Tok) (hn : 0 ≤ n ∧ n < 1000000) (hw : (n.fdiv 8).fmod 9 = 7) : OneStep w t x n tk := by
  obtain ⟨a, hxa, hxt, ham⟩ := ok.key n
  obtain ⟨o, ho, T⟩ := ok.tl_at hxt
  have hm := List.mem_of_getElem? ho
  unfold ThingOk at T
  split at T
  · refine ((one_skip x.W x.TH x.S x.IN x.O x.DD a x.oW o x.c x.tc x.n3 x.ths n tk ok.hW hn hw hxa T).toM fun _ h => nomatch h).wk ((fa3 (List.mem_of_getElem? (i := 0) rfl) (List.mem_of_getElem? (i := 1) rfl) (WS.rest_led (WS.tl_rest hm)))) (fun _ h => nomatch h) (fun _ _ _ => trivial) ?_
    rintro h v h' H _ kept rfl
    exact ⟨rfl, WS.same_goes ok kept⟩
  · obtain ⟨its, mx, rfl, hs⟩ := T
    refine ((one_append x.W x.TH x.S x.IN x.O x.DD a x.oW x.c x.tc x.n3 x.ths n tk its mx ok.hW hn hw hxa (ok.rest_ne (i := 1) rfl (WS.tl_rest hm)) (by omega)).toM ((fa1 ⟨_, in2⟩))).wk ((fa3 (List.mem_of_getElem? (i := 0) rfl) (List.mem_of_getElem? (i := 1) rfl) (WS.rest_led (WS.tl_rest hm)))) ((fa1 (List.mem_map_of_mem (f := (·.1)) (WS.rest_led (WS.tl_rest hm))))) (fun _ _ _ => trivial) ?_
    rintro h v h' H _ kept ⟨rfl, tk', mx', g⟩
    exact ⟨rfl, WS.append_goes ok H hm kept g⟩
theorem endD {st : Tst} {S2 O DD' : Nat} {oD' : Obj} (H : Holds h' (st.led w S2 active (.ref O) [] 12)) (g : h'.get? DD' = some oD') (hD : oD'.IsDictOf (intKind PySem.Challenge.rw_ac0032_01.row.prog w) []) : DD' ∉ ((Txn.fresh st).led w S2 O).map (·.1) := fun hm => by
  obtain ⟨p, hp, e⟩ := List.mem_map.mp hm
  have z := H p hp
  rw [e, g] at z
  have z' : oD' = p.2 := Option.some.inj z
  have cl := isDictOf_cls hD
  have : ∀ p ∈ st.led w S2 active (.ref O) [] 12, oD' ≠ p.2 := (fa8 (fun q => (by rw [q] at cl; exact Value.noConfusion cl)) (ne_emptyDict hD (by simp)) (fun q => (by rw [q] at cl; exact absurd (Value.type.inj cl) (show ¬ ("list" = "dict") by decide))) (fun q => (by rw [q] at cl; exact absurd (Value.type.inj cl) (show ¬ ("list" = "dict") by decide))) (fun q => (by rw [q] at cl; exact absurd (Value.type.inj cl) (show ¬ ("list" = "dict") by decide))) (fun q => (by rw [q] at cl; exact absurd (Value.type.inj cl) (show ¬ ("list" = "dict") by decide))) (fun q => (by rw [q] at cl; exact absurd (Value.type.inj cl) (show ¬ ("list" = "dict") by decide))) (fun q => (by rw [q] at cl; exact absurd (Value.type.inj cl) (show ¬ ("list" = "dict") by decide))))
  exact this p hp z'
theorem one_end_none (ok : x.Ok w t) (hx : x.txn = .none) (n : Int) (tk : Tok) (hn : 0 ≤ n ∧ n < 1000000) (hw : (n.fdiv 8).fmod 9 = 8) (hr : (n.fdiv 72).fmod 2 = 0) : OneStep w t x n tk := by
  have hval : x.txn.val = .none := by rw [hx]; rfl
  refine ((one_ended_new x.W x.TH x.S x.IN x.O x.OD x.S2 x.SD2 x.DL2 x.DD x.oW x.c x.tc x.u1 x.u2 x.u3 x.h2 x.t4 x.m2 x.pc x.pa n tk ok.hW ok.lo2 ⟨by have := ok.lo; omega, ok.ne (i := 0) (j := 8) rfl rfl (by decide), ok.ne (i := 0) (j := 10) rfl rfl (by decide)⟩ hn hw hr).toM ((fa4 ⟨_, .head _⟩ ⟨_, in1⟩ ⟨_, in2⟩ ⟨_, in4⟩))).wk ((fa8 (List.mem_of_getElem? (i := 0) rfl) (List.mem_of_getElem? (i := 12) rfl) (List.mem_of_getElem? (i := 13) rfl) (List.mem_of_getElem? (i := 7) rfl) (by rw [← hval]; exact List.mem_of_getElem? (i := 8) rfl) (List.mem_of_getElem? (i := 9) rfl) (List.mem_of_getElem? (i := 10) rfl) (List.mem_of_getElem? (i := 11) rfl))) ((fa4 (memW (j := 0) rfl) (memW (j := 12) rfl) (memW (j := 13) rfl) (memW (j := 8) rfl))) (fun _ _ _ => ⟨ok.pc, ok.pa⟩) ?_
  rintro h v h' H _ kept ⟨rfl, ⟨oW', DD', oD', g1, g2, f1, g4, g5, g6⟩, ⟨p1, q1, q2⟩, ⟨p2, q3, q4⟩, hO⟩
  obtain ⟨KF, KR⟩ := ok.keepF (h' := h') [0, 8, 12, 13] ([] : List Addr) ((fa4 (by exact .inl ⟨0, by decide, rfl⟩) (by exact .inl ⟨12, by decide, rfl⟩) (by exact .inl ⟨13, by decide, rfl⟩) (by exact .inl ⟨8, by decide, rfl⟩))) kept
  have KF' : ∀ {j : Nat} {p : Addr × Obj}, (x.led w)[j]? = some p → j < 15 → j ∉ [0, 6, 8, 12, 13] → h'.get? p.1 = some p.2 := fun hj h15 hn' => KF hj h15 (fun q => hn' (by
    rcases List.mem_cons.mp q with e | q
    · exact e ▸ .head _
    · exact .tail _ (.tail _ q)))
  have gL : Holds h' x.tl := fun p hp => KR p (WS.tl_rest hp) notin_nil
  have gB : Holds h' x.bag := fun p hp => KR p (WS.bag_rest hp) notin_nil
  refine ⟨rfl, ?_⟩
  rcases hO with hO | ⟨zz, c1, c2, c3, c4, c5⟩
  · exact WS.ended_goes ok H (txn' := .none) g1 g2 f1 g4 g5 g6 q2 q1 q4 q3 hO KF' gL gB (fun _ h => nomatch h) (fun _ h => nomatch h) .nil (fun h => nomatch h) rfl
  · exact WS.ended_goes ok H (txn' := .fresh zz) g1 g2 f1 g4 g5 g6 q2 q1 q4 q3 c5 KF' gL gB c3 c4 (c1.nd ..) (endD c3 g5 g6) ⟨c1, c2, rfl⟩
theorem one_end_fresh (ok : x.Ok w t) {st : Tst} (hx : x.txn = .fresh st) (n : Int) (tk : Tok) (hn : 0 ≤ n ∧ n < 1000000) (hw : (n.fdiv 8).fmod 9 = 8) (hr : (n.fdiv 72).fmod 2 = 0) : OneStep w t x n tk := by
  have hval : x.txn.val = .ref st.T := by rw [hx]; rfl
  have tx := ok.tx
  rw [hx] at tx
  have hT : x.txn.led w x.S2 x.O = st.led w x.S2 active (.ref x.O) [] 12 := by rw [hx]; rfl
  refine ((one_ended_old x.W x.TH x.S x.IN x.O x.OD x.S2 x.SD2 x.DL2 x.DD x.oW x.c x.tc x.u1 x.u2 x.u3 x.h2 x.t4 x.m2 x.pc x.pa n tk st tx.1 [] 12 (.inl ⟨rfl, rfl⟩) ok.hW ⟨ok.lo2.1, ok.lo2.2.1, ok.lo2.2.2.1, ok.lo2.2.2.2.1, ok.lo2.2.2.2.2, tx.2.1⟩ ⟨by have := ok.lo; omega, ok.ne (i := 0) (j := 8) rfl rfl (by decide), ok.ne (i := 0) (j := 10) rfl rfl (by decide), (ok.rest_ne (i := 0) rfl (WS.txn_rest (by rw [hT]; exact in1))).symm⟩ hn hw hr).toM ((fa5 ⟨_, .head _⟩ ⟨_, in1⟩ ⟨_, in2⟩ ⟨_, in4⟩ ⟨_, in9⟩))).wk ((fa16 (List.mem_of_getElem? (i := 0) rfl) (List.mem_of_getElem? (i := 12) rfl) (List.mem_of_getElem? (i := 13) rfl) (List.mem_of_getElem? (i := 7) rfl) (by rw [← hval]; exact List.mem_of_getElem? (i := 8) rfl) (List.mem_of_getElem? (i := 9) rfl) (List.mem_of_getElem? (i := 10) rfl) (List.mem_of_getElem? (i := 11) rfl) (WS.rest_led (WS.txn_rest (by rw [hT]; exact .head _))) (WS.rest_led (WS.txn_rest (by rw [hT]; exact in1))) (WS.rest_led (WS.txn_rest (by rw [hT]; exact in2))) (WS.rest_led (WS.txn_rest (by rw [hT]; exact in3))) (WS.rest_led (WS.txn_rest (by rw [hT]; exact in4))) (WS.rest_led (WS.txn_rest (by rw [hT]; exact in5))) (WS.rest_led (WS.txn_rest (by rw [hT]; exact in6))) (WS.rest_led (WS.txn_rest (by rw [hT]; exact in7))))) ((fa5 (memW (j := 0) rfl) (memW (j := 12) rfl) (memW (j := 13) rfl) (memW (j := 8) rfl) (List.mem_map_of_mem (f := (·.1)) (WS.rest_led (WS.txn_rest (by rw [hT]; exact in1)))))) (fun _ _ _ => ⟨ok.pc, ok.pa⟩) ?_
  rintro h v h' H _ kept ⟨rfl, ⟨oW', DD', oD', g1, g2, f1, g4, g5, g6⟩, ⟨p1, q1, q2⟩, ⟨p2, q3, q4⟩, hO⟩
  obtain ⟨KF, KR⟩ := ok.keepF (h' := h') [0, 8, 12, 13] [st.TD] ((fa5 (by exact .inl ⟨0, by decide, rfl⟩) (by exact .inl ⟨12, by decide, rfl⟩) (by exact .inl ⟨13, by decide, rfl⟩) (by exact .inl ⟨8, by decide, rfl⟩) (by exact .inr ⟨_, WS.txn_rest (by rw [hT]; exact in1), rfl, .head _⟩))) kept
  have KF' : ∀ {j : Nat} {p : Addr × Obj}, (x.led w)[j]? = some p → j < 15 → j ∉ [0, 6, 8, 12, 13] → h'.get? p.1 = some p.2 := fun hj h15 hn' => KF hj h15 (fun q => hn' (by
    rcases List.mem_cons.mp q with e | q
    · exact e ▸ .head _
    · exact .tail _ (.tail _ q)))
  have gL : Holds h' x.tl := fun p hp => KR p (WS.tl_rest hp) (notin_cons (ok.txn_tl (p := (st.TD, _)) (by rw [hT]; exact in1) hp).symm notin_nil)
  have gB : Holds h' x.bag := fun p hp => KR p (WS.bag_rest hp) (notin_cons (ok.txn_bag (p := (st.TD, _)) (by rw [hT]; exact in1) hp).symm notin_nil)
  refine ⟨rfl, ?_⟩
  rcases hO with hO | ⟨zz, c1, c2, c3, c4, c5⟩
  · exact WS.ended_goes ok H (txn' := .none) g1 g2 f1 g4 g5 g6 q2 q1 q4 q3 hO KF' gL gB (fun _ h => nomatch h) (fun _ h => nomatch h) .nil (fun h => nomatch h) rfl
  · exact WS.ended_goes ok H (txn' := .fresh zz) g1 g2 f1 g4 g5 g6 q2 q1 q4 q3 c5 KF' gL gB c3 c4 (c1.nd ..) (endD c3 g5 g6) ⟨c1, c2, rfl⟩
theorem one_end_rows (ok : x.Ok w t) {st : Tst} {tt : Tok} {DA nr : Nat} {rs : List Row} (hx : x.txn = .rows st tt DA nr rs) (n : Int) (tk : Tok) (hn : 0 ≤ n ∧ n < 1000000) (hw : (n.fdiv 8).fmod 9 = 8) (hr : (n.fdiv 72).fmod 2 = 0) : OneStep w t x n tk := by
  have hval : x.txn.val = .ref st.T := by rw [hx]; rfl
  have tx := ok.tx
  rw [hx] at tx
  have hT : x.txn.led w x.S2 x.O = (DA, listOf (rowVals rs).toArray nr) :: st.led w x.S2 active (.ref x.O) [ent w "_data" tt (.ref DA)] 13 := by rw [hx]; rfl
  refine ((one_ended_old x.W x.TH x.S x.IN x.O x.OD x.S2 x.SD2 x.DL2 x.DD x.oW x.c x.tc x.u1 x.u2 x.u3 x.h2 x.t4 x.m2 x.pc x.pa n tk st tx.1 [ent w "_data" tt (.ref DA)] 13 (.inr ⟨_, _, rfl, rfl⟩) ok.hW ⟨ok.lo2.1, ok.lo2.2.1, ok.lo2.2.2.1, ok.lo2.2.2.2.1, ok.lo2.2.2.2.2, tx.2.1⟩ ⟨by have := ok.lo; omega, ok.ne (i := 0) (j := 8) rfl rfl (by decide), ok.ne (i := 0) (j := 10) rfl rfl (by decide), (ok.rest_ne (i := 0) rfl (WS.txn_rest (by rw [hT]; exact in2))).symm⟩ hn hw hr).toM ((fa5 ⟨_, .head _⟩ ⟨_, in1⟩ ⟨_, in2⟩ ⟨_, in4⟩ ⟨_, in9⟩))).wk ((fa16 (List.mem_of_getElem? (i := 0) rfl) (List.mem_of_getElem? (i := 12) rfl) (List.mem_of_getElem? (i := 13) rfl) (List.mem_of_getElem? (i := 7) rfl) (by rw [← hval]; exact List.mem_of_getElem? (i := 8) rfl) (List.mem_of_getElem? (i := 9) rfl) (List.mem_of_getElem? (i := 10) rfl) (List.mem_of_getElem? (i := 11) rfl) (WS.rest_led (WS.txn_rest (by rw [hT]; exact in1))) (WS.rest_led (WS.txn_rest (by rw [hT]; exact in2))) (WS.rest_led (WS.txn_rest (by rw [hT]; exact in3))) (WS.rest_led (WS.txn_rest (by rw [hT]; exact in4))) (WS.rest_led (WS.txn_rest (by rw [hT]; exact in5))) (WS.rest_led (WS.txn_rest (by rw [hT]; exact in6))) (WS.rest_led (WS.txn_rest (by rw [hT]; exact in7))) (WS.rest_led (WS.txn_rest (by rw [hT]; exact in8))))) ((fa5 (memW (j := 0) rfl) (memW (j := 12) rfl) (memW (j := 13) rfl) (memW (j := 8) rfl) (List.mem_map_of_mem (f := (·.1)) (WS.rest_led (WS.txn_rest (by rw [hT]; exact in2)))))) (fun _ _ _ => ⟨ok.pc, ok.pa⟩) ?_
  rintro h v h' H _ kept ⟨rfl, ⟨oW', DD', oD', g1, g2, f1, g4, g5, g6⟩, ⟨p1, q1, q2⟩, ⟨p2, q3, q4⟩, hO⟩
  obtain ⟨KF, KR⟩ := ok.keepF (h' := h') [0, 8, 12, 13] [st.TD] ((fa5 (by exact .inl ⟨0, by decide, rfl⟩) (by exact .inl ⟨12, by decide, rfl⟩) (by exact .inl ⟨13, by decide, rfl⟩) (by exact .inl ⟨8, by decide, rfl⟩) (by exact .inr ⟨_, WS.txn_rest (by rw [hT]; exact in2), rfl, .head _⟩))) kept
  have KF' : ∀ {j : Nat} {p : Addr × Obj}, (x.led w)[j]? = some p → j < 15 → j ∉ [0, 6, 8, 12, 13] → h'.get? p.1 = some p.2 := fun hj h15 hn' => KF hj h15 (fun q => hn' (by
    rcases List.mem_cons.mp q with e | q
    · exact e ▸ .head _
    · exact .tail _ (.tail _ q)))
  have gL : Holds h' x.tl := fun p hp => KR p (WS.tl_rest hp) (notin_cons (ok.txn_tl (p := (st.TD, _)) (by rw [hT]; exact in2) hp).symm notin_nil)
  have gB : Holds h' x.bag := fun p hp => KR p (WS.bag_rest hp) (notin_cons (ok.txn_bag (p := (st.TD, _)) (by rw [hT]; exact in2) hp).symm notin_nil)
  refine ⟨rfl, ?_⟩
  rcases hO with hO | ⟨zz, c1, c2, c3, c4, c5⟩
  · exact WS.ended_goes ok H (txn' := .none) g1 g2 f1 g4 g5 g6 q2 q1 q4 q3 hO KF' gL gB (fun _ h => nomatch h) (fun _ h => nomatch h) .nil (fun h => nomatch h) rfl
  · exact WS.ended_goes ok H (txn' := .fresh zz) g1 g2 f1 g4 g5 g6 q2 q1 q4 q3 c5 KF' gL gB c3 c4 (c1.nd ..) (endD c3 g5 g6) ⟨c1, c2, rfl⟩
theorem one_step (ok : x.Ok w t) (ht : t ≤ 60) (n : Int) (tk : Tok) (hn : 0 ≤ n ∧ n < 1000000) : OneStep w t x n tk := by
  obtain ⟨b0, b9⟩ := fm9 (n.fdiv 8)
  by_cases h2 : (n.fdiv 8).fmod 9 < 2
  · exact one_set_put ok n tk hn h2
  by_cases e2 : (n.fdiv 8).fmod 9 = 2
  · exact one_set_out ok n tk hn e2
  by_cases e3 : (n.fdiv 8).fmod 9 = 3
  · exact one_set_walked ok n tk hn e3
  by_cases e7 : (n.fdiv 8).fmod 9 = 7
  · exact one_set_seven ok ht n tk hn e7
  by_cases e8 : (n.fdiv 8).fmod 9 = 8
  · by_cases r2 : (n.fdiv 72).fmod 2 = 0
    · cases hx : x.txn with
      | none => exact one_end_none ok hx n tk hn e8 r2
      | fresh st => exact one_end_fresh ok hx n tk hn e8 r2
      | rows st tt DA nr rs => exact one_end_rows ok hx n tk hn e8 r2
    · exact one_set_rest ok n tk hn e8 r2
  by_cases e4 : (n.fdiv 8).fmod 9 = 4 ∧ (n.fdiv 72).fmod 3 = 0
  · exact one_set_clear ok n tk hn e4.1 e4.2
  have hw : 4 ≤ (n.fdiv 8).fmod 9 ∧ (n.fdiv 8).fmod 9 < 7 := by clear e4 hn; omega
  have hr : (n.fdiv 8).fmod 9 = 4 → (n.fdiv 72).fmod 3 ≠ 0 := fun e q => e4 ⟨e, q⟩
  cases hx : x.txn with
  | none => exact one_data_none ok ht hx n tk hn hw hr
  | fresh st => exact one_data_fresh ok ht hx n tk hn hw hr
  | rows st tt DA nr rs => exact one_data_rows ok ht hx n tk hn hw hr
end
end Mine
end
section
open PySem PySem.W PyProof.Rows PySem.Calls PySem.Spec PyProof.V
namespace Mine
noncomputable abbrev BorneStep (w : World) (t : Nat) (x : WS) (k : Int) (tk : Tok) : Prop :=
  ClaimM w 600 3200 856 [.ref x.W, .int k tk] (x.led w) ((x.led w).map (·.1)) (fun _ => True) (fun h v h' => v = .bool true ∧ Goes (NextW w x t) (x.led w) h h') False
section
variable {w : World} {t : Nat} {x : WS} {h h' : Heap}
theorem WS.same_goes' (ok : x.Ok w t) (kept : ∀ p ∈ x.led w, p.1 ∉ ([] : List Addr) → h'.get? p.1 = some p.2) : Goes (NextW w x t) (x.led w) h h' :=
  ⟨_, ⟨x, rfl, .refl, ok⟩, fun p hp => kept p hp notin_nil, fun p hp => .inl (List.mem_map_of_mem hp)⟩
theorem WS.Ok.thing_k (ok : x.Ok w t) {k : Int} (k0 : 0 ≤ k) (k8 : k < 8) : ∃ a, (things x.ths)[k.toNat]? = some (.ref a) ∧ x.ths[k.toNat]? = some a ∧ a ∈ x.ths := by
  have tn := ok.tn
  have e : x.ths[k.toNat]? = some (x.ths[k.toNat]'(by omega)) := List.getElem?_eq_getElem (by omega)
  exact ⟨_, at_things e, e, List.mem_of_getElem? e⟩
theorem WS.begun_goes (ok : x.Ok w t) (H : Holds h (x.led w)) (hx : x.txn = .none) {st : Tst} (hch : st.Chain) (hlt : x.DL2 < st.TD) (gT : Holds h' (st.led w x.S2 active (.ref x.O) [] 12)) (fT : ∀ p ∈ st.led w x.S2 active (.ref x.O) [] 12, h.get? p.1 = none)
    (gO : h'.get? x.OD = some (dictOf [ent w "explicit" x.u1 (.bool false), ent w "_txn" x.u2 (.ref st.T), ent w "_synchs" x.u3 (.ref x.S2)] 3)) (kept : ∀ p ∈ x.led w, p.1 ∉ ([x.OD] : List Addr) → h'.get? p.1 = some p.2) : Goes (NextW w x t) (x.led w) h h' := by
  have off : ∀ b, h.get? b = none → b ∉ x.fixA ++ ((x.txn.led w x.S2 x.O).map (·.1) ++ (x.tl.map (·.1) ++ x.bag.map (·.1))) := fun b hb => x.led_map w ▸ fresh_off H hb
  obtain ⟨K, KR⟩ := ok.keepF (h' := h') [8] [] ((fa1 (.inl ⟨8, by decide, rfl⟩))) kept
  have tx := ok.tx
  rw [hx] at tx
  refine ⟨_, ⟨{ x with txn := .fresh st }, rfl, ⟨rfl, rfl, rfl, rfl, rfl, rfl, rfl, rfl, rfl, rfl⟩, ?ok⟩, ?holds, ?fresh⟩
  case holds => exact List.forall_mem_cons.mpr ⟨K (j := 0) rfl (by decide) (by decide), List.forall_mem_cons.mpr ⟨K (j := 1) rfl (by decide) (by decide), List.forall_mem_cons.mpr ⟨K (j := 2) rfl (by decide) (by decide), List.forall_mem_cons.mpr ⟨K (j := 3) rfl (by decide) (by decide), List.forall_mem_cons.mpr ⟨K (j := 4) rfl (by decide) (by decide), List.forall_mem_cons.mpr ⟨K (j := 5) rfl (by decide) (by decide), List.forall_mem_cons.mpr ⟨K (j := 6) rfl (by decide) (by decide), List.forall_mem_cons.mpr ⟨K (j := 7) rfl (by decide) (by decide), List.forall_mem_cons.mpr ⟨gO, List.forall_mem_cons.mpr ⟨K (j := 9) rfl (by decide) (by decide), List.forall_mem_cons.mpr ⟨K (j := 10) rfl (by decide) (by decide), List.forall_mem_cons.mpr ⟨K (j := 11) rfl (by decide) (by decide), List.forall_mem_cons.mpr ⟨K (j := 12) rfl (by decide) (by decide), List.forall_mem_cons.mpr ⟨K (j := 13) rfl (by decide) (by decide), List.forall_mem_cons.mpr ⟨K (j := 14) rfl (by decide) (by decide), WS.holds_rest gT (fun p hp => KR p (WS.tl_rest hp) notin_nil) (fun p hp => KR p (WS.bag_rest hp) notin_nil)⟩⟩⟩⟩⟩⟩⟩⟩⟩⟩⟩⟩⟩⟩⟩
  case fresh => exact List.forall_mem_cons.mpr ⟨.inl (List.mem_of_getElem? (i := 0) rfl), List.forall_mem_cons.mpr ⟨.inl (List.mem_of_getElem? (i := 1) rfl), List.forall_mem_cons.mpr ⟨.inl (List.mem_of_getElem? (i := 2) rfl), List.forall_mem_cons.mpr ⟨.inl (List.mem_of_getElem? (i := 3) rfl), List.forall_mem_cons.mpr ⟨.inl (List.mem_of_getElem? (i := 4) rfl), List.forall_mem_cons.mpr ⟨.inl (List.mem_of_getElem? (i := 5) rfl), List.forall_mem_cons.mpr ⟨.inl (List.mem_of_getElem? (i := 6) rfl), List.forall_mem_cons.mpr ⟨.inl (List.mem_of_getElem? (i := 7) rfl), List.forall_mem_cons.mpr ⟨.inl (List.mem_of_getElem? (i := 8) rfl), List.forall_mem_cons.mpr ⟨.inl (List.mem_of_getElem? (i := 9) rfl), List.forall_mem_cons.mpr ⟨.inl (List.mem_of_getElem? (i := 10) rfl), List.forall_mem_cons.mpr ⟨.inl (List.mem_of_getElem? (i := 11) rfl), List.forall_mem_cons.mpr ⟨.inl (List.mem_of_getElem? (i := 12) rfl), List.forall_mem_cons.mpr ⟨.inl (List.mem_of_getElem? (i := 13) rfl), List.forall_mem_cons.mpr ⟨.inl (List.mem_of_getElem? (i := 14) rfl), WS.rest_cases (fun p hp => .inr (fT p hp)) (fun p hp => .inl (List.mem_map_of_mem (WS.rest_led (WS.tl_rest hp)))) (fun p hp => .inl (List.mem_map_of_mem (WS.rest_led (WS.bag_rest hp))))⟩⟩⟩⟩⟩⟩⟩⟩⟩⟩⟩⟩⟩⟩⟩
  case ok =>
    refine { ok with nd := ?_, tx := ⟨hch, hlt, tx⟩ }
    have n1 : (x.fixA ++ ((st.led w x.S2 active (.ref x.O) [] 12).map (fun p => p.1) ++ (x.tl.map (fun p => p.1) ++ x.bag.map (fun p => p.1)))).Nodup := nd_txn ok.ndp (hch.nd ..) fun b hb => by
      obtain ⟨p, hp, rfl⟩ := List.mem_map.mp hb
      exact .inr (off _ (fT p hp))
    rw [WS.led_map]
    exact n1
theorem borne_step (ok : x.Ok w t) (k : Int) (tk : Tok) (k0 : 0 ≤ k) (k8 : k < 8) : BorneStep w t x k tk := by
  obtain ⟨a, hxa, hxt, ham⟩ := ok.thing_k k0 k8
  have tx := ok.tx
  cases hx : x.txn with
  | none =>
    have hval : x.txn.val = .none := by rw [hx]; rfl
    rw [hx] at tx
    refine (borne_new_c x.W x.TH x.S x.IN x.O x.OD x.S2 x.DD a x.oW x.oD x.c x.tc x.u1 x.u2 x.u3 x.n3 x.ths x.kvs k tk x.SD2 x.DL2 x.h2 x.t4 x.m2 ok.lo2 ok.hW ok.hD k0 k8 hxa ok.dm (by rw [show x.kvs = [] from tx]; rfl) ⟨ok.ne (i := 0) (j := 8) rfl rfl (by decide), ok.ne (i := 6) (j := 8) rfl rfl (by decide)⟩).wk ((fa8 (List.mem_of_getElem? (i := 0) rfl) (List.mem_of_getElem? (i := 1) rfl) (List.mem_of_getElem? (i := 6) rfl) (List.mem_of_getElem? (i := 7) rfl) (by rw [← hval]; exact List.mem_of_getElem? (i := 8) rfl) (List.mem_of_getElem? (i := 9) rfl) (List.mem_of_getElem? (i := 10) rfl) (List.mem_of_getElem? (i := 11) rfl))) ((fa1 (memW (j := 8) rfl))) (fun _ _ _ => trivial) ?_
    rintro h v h' H _ kept ⟨rfl, st, c1, c2, c3, c4, c5⟩
    exact ⟨rfl, WS.begun_goes ok H hx c1 c2 c3 c4 c5 kept⟩
  | fresh st =>
    have hval : x.txn.val = .ref st.T := by rw [hx]; rfl
    have hT : x.txn.led w x.S2 x.O = st.led w x.S2 active (.ref x.O) [] 12 := by rw [hx]; rfl
    rw [hx] at tx
    refine (borne_none_c x.W x.TH x.S x.IN x.O x.OD x.S2 x.DD a x.oW x.oD x.c x.tc x.u1 x.u2 x.u3 x.n3 x.ths x.kvs k tk st ok.hW ok.hD k0 k8 hxa ham ok.dm (by rw [show x.kvs = [] from tx.2.2]; rfl)).wk ((fa7 (List.mem_of_getElem? (i := 0) rfl) (List.mem_of_getElem? (i := 1) rfl) (List.mem_of_getElem? (i := 6) rfl) (List.mem_of_getElem? (i := 7) rfl) (by rw [← hval]; exact List.mem_of_getElem? (i := 8) rfl) (WS.rest_led (WS.txn_rest (by rw [hT]; exact .head _))) (WS.rest_led (WS.txn_rest (by rw [hT]; exact in1))))) (fun _ h => nomatch h) (fun _ _ _ => trivial) ?_
    rintro h v h' H _ kept rfl
    exact ⟨rfl, WS.same_goes' ok kept⟩
  | rows st tt DA nr rs =>
    have hval : x.txn.val = .ref st.T := by rw [hx]; rfl
    have hT : x.txn.led w x.S2 x.O = (DA, listOf (rowVals rs).toArray nr) :: st.led w x.S2 active (.ref x.O) [ent w "_data" tt (.ref DA)] 13 := by rw [hx]; rfl
    rw [hx] at tx
    have ag := tx.2.2.agree k a k0 k8 hxa
    have offs : x.W ∉ x.ths ∧ x.TH ∉ x.ths ∧ x.DD ∉ x.ths ∧ x.O ∉ x.ths ∧ x.OD ∉ x.ths ∧ st.T ∉ x.ths ∧ st.TD ∉ x.ths ∧ DA ∉ x.ths := ⟨ok.off (i := 0) rfl, ok.off (i := 1) rfl, ok.off (i := 6) rfl, ok.off (i := 7) rfl, ok.off (i := 8) rfl, ok.txn_off (p := (st.T, _)) (by rw [hT]; exact in1), ok.txn_off (p := (st.TD, _)) (by rw [hT]; exact in2), ok.txn_off (p := (DA, _)) (by rw [hT]; exact .head _)⟩
    cases hr : rs.filter (fun r => r.x == a) with
    | nil =>
      rw [hr] at ag
      refine (borne_miss_c x.W x.TH x.S x.IN x.O x.OD x.S2 x.DD a x.oW x.oD x.c x.tc x.u1 x.u2 x.u3 x.n3 x.ths x.kvs k tk st ok.hW ok.hD k0 k8 hxa ham ok.dm tt DA nr rs (tx.2.2.len ok.tn) tx.2.2.xs offs hr ag).wk ((fa8 (List.mem_of_getElem? (i := 0) rfl) (List.mem_of_getElem? (i := 1) rfl) (List.mem_of_getElem? (i := 6) rfl) (List.mem_of_getElem? (i := 7) rfl) (by rw [← hval]; exact List.mem_of_getElem? (i := 8) rfl) (WS.rest_led (WS.txn_rest (by rw [hT]; exact in1))) (WS.rest_led (WS.txn_rest (by rw [hT]; exact in2))) (WS.rest_led (WS.txn_rest (by rw [hT]; exact .head _))))) (fun _ h => nomatch h) (fun h H _ => ⟨tx.2.2.rowsAt fun p hp => H p (WS.rest_led (WS.bag_rest hp)), ok.stand H⟩) ?_
      rintro h v h' H _ kept rfl
      exact ⟨rfl, WS.same_goes' ok kept⟩
    | cons r₀ rr =>
      rw [hr] at ag
      refine ((borne_hit_c x.W x.TH x.S x.IN x.O x.OD x.S2 x.DD a x.oW x.oD x.c x.tc x.u1 x.u2 x.u3 x.n3 x.ths x.kvs k tk st ok.hW ok.hD k0 k8 hxa ham ok.dm tt DA nr rs (tx.2.2.len ok.tn) tx.2.2.xs offs r₀ rr hr ag).toM fun _ h => nomatch h).wk ((fa8 (List.mem_of_getElem? (i := 0) rfl) (List.mem_of_getElem? (i := 1) rfl) (List.mem_of_getElem? (i := 6) rfl) (List.mem_of_getElem? (i := 7) rfl) (by rw [← hval]; exact List.mem_of_getElem? (i := 8) rfl) (WS.rest_led (WS.txn_rest (by rw [hT]; exact in1))) (WS.rest_led (WS.txn_rest (by rw [hT]; exact in2))) (WS.rest_led (WS.txn_rest (by rw [hT]; exact .head _))))) (fun _ h => nomatch h) (fun h H _ => ⟨tx.2.2.rowsAt fun p hp => H p (WS.rest_led (WS.bag_rest hp)), ok.stand H⟩) ?_
      rintro h v h' H _ kept rfl
      exact ⟨rfl, WS.same_goes' ok kept⟩
end
end Mine
end
section
open PySem PySem.W PyProof.Rows PySem.Calls PySem.Spec PyProof.V
namespace Mine
theorem nodup_pick {l : List Nat} (h : l.Nodup) {idx : List Nat} (hi : idx.Nodup) (hb : ∀ i ∈ idx, i < l.length) : (idx.map fun i => l.getD i 0).Nodup := by
  induction idx with
  | nil => exact .nil
  | cons i r ih =>
    obtain ⟨h1, h2⟩ := List.nodup_cons.mp hi
    refine List.nodup_cons.mpr ⟨fun q => ?_, ih h2 fun j hj => hb j (.tail _ hj)⟩
    obtain ⟨j, hj, e⟩ := List.mem_map.mp q
    have bi := hb i (.head _)
    have bj := hb j (.tail _ hj)
    have e' : (l[j]?).getD 0 = (l[i]?).getD 0 := by rw [← List.getD_eq_getElem?_getD, ← List.getD_eq_getElem?_getD]; exact e
    rw [List.getElem?_eq_getElem bi, List.getElem?_eq_getElem bj] at e'
    exact nd_at h (List.getElem?_eq_getElem bj) (List.getElem?_eq_getElem bi) (fun q => h1 (q ▸ hj)) e'
theorem allLt_all {d : Nat} {l : List (Addr × Obj)} (h : AllLt d l) : ∀ p ∈ l, p.1 ≠ d := fun p hp => Nat.ne_of_lt (allLt_mem h p hp)
theorem mk_world {w : World} {g h : Heap} {L DD DL2 S2 SD2 O OD IN DL S SD W TH a7 a6 a5 a4 a3 a2 a1 a0 : Nat} {oD oW o5 o4 : Obj} {h2 hh : Int} {t4 t1 u1 u2 u3 k1 k2 k3 k4 tc : Tok}
    (N : News g L h [(DD, oD), (DL2, listOf #[] 0), (S2, instObj 83 SD2), (SD2, dictOf [⟨h2, .str (Str.ofString "data") t4, .ref DL2⟩] 1), (O, instObj 814 OD), (OD, dictOf [ent w "explicit" u1 (.bool false), ent w "_txn" u2 .none, ent w "_synchs" u3 (.ref S2)] 3), (IN, listOf #[] 0), (DL, listOf #[] 0), (S, instObj 83 SD), (SD, dictOf [⟨hh, .str (Str.ofString "data") t1, .ref DL⟩] 1), (W, oW), (TH, listOf #[.ref a0, .ref a1, .ref a2, .ref a3, .ref a4, .ref a5, .ref a6, .ref a7] 0), (a7, listOf #[.int 0 k1, .int 0 k2] 0), (a6, listOf #[] 0), (a5, o5), (a4, o4), (a3, listOf #[.int 0 k3] 0), (a2, listOf #[.int 0 k4] 0), (a1, listOf #[] 0), (a0, listOf #[] 0)])
    (hW : oW.IsDictOf (strKind PySem.Challenge.rw_ac0032_01.row.prog w) (worldKvs TH S IN O DD 0 tc)) (hD : oD.IsDictOf (intKind PySem.Challenge.rw_ac0032_01.row.prog w) []) (c5 : o5.cls = .type "dict") (c4 : o4.cls = .type "dict") (dm : ((DD : Addr) == sysModules) = false) (lo : 875 < a0)
    (ch : a0 < a1 ∧ a1 < a2 ∧ a2 < a3 ∧ a3 < a4 ∧ a4 < a5 ∧ a5 < a6 ∧ a6 < a7 ∧ a7 < TH ∧ TH < W ∧ W < SD ∧ SD < S ∧ S < DL ∧ DL < IN ∧ IN < OD ∧ OD < O ∧ O < SD2 ∧ SD2 < S2 ∧ S2 < DL2 ∧ DL2 < DD) :
    ∃ x : WS, x.W = W ∧ x.Ok w 0 ∧ (∀ p ∈ x.led w, @Eq Nat p.1 353 ∨ @Eq Nat p.1 505 ∨ @Eq Nat p.1 844 ∨ (@LT.lt Nat _ 875 p.1 ∧ g.get? p.1 = none)) ∧ ∀ P : Addr × Obj → Prop, (∀ a o, News g L h [(a, o)] → P (a, o)) → P (353, tabObj #[]) → P (505, tabObj #[]) → P (844, tabObj #[]) → ∀ p ∈ x.led w, P p := by
  obtain ⟨e0, e1, e2, e3, e4, e5, e6, e7, e8, e9, e10, e11, e12, e13, e14, e15, e16, e17, e18⟩ := ch
  have z1 : @LT.lt Nat _ 875 a1 := Nat.lt_trans lo e0
  have z2 : @LT.lt Nat _ 875 a2 := Nat.lt_trans z1 e1
  have z3 : @LT.lt Nat _ 875 a3 := Nat.lt_trans z2 e2
  have z4 : @LT.lt Nat _ 875 a4 := Nat.lt_trans z3 e3
  have z5 : @LT.lt Nat _ 875 a5 := Nat.lt_trans z4 e4
  have z6 : @LT.lt Nat _ 875 a6 := Nat.lt_trans z5 e5
  have z7 : @LT.lt Nat _ 875 a7 := Nat.lt_trans z6 e6
  have z8 : @LT.lt Nat _ 875 TH := Nat.lt_trans z7 e7
  have z9 : @LT.lt Nat _ 875 W := Nat.lt_trans z8 e8
  have z10 : @LT.lt Nat _ 875 SD := Nat.lt_trans z9 e9
  have z11 : @LT.lt Nat _ 875 S := Nat.lt_trans z10 e10
  have z12 : @LT.lt Nat _ 875 DL := Nat.lt_trans z11 e11
  have z13 : @LT.lt Nat _ 875 IN := Nat.lt_trans z12 e12
  have z14 : @LT.lt Nat _ 875 OD := Nat.lt_trans z13 e13
  have z15 : @LT.lt Nat _ 875 O := Nat.lt_trans z14 e14
  have z16 : @LT.lt Nat _ 875 SD2 := Nat.lt_trans z15 e15
  have z17 : @LT.lt Nat _ 875 S2 := Nat.lt_trans z16 e16
  have z18 : @LT.lt Nat _ 875 DL2 := Nat.lt_trans z17 e17
  have z19 : @LT.lt Nat _ 875 DD := Nat.lt_trans z18 e18
  have hP0 : ∀ p ∈ [(DD, oD), (DL2, listOf #[] 0), (S2, instObj 83 SD2), (SD2, dictOf [⟨h2, .str (Str.ofString "data") t4, .ref DL2⟩] 1), (O, instObj 814 OD), (OD, dictOf [ent w "explicit" u1 (.bool false), ent w "_txn" u2 .none, ent w "_synchs" u3 (.ref S2)] 3), (IN, listOf #[] 0), (DL, listOf #[] 0), (S, instObj 83 SD), (SD, dictOf [⟨hh, .str (Str.ofString "data") t1, .ref DL⟩] 1), (W, oW), (TH, listOf #[.ref a0, .ref a1, .ref a2, .ref a3, .ref a4, .ref a5, .ref a6, .ref a7] 0), (a7, listOf #[.int 0 k1, .int 0 k2] 0), (a6, listOf #[] 0), (a5, o5), (a4, o4), (a3, listOf #[.int 0 k3] 0), (a2, listOf #[.int 0 k4] 0), (a1, listOf #[] 0), (a0, listOf #[] 0)], News g L h [p] := fun p hp => (fa1 (N p hp))
  refine ⟨{ W := W, TH := TH, S := S, SD := SD, DL := DL, IN := IN, O := O, OD := OD, S2 := S2, SD2 := SD2, DL2 := DL2, DD := DD, oW := oW, oD := oD, c := 0, tc := tc, hh := hh, h2 := h2, t1 := t1, t4 := t4, n2 := 0, n3 := 0, n4 := 0, m2 := 0, ths := [a0, a1, a2, a3, a4, a5, a6, a7], tl := [(a0, listOf #[] 0), (a1, listOf #[] 0), (a2, listOf #[.int 0 k4] 0), (a3, listOf #[.int 0 k3] 0), (a4, o4), (a5, o5), (a6, listOf #[] 0), (a7, listOf #[.int 0 k1, .int 0 k2] 0)], vs := [], is := [], ns := [], u1 := u1, u2 := u2, u3 := u3, pc := #[], pa := #[], pw := #[], kvs := [], txn := .none, bag := [] }, rfl, ?_, ?_, ?_⟩
  · refine { nd := ?_, hW := hW, hD := hD, hi := .nil, lo := ⟨?_, ?_, ?_, ?_⟩, lo2 := ⟨?_, ?_, ?_, ?_, ?_⟩, hv := rfl, nn := .nil, nr := fun _ h => (nomatch h), tn := rfl, td := ?_, ta := rfl, to := ?_, hc := ⟨Int.le_refl 0, Int.le_refl 0⟩, kl := Nat.le_refl 0, tx := rfl, pc := True.intro, pa := True.intro, pw := .inl rfl, dm := dm }
    · show ([W, TH, IN, S, SD, DL, DD, O, OD, S2, SD2, DL2, 353, 505, 844, a0, a1, a2, a3, a4, a5, a6, a7] : List Nat).Nodup
      exact nodup_pick (l := [353, 505, 844, a0, a1, a2, a3, a4, a5, a6, a7, TH, W, SD, S, DL, IN, OD, O, SD2, S2, DL2, DD]) (up_nodup ⟨by decide, by decide, Nat.lt_trans (by decide) lo, e0, e1, e2, e3, e4, e5, e6, e7, e8, e9, e10, e11, e12, e13, e14, e15, e16, e17, e18, trivial⟩) (idx := [12, 11, 16, 14, 13, 15, 22, 18, 17, 20, 19, 21, 0, 1, 2, 3, 4, 5, 6, 7, 8, 9, 10]) (by decide) (show ∀ i ∈ [12, 11, 16, 14, 13, 15, 22, 18, 17, 20, 19, 21, 0, 1, 2, 3, 4, 5, 6, 7, 8, 9, 10], i < 23 by decide)
    all_goals (try (show @LT.lt Nat _ _ _; dsimp only; first | assumption | omega))
    · show ([a0, a1, a2, a3, a4, a5, a6, a7] : List Nat).Nodup
      exact up_nodup ⟨e0, e1, e2, e3, e4, e5, e6, trivial⟩
    · intro j p hj
      have hj8 : j < 8 := (List.getElem?_eq_some_iff.mp hj).1
      have : j = 0 ∨ j = 1 ∨ j = 2 ∨ j = 3 ∨ j = 4 ∨ j = 5 ∨ j = 6 ∨ j = 7 := lt8 hj8
      rcases this with rfl | rfl | rfl | rfl | rfl | rfl | rfl | rfl <;> (cases hj; first | exact c4 | exact c5 | exact ⟨_, _, rfl, by simp⟩)
  · have hg : ∀ p ∈ [(DD, oD), (DL2, listOf #[] 0), (S2, instObj 83 SD2), (SD2, dictOf [⟨h2, .str (Str.ofString "data") t4, .ref DL2⟩] 1), (O, instObj 814 OD), (OD, dictOf [ent w "explicit" u1 (.bool false), ent w "_txn" u2 .none, ent w "_synchs" u3 (.ref S2)] 3), (IN, listOf #[] 0), (DL, listOf #[] 0), (S, instObj 83 SD), (SD, dictOf [⟨hh, .str (Str.ofString "data") t1, .ref DL⟩] 1), (W, oW), (TH, listOf #[.ref a0, .ref a1, .ref a2, .ref a3, .ref a4, .ref a5, .ref a6, .ref a7] 0), (a7, listOf #[.int 0 k1, .int 0 k2] 0), (a6, listOf #[] 0), (a5, o5), (a4, o4), (a3, listOf #[.int 0 k3] 0), (a2, listOf #[.int 0 k4] 0), (a1, listOf #[] 0), (a0, listOf #[] 0)], @Eq Nat p.1 353 ∨ @Eq Nat p.1 505 ∨ @Eq Nat p.1 844 ∨ (@LT.lt Nat _ 875 p.1 ∧ g.get? p.1 = none) := (fa20 (.inr (.inr (.inr ⟨by show @LT.lt Nat _ 875 DD; assumption, (N (DD, _) (.head _)).2.2⟩))) (.inr (.inr (.inr ⟨by show @LT.lt Nat _ 875 DL2; assumption, (N (DL2, _) (in1)).2.2⟩))) (.inr (.inr (.inr ⟨by show @LT.lt Nat _ 875 S2; assumption, (N (S2, _) (in2)).2.2⟩))) (.inr (.inr (.inr ⟨by show @LT.lt Nat _ 875 SD2; assumption, (N (SD2, _) (in3)).2.2⟩))) (.inr (.inr (.inr ⟨by show @LT.lt Nat _ 875 O; assumption, (N (O, _) (in4)).2.2⟩))) (.inr (.inr (.inr ⟨by show @LT.lt Nat _ 875 OD; assumption, (N (OD, _) (in5)).2.2⟩))) (.inr (.inr (.inr ⟨by show @LT.lt Nat _ 875 IN; assumption, (N (IN, _) (in6)).2.2⟩))) (.inr (.inr (.inr ⟨by show @LT.lt Nat _ 875 DL; assumption, (N (DL, _) (in7)).2.2⟩))) (.inr (.inr (.inr ⟨by show @LT.lt Nat _ 875 S; assumption, (N (S, _) (in8)).2.2⟩))) (.inr (.inr (.inr ⟨by show @LT.lt Nat _ 875 SD; assumption, (N (SD, _) (in9)).2.2⟩))) (.inr (.inr (.inr ⟨by show @LT.lt Nat _ 875 W; assumption, (N (W, _) (in10)).2.2⟩))) (.inr (.inr (.inr ⟨by show @LT.lt Nat _ 875 TH; assumption, (N (TH, _) (in11)).2.2⟩))) (.inr (.inr (.inr ⟨by show @LT.lt Nat _ 875 a7; assumption, (N (a7, _) (in12)).2.2⟩))) (.inr (.inr (.inr ⟨by show @LT.lt Nat _ 875 a6; assumption, (N (a6, _) (in13)).2.2⟩))) (.inr (.inr (.inr ⟨by show @LT.lt Nat _ 875 a5; assumption, (N (a5, _) (in14)).2.2⟩))) (.inr (.inr (.inr ⟨by show @LT.lt Nat _ 875 a4; assumption, (N (a4, _) (in15)).2.2⟩))) (.inr (.inr (.inr ⟨by show @LT.lt Nat _ 875 a3; assumption, (N (a3, _) (in16)).2.2⟩))) (.inr (.inr (.inr ⟨by show @LT.lt Nat _ 875 a2; assumption, (N (a2, _) (in17)).2.2⟩))) (.inr (.inr (.inr ⟨by show @LT.lt Nat _ 875 a1; assumption, (N (a1, _) (in18)).2.2⟩))) (.inr (.inr (.inr ⟨by show @LT.lt Nat _ 875 a0; assumption, (N (a0, _) (in19)).2.2⟩))))
    have hP : ∀ p ∈ [(DD, oD), (DL2, listOf #[] 0), (S2, instObj 83 SD2), (SD2, dictOf [⟨h2, .str (Str.ofString "data") t4, .ref DL2⟩] 1), (O, instObj 814 OD), (OD, dictOf [ent w "explicit" u1 (.bool false), ent w "_txn" u2 .none, ent w "_synchs" u3 (.ref S2)] 3), (IN, listOf #[] 0), (DL, listOf #[] 0), (S, instObj 83 SD), (SD, dictOf [⟨hh, .str (Str.ofString "data") t1, .ref DL⟩] 1), (W, oW), (TH, listOf #[.ref a0, .ref a1, .ref a2, .ref a3, .ref a4, .ref a5, .ref a6, .ref a7] 0), (a7, listOf #[.int 0 k1, .int 0 k2] 0), (a6, listOf #[] 0), (a5, o5), (a4, o4), (a3, listOf #[.int 0 k3] 0), (a2, listOf #[.int 0 k4] 0), (a1, listOf #[] 0), (a0, listOf #[] 0)], (fun p : Addr × Obj => @Eq Nat p.1 353 ∨ @Eq Nat p.1 505 ∨ @Eq Nat p.1 844 ∨ (@LT.lt Nat _ 875 p.1 ∧ g.get? p.1 = none)) p := hg
    have h1 : (fun p : Addr × Obj => @Eq Nat p.1 353 ∨ @Eq Nat p.1 505 ∨ @Eq Nat p.1 844 ∨ (@LT.lt Nat _ 875 p.1 ∧ g.get? p.1 = none)) (353, tabObj #[]) := .inl rfl
    have h2' : (fun p : Addr × Obj => @Eq Nat p.1 353 ∨ @Eq Nat p.1 505 ∨ @Eq Nat p.1 844 ∨ (@LT.lt Nat _ 875 p.1 ∧ g.get? p.1 = none)) (505, tabObj #[]) := .inr (.inl rfl)
    have h3 : (fun p : Addr × Obj => @Eq Nat p.1 353 ∨ @Eq Nat p.1 505 ∨ @Eq Nat p.1 844 ∨ (@LT.lt Nat _ 875 p.1 ∧ g.get? p.1 = none)) (844, tabObj #[]) := .inr (.inr (.inl rfl))
    exact List.forall_mem_cons.mpr ⟨hP _ (in10), List.forall_mem_cons.mpr ⟨hP _ (in11), List.forall_mem_cons.mpr ⟨hP _ (in6), List.forall_mem_cons.mpr ⟨hP _ (in8), List.forall_mem_cons.mpr ⟨hP _ (in9), List.forall_mem_cons.mpr ⟨hP _ (in7), List.forall_mem_cons.mpr ⟨hP _ (.head _), List.forall_mem_cons.mpr ⟨hP _ (in4), List.forall_mem_cons.mpr ⟨hP _ (in5), List.forall_mem_cons.mpr ⟨hP _ (in2), List.forall_mem_cons.mpr ⟨hP _ (in3), List.forall_mem_cons.mpr ⟨hP _ (in1), List.forall_mem_cons.mpr ⟨h1, List.forall_mem_cons.mpr ⟨h2', List.forall_mem_cons.mpr ⟨h3, WS.rest_cases (fun _ h => nomatch h) ((fa8 (hP _ (in19)) (hP _ (in18)) (hP _ (in17)) (hP _ (in16)) (hP _ (in15)) (hP _ (in14)) (hP _ (in13)) (hP _ (in12)))) (fun _ h => nomatch h)⟩⟩⟩⟩⟩⟩⟩⟩⟩⟩⟩⟩⟩⟩⟩
  · intro P hQ h1 h2' h3
    have hP : ∀ p ∈ [(DD, oD), (DL2, listOf #[] 0), (S2, instObj 83 SD2), (SD2, dictOf [⟨h2, .str (Str.ofString "data") t4, .ref DL2⟩] 1), (O, instObj 814 OD), (OD, dictOf [ent w "explicit" u1 (.bool false), ent w "_txn" u2 .none, ent w "_synchs" u3 (.ref S2)] 3), (IN, listOf #[] 0), (DL, listOf #[] 0), (S, instObj 83 SD), (SD, dictOf [⟨hh, .str (Str.ofString "data") t1, .ref DL⟩] 1), (W, oW), (TH, listOf #[.ref a0, .ref a1, .ref a2, .ref a3, .ref a4, .ref a5, .ref a6, .ref a7] 0), (a7, listOf #[.int 0 k1, .int 0 k2] 0), (a6, listOf #[] 0), (a5, o5), (a4, o4), (a3, listOf #[.int 0 k3] 0), (a2, listOf #[.int 0 k4] 0), (a1, listOf #[] 0), (a0, listOf #[] 0)], P p := fun p hp => hQ p.1 p.2 (hP0 p hp)
    exact List.forall_mem_cons.mpr ⟨hP _ (in10), List.forall_mem_cons.mpr ⟨hP _ (in11), List.forall_mem_cons.mpr ⟨hP _ (in6), List.forall_mem_cons.mpr ⟨hP _ (in8), List.forall_mem_cons.mpr ⟨hP _ (in9), List.forall_mem_cons.mpr ⟨hP _ (in7), List.forall_mem_cons.mpr ⟨hP _ (.head _), List.forall_mem_cons.mpr ⟨hP _ (in4), List.forall_mem_cons.mpr ⟨hP _ (in5), List.forall_mem_cons.mpr ⟨hP _ (in2), List.forall_mem_cons.mpr ⟨hP _ (in3), List.forall_mem_cons.mpr ⟨hP _ (in1), List.forall_mem_cons.mpr ⟨h1, List.forall_mem_cons.mpr ⟨h2', List.forall_mem_cons.mpr ⟨h3, WS.rest_cases (fun _ h => nomatch h) ((fa8 (hP _ (in19)) (hP _ (in18)) (hP _ (in17)) (hP _ (in16)) (hP _ (in15)) (hP _ (in14)) (hP _ (in13)) (hP _ (in12)))) (fun _ h => nomatch h)⟩⟩⟩⟩⟩⟩⟩⟩⟩⟩⟩⟩⟩⟩⟩
theorem newList_L {M : Model} {A : Around} {E : Value → Shared → Prop} {s : Shared} {h₀ : Heap} {L : Addr} {m : Str → Option Value} {vs : List Value} {Q : Value → Shared → Prop} (F : Fr h₀ L s.heap m) (N : News h₀ L s.heap [])
    (h : ∀ d h', Fr h₀ L h' m → News h₀ L h' [(d, listOf vs.toArray 0)] → @LT.lt Nat _ L d → Q (.ref d) { s with heap := h' }) (hsz : vs.length ≤ sizeLine := by size_fits) : wpAny M A (newList vs) Q E s :=
  newList_N F N (fun h' F' N' => h _ h' F' N' F.ns.lt) hsz
section
local macro_rules | `(tactic| k_lt $h:ident) => `(tactic| replace $h := allLt_of $h)
local macro_rules | `(tactic| k_ne) => `(tactic| (refine neN ?_; (try dsimp only); first | exact allLt_ne (by with_reducible assumption) (by k_mem) | exact Ne.symm (allLt_ne (by with_reducible assumption) (by k_mem)) | exact Nat.ne_of_lt (by with_reducible assumption) | exact Nat.ne_of_gt (by with_reducible assumption) | exact Nat.ne_of_lt (lt_via (by with_reducible assumption) (allLt_lt (by with_reducible assumption) (by k_mem))) | exact Nat.ne_of_gt (lt_via (by with_reducible assumption) (allLt_lt (by with_reducible assumption) (by k_mem))) | omega))
local macro_rules | `(tactic| walk_at "newList") => `(tactic| ((fail_if_success (have z : Thru := by with_reducible assumption)); refine hold ?_))
local macro_rules | `(tactic| k_all) => `(tactic| first | exact List.forall_mem_nil _ | with_reducible assumption | (refine List.forall_mem_cons.mpr ⟨by k_ne, by k_all⟩))
local macro_rules | `(tactic| k_all) => `(tactic| exact allLt_all (by with_reducible assumption))
theorem world_c {w : World} :
    Claim w 200 1000 825 [] [] [] (fun _ => True) (fun h v h' => ∃ x : WS, v = .ref x.W ∧ x.Ok w 0 ∧ (∀ p ∈ x.led w, @Eq Nat p.1 353 ∨ @Eq Nat p.1 505 ∨ @Eq Nat p.1 844 ∨ (@LT.lt Nat _ 875 p.1 ∧ h.get? p.1 = none)) ∧
      ∀ P : Addr × Obj → Prop, (∀ a o, h'.get? a = some o → h.get? a = none → P (a, o)) → P (353, tabObj #[]) → P (505, tabObj #[]) → P (844, tabObj #[]) → ∀ p ∈ x.led w, P p) := by
  unfold Claim
  k_fill
  intro dp un gd cn cs a ccd cl outer A₀ base h₀ L m mg mb mean s Q E B F X N T hk hd hu _ hret
  refine wpAny_call ?_
  k_dflt (refine' enter_plain (binds := []) B F X N T rfl rfl hk (by k_is) (by k_is) ?hr (BindsTo.of_eq rfl) (locs rfl) ?_ rfl rfl rfl (by decide))
  case hr => exact Nat.lt_of_le_of_lt (Nat.le_add_right _ _) hd
  intro g' L' h' hG hup l1 FG' F' N' B' X' T'
  refine wpAny_hide ?_
  intro QF EF hQF hEF
  clear l1
  have h875 : @LT.lt Nat _ 875 L' := Nat.lt_of_lt_of_le (Heap.lt_size (X' 875 _ (by k_is))) F'.above
  try dsimp only
  k_steps
  rename News g' L' _ _ => N₁
  rename Fr g' L' _ _ => F₁
  refine Hold.out ?_
  with_reducible refine newList_L (vs := []) F₁ N₁ ?_ (by decide)
  intro l0 h₂ F₂ N₂ hl0
  have thru : Thru := trivial
  clear F₁ N₁
  try dsimp only
  k_steps
  rename News g' L' _ _ => N₁
  rename Fr g' L' _ _ => F₁
  obtain ⟨x, e, ok, hb, hP⟩ := mk_world N₁ (by assumption) (by assumption) (isDictOf_cls (show Obj.IsDictOf (PySem.strKind PySem.Challenge.rw_ac0032_01.row.prog w) _ [] by assumption)) (isDictOf_cls (show Obj.IsDictOf (PySem.strKind PySem.Challenge.rw_ac0032_01.row.prog w) _ [] by assumption)) (by assumption) (Nat.lt_trans h875 hl0) ⟨by first | exact allLt_lt (by with_reducible assumption) (by k_mem) | assumption | omega, by first | exact allLt_lt (by with_reducible assumption) (by k_mem) | assumption | omega, by first | exact allLt_lt (by with_reducible assumption) (by k_mem) | assumption | omega, by first | exact allLt_lt (by with_reducible assumption) (by k_mem) | assumption | omega, by first | exact allLt_lt (by with_reducible assumption) (by k_mem) | assumption | omega, by first | exact allLt_lt (by with_reducible assumption) (by k_mem) | assumption | omega, by first | exact allLt_lt (by with_reducible assumption) (by k_mem) | assumption | omega, by first | exact allLt_lt (by with_reducible assumption) (by k_mem) | assumption | omega, by first | exact allLt_lt (by with_reducible assumption) (by k_mem) | assumption | omega, by first | exact allLt_lt (by with_reducible assumption) (by k_mem) | assumption | omega, by first | exact allLt_lt (by with_reducible assumption) (by k_mem) | assumption | omega, by first | exact allLt_lt (by with_reducible assumption) (by k_mem) | assumption | omega, by first | exact allLt_lt (by with_reducible assumption) (by k_mem) | assumption | omega, by first | exact allLt_lt (by with_reducible assumption) (by k_mem) | assumption | omega, by first | exact allLt_lt (by with_reducible assumption) (by k_mem) | assumption | omega, by first | exact allLt_lt (by with_reducible assumption) (by k_mem) | assumption | omega, by first | exact allLt_lt (by with_reducible assumption) (by k_mem) | assumption | omega, by first | exact allLt_lt (by with_reducible assumption) (by k_mem) | assumption | omega, by first | exact allLt_lt (by with_reducible assumption) (by k_mem) | assumption | omega⟩
  have back : ∀ b, g'.get? b = none → s.heap.get? b = none := fun b hn => none_of_up (fun b o e => hG b o e notin_nil) hn
  refine hQF _ _ ?_
  refine leaveK_ (by assumption) (by assumption) fun _ _ => ?_
  refine hret _ _ _ (fun b o e _ => F₁.keep _ _ (hG b o e notin_nil)) ⟨x, by rw [e], ok, fun p hp => (hb p hp).imp id (Or.imp id (Or.imp id fun z => ⟨z.1, back _ z.2⟩)), fun P hQ h1 h2 h3 => hP P (fun a o n => hQ a o (n _ (.head _)).1 (back _ (n _ (.head _)).2.2)) h1 h2 h3⟩
end
end Mine
end
section
open PySem PySem.W PyProof.Rows PySem.Calls PySem.Spec PyProof.V
namespace Mine
theorem lc_R {prog : Program} {w : World} {A : Around} {E : Value → Shared → Prop} {s : Shared} {env : Env} {l : Addr} {vs : List Value} {x : Str} {elt : Expr} {scope : Scope} {cl : List (Str × Addr)}
    {R : Value → Value → Prop} {Q : Shared → Addr → Heap → Nat → Prop} (hh : A.handled = none) (hl : s.heap.IsList l vs.toArray) (hsz : vs.length ≤ sizeLine)
    (he : ∀ C v s₃ m₃ E', v ∈ vs → s₃.heap.Ns C m₃ → m₃ x = some v → (∀ b o, s.heap.get? b = some o → s₃.heap.get? b = some o) →
      wpAny (model prog w) A (eval elt (compEnvC scope cl C env)) (fun y s₄ => R v y ∧ Keeps s₃ s₄) E' s₃)
    (hQ : ∀ D h' tk ys, s.heap.get? D = none → (∀ b o, s.heap.get? b = some o → h'.get? b = some o) → h'.PlainList D ys → Paired R vs ys.toList → Q { s with heap := s.heap.push { cls := .type "list_iterator", data := .fields #[.ref l, .int 0 0] } } D h' tk) :
    wpAny (model prog w) A (pyIter (.ref l)) (fun it s₂ => ∃ I fp wr n P St, it = .ref I ∧ Walks prog w A I fp wr n P St ∧ n ≤ sizeLine ∧ St 0 s₂.heap ∧ (∀ b ∈ fp, b < s₂.heap.objs.size) ∧
      QuietOnC prog w A env scope cl x [] elt wr P (fun _ => true) R s₂ ∧
      (∀ D h' tk ys (vs : List Value), s₂.heap.get? D = none → h'.IsList D ys → h'.PlainList D ys → vs.length = n → (∀ j v, vs[j]? = some v → P j v) → Paired R (vs.filter fun _ => true) ys.toList →
        (∀ b o, b ∉ wr → s₂.heap.get? b = some o → h'.get? b = some o) → Q s₂ D h' tk)) E s := by
  refine wpAny_pyIter_list hl ?_
  have hlt : l < s.heap.objs.size := by obtain ⟨_, e, _⟩ := hl; exact Heap.lt_size e
  have up : ∀ b o, s.heap.get? b = some o → (s.heap.push { cls := .type "list_iterator", data := .fields #[.ref l, .int 0 0] }).get? b = some o := fun b o e => Heap.get?_push_of_some _ e
  refine ⟨s.heap.objs.size, _, _, vs.toArray.size, _, _, rfl, Walks.list hh s.heap.objs.size l (Nat.ne_of_lt hlt) vs.toArray, by simpa using hsz, ⟨⟨_, Heap.get?_push_size _ rfl, rfl, rfl⟩, hl.push _⟩, ?_, ⟨?_, ?_⟩, ?_⟩
  · intro b hb
    show b < (s.heap.push _).objs.size
    rw [Heap.size_push]
    simp only [List.mem_cons, List.not_mem_nil, or_false] at hb
    rcases hb with e | e
    · rw [e]; exact Nat.lt_succ_self _
    · rw [e]; exact Nat.lt_succ_of_lt hlt
  · intro C i v s₃ m₃ E' _ hP hn hm hk _
    exact wpAny_tests_nil ⟨rfl, _, _, rfl, fun _ _ e => e⟩
  · intro C i v s₃ m₃ E' _ hP hp hn hm hk _
    refine he C v s₃ m₃ E' ?_ hn hm fun b o e => hk b o ?_ (up b o e)
    · exact List.mem_of_getElem? (by simpa using hP)
    · simp only [List.mem_singleton]; exact Nat.ne_of_lt (Heap.lt_size e)
  · intro D h' tk ys ws hD _ hpl hlen hP hF hk
    have hws : ws = vs := by
      apply List.ext_getElem?
      intro j
      cases hj : ws[j]? with
      | some v => have := hP j v hj; simpa using this.symm
      | none =>
        have h1 := List.getElem?_eq_none_iff.mp hj
        exact (List.getElem?_eq_none_iff.mpr (by rw [hlen] at h1; simpa using h1)).symm
    subst hws
    rw [filter_true] at hF
    refine hQ D h' tk ys ?_ (fun b o e => hk b o (by simp only [List.mem_singleton]; exact Nat.ne_of_lt (Heap.lt_size e)) (up b o e)) hpl hF
    cases q : s.heap.get? D with
    | none => rfl
    | some o => have := up _ _ q; rw [hD] at this; cases this
section
variable {w : World} {t : Nat} {x : WS} {h h' : Heap}
theorem put_step (ok : x.Ok w t) (k : Int) (tk : Tok) (k0 : 0 ≤ k) (k8 : k < 8) :
    Claim w 80 400 837 [.ref x.W, .int k tk] (x.led w) ((x.led w).map (·.1)) (fun _ => True) (fun h v h' => Goes (NextW w x t) (x.led w) h h') := by
  obtain ⟨a, hxa, hxt, ham⟩ := ok.thing_k k0 k8
  refine (put_s x.W x.TH x.S x.SD x.DL x.IN x.O x.DD a x.oW x.c x.tc x.hh x.t1 x.n2 x.n3 x.n4 x.ths x.vs x.is x.ns k tk ok.vslen ok.vlen ok.hW ok.hi k0 k8 hxa ham ok.vals (ok.ne (i := 0) (j := 4) rfl rfl (by decide)) (ok.ne (i := 5) (j := 1) rfl rfl (by decide)) (ok.ne (i := 5) (j := 2) rfl rfl (by decide))).wk ((fa6 (List.mem_of_getElem? (i := 0) rfl) (List.mem_of_getElem? (i := 1) rfl) (List.mem_of_getElem? (i := 2) rfl) (List.mem_of_getElem? (i := 3) rfl) (List.mem_of_getElem? (i := 4) rfl) (List.mem_of_getElem? (i := 5) rfl))) ((fa3 (memW (j := 0) rfl) (memW (j := 4) rfl) (memW (j := 5) rfl))) (fun h H _ => ok.stand H) ?_
  rintro h v h' H _ kept ⟨rfl, P⟩
  exact (WS.set_goes ok H (fun p hp hn => kept _ _ (H p hp) hn) P).imp fun _ ⟨y, e, l, o, _⟩ => ⟨y, e, l, o⟩
theorem has_step (ok : x.Ok w t) {a : Nat} {k : Int} (k0 : 0 ≤ k) (hx : (things x.ths)[k.toNat]? = some (.ref a)) (ham : a ∈ x.ths) :
    Claim w 20 100 47 [.ref x.S, .ref a] (x.led w) [] (fun _ => True) (fun _ v _ => v = .bool (x.ns.any (· == k))) := by
  refine (contains_c x.S x.SD x.DL a x.hh x.t1 x.n2 x.vs ok.vslen).wk ((fa3 (List.mem_of_getElem? (i := 3) rfl) (List.mem_of_getElem? (i := 4) rfl) (List.mem_of_getElem? (i := 5) rfl))) (fun _ h => h) (fun h H _ => StandS_of (ValsN.cons ok.vals ham) (ok.stand H)) ?_
  rintro h v h' H _ kept rfl
  rw [ok.has k0 hx]
theorem len_step (ok : x.Ok w t) : Claim w 20 100 42 [.ref x.S] (x.led w) [] (fun _ => True) (fun _ v _ => ∃ tk, v = .int x.ns.length tk) := by
  refine (len_c x.S x.SD x.DL x.hh x.t1 x.n2 x.vs ok.vslen).wk ((fa3 (List.mem_of_getElem? (i := 3) rfl) (List.mem_of_getElem? (i := 4) rfl) (List.mem_of_getElem? (i := 5) rfl))) (fun _ h => h) (fun _ _ _ => trivial) ?_
  rintro h v h' H _ kept ⟨tk, rfl⟩
  exact ⟨tk, by rw [ok.hv, List.length_map]⟩
end
end Mine
end
section
open PySem PySem.W PyProof.Rows PySem.Calls PySem.Spec PyProof.V
namespace Mine
theorem Fr.back {g g' h : Heap} {L : Addr} {m : Str → Option Value} (T : KtsTurn (fsOf []) g g') (F : Fr g' L h m) : Fr g L h m :=
  ⟨F.ns, fun b o e => F.keep b o (T.other b o e List.not_mem_nil), by rw [← T.size]; exact F.above⟩
theorem goes_law {w : World} {D U : Nat} {f : Addr} {args : List Value} {led news kp : List (Addr × Obj)} {I : List (Addr × Obj) → Prop} {R : Value → Prop}
    (C : ClaimM w D U f args led (led.map (·.1)) (fun _ => True) (fun h v h' => R v ∧ Goes I led h h') False)
    {dp un : Nat} {gd : Option (List Code)} {cn : Str} {cs : Scope} {a : Addr} {ccd : Value} {cl : List (Str × Addr)} {A₀ : Around} {g : Heap} {L : Addr} {m mg mb : Str → Option Value}
    {mean : ExcName → Option Value} {s : Shared} {Q E : Value → Shared → Prop} (B : Below A₀ g [] g) (F : Fr g L s.heap m) (X : (Mine.K39 w.params).In g) (N : News g L s.heap news) (T : Top topProg LZ mean mg mb g)
    (hk : cs.kind = .function) (sub : ∀ p ∈ led, p ∈ news) (hkp : ∀ p ∈ kp, p ∈ news) (ap : ∀ p ∈ kp, p.1 ∉ led.map (·.1)) (hd : dp + D < recursionLimit) (hu : un + U < cLine)
    (k : ∀ v h' tk led', R v → I led' → Fr g L h' m → News g L h' (kp ++ led') → (∀ p ∈ kp, p.1 ∉ led'.map (·.1)) → Q v { s with heap := h', toks := tk }) :
    wpAny (model PySem.Challenge.rw_ac0032_01.row.prog w) (ktrTop dp un gd cn cs L a ccd cl []) (call (.ref f) args) Q E s := by
  refine ClaimM.use C B F X N T hk sub hd hu trivial (fun v h' tk h₀' Tt F' _ hkk hp => ?_) (fun _ _ _ ff _ => ff.elim)
  obtain ⟨hr, led', hI, hH, hf⟩ := hp
  have hap : ∀ p ∈ kp, p.1 ∉ led'.map (·.1) := fun p hp hm => by
    obtain ⟨q, hq, e⟩ := List.mem_map.mp hm
    rcases hf q hq with z | z
    · rw [e] at z; exact ap p hp z
    · rw [e, (N p (hkp p hp)).1] at z; cases z
  have kept : News g L h' kp := fun p hp => ⟨hkk _ _ (N p (hkp p hp)).1 (ap p hp) (notin_cons (N p (hkp p hp)).2.1 notin_nil), (N p (hkp p hp)).2⟩
  exact k v h' tk led' hr hI (Fr.back Tt F') (News.append kept (News.goes F (News.sub N sub) hH hf)) hap
theorem keep_law {w : World} {D U : Nat} {f : Addr} {args : List Value} {led news : List (Addr × Obj)} {R : Value → Prop}
    (C : Claim w D U f args led [] (fun _ => True) (fun _ v _ => R v))
    {dp un : Nat} {gd : Option (List Code)} {cn : Str} {cs : Scope} {a : Addr} {ccd : Value} {cl : List (Str × Addr)} {A₀ : Around} {g : Heap} {L : Addr} {m mg mb : Str → Option Value}
    {mean : ExcName → Option Value} {s : Shared} {Q E : Value → Shared → Prop} (B : Below A₀ g [] g) (F : Fr g L s.heap m) (X : (Mine.K39 w.params).In g) (N : News g L s.heap news) (T : Top topProg LZ mean mg mb g)
    (hk : cs.kind = .function) (sub : ∀ p ∈ led, p ∈ news) (hd : dp + D < recursionLimit) (hu : un + U < cLine)
    (k : ∀ v h' tk, R v → Fr g L h' m → News g L h' news → Q v { s with heap := h', toks := tk }) :
    wpAny (model PySem.Challenge.rw_ac0032_01.row.prog w) (ktrTop dp un gd cn cs L a ccd cl []) (call (.ref f) args) Q E s := by
  refine Claim.use C B F X N T hk sub hd hu trivial (fun v h' tk hkk hp => ?_)
  have hk3 : ∀ b o, s.heap.get? b = some o → h'.get? b = some o := fun b o e => hkk b o e notin_nil
  exact k v h' tk hp (F.keptAll hk3) (News.keep N hk3)
noncomputable def lawParts (o : Option Obj) : Option (Scope × List Stmt × List Stmt × Stmt × List Stmt) := match o with
  | some ⟨_, _, .func fd, _⟩ => (match fd.body with
    | .stmts (_ :: s1 :: s2 :: .For t it [i0, .For t2 it2 ib e2 p2] e1 p1 :: r) => some (fd.scope, s1 :: s2 :: .For t it [i0, .For t2 it2 ib e2 p2] e1 p1 :: r, [i0, .For t2 it2 ib e2 p2], .For t2 it2 ib e2 p2, ib)
    | _ => none)
  | _ => none
theorem parts_of {K : Frag} {a : Addr} {o : Obj} {r : Option (Scope × List Stmt × List Stmt × Stmt × List Stmt)} (hk : K.lookup a = some o) (h : lawParts (K.lookup a) = r) : lawParts (some o) = r := hk ▸ h
noncomputable abbrev front (w : World) (y : WS) : List (Addr × Obj) := [(y.W, y.oW), (y.TH, listOf (things y.ths).toArray y.n3), (y.IN, listOf y.is.toArray y.n4), (y.S, instObj 83 y.SD), (y.SD, dictOf [⟨y.hh, .str (Str.ofString "data") y.t1, .ref y.DL⟩] 1)]
theorem front_sub {w : World} {y : WS} : ∀ p ∈ front w y, p ∈ y.led w := (fa5 (List.mem_of_getElem? (i := 0) rfl) (List.mem_of_getElem? (i := 1) rfl) (List.mem_of_getElem? (i := 2) rfl) (List.mem_of_getElem? (i := 3) rfl) (List.mem_of_getElem? (i := 4) rfl))
theorem News.front {g h : Heap} {L : Addr} {w : World} {y : WS} {kp : List (Addr × Obj)} (N : News g L h (kp ++ y.led w)) : News g L h ((y.W, y.oW) :: (y.TH, listOf (things y.ths).toArray y.n3) :: (y.IN, listOf y.is.toArray y.n4) :: (y.S, instObj 83 y.SD) :: (y.SD, dictOf [⟨y.hh, .str (Str.ofString "data") y.t1, .ref y.DL⟩] 1) :: (kp ++ y.led w)) :=
  News.append (l₁ := Mine.front w y) (News.sub N fun p hp => List.mem_append_right _ (front_sub p hp)) N
theorem put_stepM {w : World} {t : Nat} {x : WS} (ok : x.Ok w t) (k : Int) (tk : Tok) (k0 : 0 ≤ k) (k8 : k < 8) :
    ClaimM w 80 400 837 [.ref x.W, .int k tk] (x.led w) ((x.led w).map (·.1)) (fun _ => True) (fun h v h' => (fun _ : Value => True) v ∧ Goes (NextW w x t) (x.led w) h h') False :=
  ((put_step ok k tk k0 k8).wk (fun _ h => h) (fun _ h => h) (fun _ _ h => h) (fun _ _ _ _ _ _ P => ⟨trivial, P⟩)).toM fun b hb => by
    obtain ⟨p, hp, rfl⟩ := List.mem_map.mp hb
    exact ⟨p.2, hp⟩
end Mine
end
section
open PySem PySem.W PyProof.Rows PySem.Calls PySem.Spec PyProof.V
namespace Mine
noncomputable def InnerTurn (w : World) (scope : Scope) (ib : List Stmt) : Prop :=
  ∀ (dp un : Nat) (gd : Option (List Code)) (fa : Addr) (cd : Value) (A₀ : Around) (g : Heap) (L : Addr) (m mg mb : Str → Option Value) (mean : ExcName → Option Value) (s : Shared) (Q : Flow → Shared → Prop) (E : Value → Shared → Prop)
    (t : Nat) (y : WS) (kp : List (Addr × Obj)) (k : Int) (tk : Tok),
    Below A₀ g [] g → Fr g L s.heap m → (Mine.K39 w.params).In g → Top topProg LZ mean mg mb g → y.Ok w t → News g L s.heap (kp ++ y.led w) → (∀ p ∈ kp, p.1 ∉ (y.led w).map (·.1)) →
    m (Str.ofString "world") = some (.ref y.W) → m (Str.ofString "k") = some (.int k tk) → 0 ≤ k → k < 8 → dp + 650 < recursionLimit → un + 3500 < cLine →
    (∀ h' tk' m' y', y.Like y' → y'.Ok w t → (∀ n, n ≠ Str.ofString "told" → m' n = m n) → Fr g L h' m' → News g L h' (kp ++ y'.led w) → (∀ p ∈ kp, p.1 ∉ (y'.led w).map (·.1)) → Q .next { s with heap := h', toks := tk' }) →
    wpAny (model PySem.Challenge.rw_ac0032_01.row.prog w) (ktrTop dp un gd (Str.ofString "law") scope L fa cd [] []) (execs ib (envOf (Str.ofString "law") scope L fa cd)) Q E s
section
local macro_rules | `(tactic| walk_at "ite") => `(tactic| first | ((with_reducible refine ieq_neg ?h ?_); (case h => omega)) | ((with_reducible refine ieq_pos ?h ?_); (case h => omega)))
local macro_rules | `(tactic| k_all) => `(tactic| first | exact List.forall_mem_nil _ | with_reducible assumption | (refine List.forall_mem_cons.mpr ⟨by k_ne, by k_all⟩))
local macro_rules | `(tactic| walk_at "subscriptTail") => `(tactic| (k_here; (try dsimp only); first
  | ((with_reducible show wpAny _ _ (subscriptTail _ _ (Value.ref _) (Value.str _ _)) _ _ _); k_dflt (refine kda_item (knd := PySem.strKind _ _) (by k_asm) (by k_mem) (by assumption) (strKind_is _ _ _ _) rfl ?_))
  | ((with_reducible show wpAny _ _ (subscriptTail _ _ (Value.ref _) (Value.int _ _)) _ _ _); k_dflt (refine item_L (by k_asm) (by k_mem) (by assumption) (by assumption) (by assumption) ?_))))
local macro_rules | `(tactic| walk_at "eval Name") => `(tactic| (k_here; k_dflt (refine nameX_L (by k_asm) (by first | assumption | exact (if_neg (by decide)).trans (by assumption) | exact (if_neg (by decide)).trans ((if_neg (by decide)).trans (by assumption))) ?_)))
local macro_rules | `(tactic| walk_at "call ref") => `(tactic| (refine hold ?_))
theorem inner_turn {w : World} {scope : Scope} {tl ob ib : List Stmt} {inn : Stmt} (hpart : lawParts ((Mine.K39 w.params).lookup 875) = some (scope, tl, ob, inn, ib)) : InnerTurn w scope ib := by
  intro dp un gd fa cd A₀ g L m mg mb mean s Q E t y kp k tk B F X T ok N ap hw hk k0 k8 hd hu hQ
  revert X
  k_fill
  intro X
  have hp := parts_of (by k_is) hpart
  dsimp only [lawParts] at hp
  cases hp
  clear hpart
  have hW := ok.hW
  have hi := ok.hi
  have hln := ok.vlen
  obtain ⟨a, hxa, hxt, ham⟩ := ok.thing_k k0 k8
  have N₁ := News.front N
  clear N
  k_steps
  refine Hold.out (keep_law (has_step ok k0 hxa ham) B F X N₁ T rfl (fun p hp => .tail _ (.tail _ (.tail _ (.tail _ (.tail _ (List.mem_append_right _ hp)))))) ?_ ?_ ?_)
  · omega
  · omega
  rintro v h₂ tk₂ rfl F₂ N₂
  clear F N₁
  dsimp only
  k_steps
  · exfalso
    rename (_ != _) = true => hb
    simp at hb
  · rename News g L _ _ => N₃
    rename Fr g L _ _ => F₃
    refine Hold.out (goes_law (kp := kp) (borne_step ok k _ k0 k8) B F₃ X N₃ T rfl (fun p hp => .tail _ (.tail _ (.tail _ (.tail _ (.tail _ (List.mem_append_right _ hp)))))) (fun p hp => .tail _ (.tail _ (.tail _ (.tail _ (.tail _ (List.mem_append_left _ hp)))))) ap ?_ ?_ ?_)
    · omega
    · omega
    rintro v h₄ tk₄ led' rfl ⟨y', rfl, lk, oky⟩ F₄ N₄ ap₄
    clear F₃ N₃
    dsimp only
    k_steps
    exact hQ _ _ _ y' lk oky (fun n hn => if_neg hn) F₄ N₄ ap₄
end
end Mine
end
section
open PySem PySem.W PyProof.Rows PySem.Calls PySem.Spec PyProof.V
namespace Mine
noncomputable def InnerLoop (w : World) (scope : Scope) (inn : Stmt) : Prop :=
  ∀ (dp un : Nat) (gd : Option (List Code)) (fa : Addr) (cd : Value) (A₀ : Around) (g : Heap) (L : Addr) (m mg mb : Str → Option Value) (mean : ExcName → Option Value) (s : Shared) (Q : Flow → Shared → Prop) (E : Value → Shared → Prop)
    (t : Nat) (y : WS) (kp : List (Addr × Obj)),
    Below A₀ g [] g → Fr g L s.heap m → (Mine.K39 w.params).In g → Top topProg LZ mean mg mb g → y.Ok w t → News g L s.heap (kp ++ y.led w) → (∀ p ∈ kp, p.1 ∉ (y.led w).map (·.1)) →
    m (Str.ofString "world") = some (.ref y.W) → dp + 650 < recursionLimit → un + 3500 < cLine →
    PassesOwn (model PySem.Challenge.rw_ac0032_01.row.prog w) (ktrTop dp un gd (Str.ofString "law") scope L fa cd [] []) (envOf (Str.ofString "law") scope L fa cd) E →
    (∀ h' tk' m' y', y.Like y' → y'.Ok w t → (∀ n, n ≠ Str.ofString "told" → n ≠ Str.ofString "k" → m' n = m n) → Fr g L h' m' → News g L h' (kp ++ y'.led w) → (∀ p ∈ kp, p.1 ∉ (y'.led w).map (·.1)) → Q .next { s with heap := h', toks := tk' }) →
    wpAny (model PySem.Challenge.rw_ac0032_01.row.prog w) (ktrTop dp un gd (Str.ofString "law") scope L fa cd [] []) (exec inn (envOf (Str.ofString "law") scope L fa cd)) Q E s
theorem WS.Like.trans {x y z : WS} (a : x.Like y) (b : y.Like z) : x.Like z := by
  obtain ⟨a1, a2, a3, a4, a5, a6, a7, a8, a9, a10⟩ := a
  obtain ⟨b1, b2, b3, b4, b5, b6, b7, b8, b9, b10⟩ := b
  exact ⟨b1.trans a1, b2.trans a2, b3.trans a3, b4.trans a4, b5.trans a5, b6.trans a6, b7.trans a7, b8.trans a8, b9.trans a9, b10.trans a10⟩
section
local macro_rules | `(tactic| walk_at "pyIter ref") => `(tactic| (refine hold ?_))
local macro_rules | `(tactic| walk_at "execs cons") => `(tactic| (refine hold ?_))
theorem inner_loop {w : World} {scope : Scope} {tl ob ib : List Stmt} {inn : Stmt} (hpart : lawParts ((Mine.K39 w.params).lookup 875) = some (scope, tl, ob, inn, ib)) : InnerLoop w scope inn := by
  have turn := inner_turn hpart
  intro dp un gd fa cd A₀ g L m mg mb mean s Q E t y kp B F X T ok N ap hw hd hu hE hQ
  revert X
  k_fill
  intro X
  have hp := parts_of (by k_is) hpart
  dsimp only [lawParts] at hp
  cases hp
  clear hpart
  refine For_K (g := g) (L := L) (fun i m' led => (∀ n, n ≠ Str.ofString "told" → n ≠ Str.ofString "k" → m' n = m n) ∧ ∃ y', y.Like y' ∧ y'.Ok w t ∧ led = kp ++ y'.led w ∧ ∀ p ∈ kp, p.1 ∉ (y'.led w).map (·.1)) 8 ?_ (by intro _; rfl) hE
  k_steps
  rename_i h₁ tk₁ t₁ u₁ v₁ hr F₁ N₁ hk₁
  unfold InnerTurn at turn
  refine Hold.out (wpAny_pyIter_range hr (by decide) ?_)
  have N₂ := N₁.push F₁ ({ cls := .type "range_iterator", data := .fields #[rawInt 0, rawInt (Builtin.Range.rangeSize 0 8 1), rawInt 1] } : Obj)
  have F₂ := F₁.push ({ cls := .type "range_iterator", data := .fields #[rawInt 0, rawInt (Builtin.Range.rangeSize 0 8 1), rawInt 1] } : Obj)
  have e1 := N₂ _ (.head _)
  have apI : ∀ p ∈ kp ++ y.led w, p.1 ∉ [h₁.objs.size] := fun p hp => notin_cons (Nat.ne_of_lt (Heap.lt_size (N₁ p hp).1)) notin_nil
  refine ⟨h₁.objs.size, _, _, _, _, m, kp ++ y.led w, rfl, Walks.range rfl h₁.objs.size 0 1 8, ?st, (fa1 e1.2), F₂, News.sub N₂ (fun p hp => .tail _ hp), ⟨fun _ _ _ => rfl, y, .refl, ok, rfl, ap⟩, apI, ?_, ?_⟩
  case st =>
    show IsRangeIter _ _ ((0 : Int) + ((0 : Nat) : Int) * 1) (((8 : Nat) : Int) - ((0 : Nat) : Int)) 1
    rw [show ((0 : Int) + ((0 : Nat) : Int) * 1) = 0 by decide, show (((8 : Nat) : Int) - ((0 : Nat) : Int)) = Builtin.Range.rangeSize 0 8 1 by decide]
    exact Heap.get?_push_size _ rfl
  · intro i v m₁ led h₂ tk₂ hi hP hK F₃ N₃ hSt ap₂
    obtain ⟨hm, y', lk, oky, rfl, ap'⟩ := hK
    obtain ⟨tkv, rfl⟩ := hP
    have N₄ := News.cons1 (p := (h₁.objs.size, _)) ⟨hSt, e1.2⟩ N₃
    clear N₃ F₁ F₂ N₁ N₂
    k_steps
    rename News g L _ _ => N₅
    rename Fr g L _ _ => F₅
    have N₆ : News g L _ (((h₁.objs.size, _) :: kp) ++ y'.led w) := N₅
    have hap : ∀ p ∈ ((h₁.objs.size, { cls := .type "range_iterator", data := .fields #[rawInt ((0 : Int) + ((i + 1 : Nat) : Int) * 1), rawInt (((8 : Nat) : Int) - ((i + 1 : Nat) : Int)), rawInt 1] }) : Addr × Obj) :: kp, p.1 ∉ (y'.led w).map (·.1) :=
      List.forall_mem_cons.mpr ⟨fun hx => by
        obtain ⟨q, hq, e⟩ := List.mem_map.mp hx
        exact ap₂ q (List.mem_append_right _ hq) (e ▸ .head _), ap'⟩
    have hw3 : m₁ (Str.ofString "world") = some (.ref y'.W) := (hm _ (by decide) (by decide)).trans (hw.trans (by rw [lk.1]))
    clear N₅
    refine Hold.out (turn dp un gd fa cd A₀ g L _ mg mb mean _ _ E t y' _ (0 + ↑i * 1) tkv B F₅ X T oky N₆ hap ((if_neg (by decide)).trans hw3) (if_pos rfl) (by omega) (by omega) hd hu ?_)
    intro h₇ tk₇ m₇ y₇ lk₇ ok₇ hm₇ F₇ N₇ ap₇
    refine ⟨h₇, tk₇, m₇, kp ++ y₇.led w, rfl, F₇, News.sub N₇ (fun p hp => .tail _ hp), ⟨fun n h1 h2 => (hm₇ n h1).trans ((if_neg h2).trans (hm n h1 h2)), y₇, lk.trans lk₇, ok₇, rfl, fun p hp => ap₇ p (.tail _ hp)⟩, (fa1 (fun o e => ?_)), fun p hp => ?_⟩
    · have e' : h₂.get? h₁.objs.size = some o := e
      rw [show h₂.get? h₁.objs.size = _ from hSt] at e'
      cases e'
      exact (N₇ _ (.head _)).1
    · refine notin_cons (fun q => ?_) notin_nil
      rcases List.mem_append.mp hp with hp | hp
      · exact ap₂ p (List.mem_append_left _ hp) (show p.1 ∈ [h₁.objs.size] from q ▸ .head _)
      · exact ap₇ _ (.head _) (show h₁.objs.size ∈ _ from q ▸ List.mem_map_of_mem hp)
  · rintro m₁ led h₂ tk₂ ⟨hm, y', lk, oky, rfl, ap'⟩ F₃ N₃ ap₂
    exact hQ _ _ _ y' lk oky hm F₃ N₃ ap'
end
end Mine
end
section
open PySem PySem.W PyProof.Rows PySem.Calls PySem.Spec PyProof.V
namespace Mine
noncomputable def OuterTurn (w : World) (scope : Scope) (ob : List Stmt) : Prop :=
  ∀ (dp un : Nat) (gd : Option (List Code)) (fa : Addr) (cd : Value) (A₀ : Around) (g : Heap) (L : Addr) (m mg mb : Str → Option Value) (mean : ExcName → Option Value) (s : Shared) (Q : Flow → Shared → Prop) (E : Value → Shared → Prop)
    (t : Nat) (y : WS) (kp : List (Addr × Obj)) (n : Int) (tk : Tok),
    Below A₀ g [] g → Fr g L s.heap m → (Mine.K39 w.params).In g → Top topProg LZ mean mg mb g → y.Ok w t → t ≤ 60 → News g L s.heap (kp ++ y.led w) → (∀ p ∈ kp, p.1 ∉ (y.led w).map (·.1)) →
    m (Str.ofString "world") = some (.ref y.W) → m (Str.ofString "number") = some (.int n tk) → (0 ≤ n ∧ n < 1000000) → dp + 650 < recursionLimit → un + 3500 < cLine →
    PassesOwn (model PySem.Challenge.rw_ac0032_01.row.prog w) (ktrTop dp un gd (Str.ofString "law") scope L fa cd [] []) (envOf (Str.ofString "law") scope L fa cd) E →
    (∀ h' tk' m' y', y.Like y' → y'.Ok w (t + 1) → (∀ n, n ≠ Str.ofString "told" → n ≠ Str.ofString "k" → m' n = m n) → Fr g L h' m' → News g L h' (kp ++ y'.led w) → (∀ p ∈ kp, p.1 ∉ (y'.led w).map (·.1)) → Q .next { s with heap := h', toks := tk' }) →
    wpAny (model PySem.Challenge.rw_ac0032_01.row.prog w) (ktrTop dp un gd (Str.ofString "law") scope L fa cd [] []) (execs ob (envOf (Str.ofString "law") scope L fa cd)) Q E s
section
local macro_rules | `(tactic| walk_at "ite") => `(tactic| first | ((with_reducible refine ieq_neg ?h ?_); (case h => omega)) | ((with_reducible refine ieq_pos ?h ?_); (case h => omega)))
local macro_rules | `(tactic| k_all) => `(tactic| first | exact List.forall_mem_nil _ | with_reducible assumption | (refine List.forall_mem_cons.mpr ⟨by k_ne, by k_all⟩))
local macro_rules | `(tactic| walk_at "subscriptTail") => `(tactic| (k_here; (try dsimp only); first
  | ((with_reducible show wpAny _ _ (subscriptTail _ _ (Value.ref _) (Value.str _ _)) _ _ _); k_dflt (refine kda_item (knd := PySem.strKind _ _) (by k_asm) (by k_mem) (by assumption) (strKind_is _ _ _ _) rfl ?_))
  | ((with_reducible show wpAny _ _ (subscriptTail _ _ (Value.ref _) (Value.int _ _)) _ _ _); k_dflt (refine item_L (by k_asm) (by k_mem) (by assumption) (by assumption) (by assumption) ?_))))
local macro_rules | `(tactic| walk_at "eval Name") => `(tactic| (k_here; k_dflt (refine nameX_L (by k_asm) (by first | assumption | exact (if_neg (by decide)).trans (by assumption) | exact (if_neg (by decide)).trans ((if_neg (by decide)).trans (by assumption))) ?_)))
local macro_rules | `(tactic| walk_at "call ref") => `(tactic| (refine hold ?_))
local macro_rules | `(tactic| walk_at "exec For Name Call cons nil") => `(tactic| (refine hold ?_))
theorem outer_turn {w : World} {scope : Scope} {tl ob ib : List Stmt} {inn : Stmt} (hpart : lawParts ((Mine.K39 w.params).lookup 875) = some (scope, tl, ob, inn, ib)) : OuterTurn w scope ob := by
  have loop := inner_loop hpart
  unfold InnerLoop at loop
  intro dp un gd fa cd A₀ g L m mg mb mean s Q E t y kp n tk B F X T ok ht N ap hw hnum hn hd hu hE hQ
  revert X
  k_fill
  intro X
  have hp := parts_of (by k_is) hpart
  dsimp only [lawParts] at hp
  cases hp
  clear hpart
  k_steps
  refine Hold.out (goes_law (kp := kp) (one_step ok ht n tk hn) B F X N T rfl (fun p hp => List.mem_append_right _ hp) (fun p hp => List.mem_append_left _ hp) ap ?_ ?_ ?_)
  · omega
  · omega
  rintro v h₂ tk₂ led' rfl ⟨y₂, rfl, lk, ok₂⟩ F₂ N₂ ap₂
  clear F N
  have hw₂ : m (Str.ofString "world") = some (.ref y₂.W) := hw.trans (by rw [lk.1])
  have hW := ok₂.hW
  have hi := ok₂.hi
  have hln := ok₂.vlen
  have N₁ := News.front N₂
  clear N₂
  k_steps
  refine Hold.out (keep_law (dp := dp) (un := un + 1) (len_step ok₂) B F₂ X N₁ T rfl (fun p hp => .tail _ (.tail _ (.tail _ (.tail _ (.tail _ (List.mem_append_right _ hp)))))) ?_ ?_ ?_)
  · omega
  · omega
  rintro v h₃ tk₃ ⟨tl₃, rfl⟩ F₃ N₃
  clear F₂ N₁
  refine ⟨⟨by omega, by omega⟩, ?_⟩
  k_steps
  · exfalso
    rename_i hne
    exact hne rfl
  · rename News g L _ _ => N₄
    rename Fr g L _ _ => F₄
    refine Hold.out (loop dp un gd fa cd A₀ g L m mg mb mean _ _ E (t + 1) y₂ kp B F₄ X T ok₂ (News.sub N₄ fun p hp => .tail _ (.tail _ (.tail _ (.tail _ (.tail _ hp))))) ap₂ hw₂ hd hu hE ?_)
    intro h₅ tk₅ m₅ y₅ lk₅ ok₅ hm₅ F₅ N₅ ap₅
    clear F₄ N₄
    k_steps
    exact hQ _ _ _ y₅ (lk.trans lk₅) ok₅ hm₅ F₅ N₅ ap₅
end
end Mine
end
section
open PySem PySem.W PyProof.Rows PySem.Calls PySem.Spec PyProof.V
namespace Mine
theorem turn_end {g : Heap} {L : Addr} {s₀ s' : Shared} {K : (Str → Option Value) → List (Addr × Obj) → Prop} {it kp led : List (Addr × Obj)} {h₃ : Heap} {tk₃ : Nat} {m : Str → Option Value} (F : Fr g L h₃ m) (N : News g L h₃ ((it ++ kp) ++ led))
    (hit : ∀ p ∈ it, s'.heap.get? p.1 = some p.2) (hK : K m (kp ++ led)) (ap : ∀ p ∈ it ++ kp, p.1 ∉ led.map (·.1)) (apk : ∀ p ∈ kp, p.1 ∉ it.map (·.1)) : TurnEnd g L (it.map (·.1)) s₀ s' K { s₀ with heap := h₃, toks := tk₃ } := by
  refine ⟨h₃, tk₃, m, kp ++ led, rfl, F, News.sub N fun p hp => ?_, hK, fun b hb o e => ?_, fun p hp => ?_⟩
  · rcases List.mem_append.mp hp with hp | hp
    · exact List.mem_append_left _ (List.mem_append_right _ hp)
    · exact List.mem_append_right _ hp
  · obtain ⟨p, hp, rfl⟩ := List.mem_map.mp hb
    rw [hit p hp] at e; cases e
    exact (N p (List.mem_append_left _ (List.mem_append_left _ hp))).1
  · rcases List.mem_append.mp hp with hp | hp
    · exact apk p hp
    · intro q
      obtain ⟨r, hr, e⟩ := List.mem_map.mp q
      exact ap r (List.mem_append_left _ hr) (e ▸ List.mem_map_of_mem hp)
theorem apart_turn {it kp led : List (Addr × Obj)} (h : ∀ p ∈ kp ++ led, p.1 ∉ it.map (·.1)) (ap : ∀ p ∈ kp, p.1 ∉ led.map (·.1)) : (∀ p ∈ it ++ kp, p.1 ∉ led.map (·.1)) ∧ ∀ p ∈ kp, p.1 ∉ it.map (·.1) := by
  refine ⟨fun p hp q => ?_, fun p hp => h p (List.mem_append_left _ hp)⟩
  rcases List.mem_append.mp hp with hp | hp
  · obtain ⟨r, hr, e⟩ := List.mem_map.mp q
    exact h r (List.mem_append_right _ hr) (e ▸ List.mem_map_of_mem hp)
  · exact ap p hp q
theorem ints_at : ∀ {vs : List Value} {ns : List Int}, IntsAre vs ns → ∀ v ∈ vs, ∃ n t, v = Value.int n t ∧ n ∈ ns
  | _, _, .nil, _, h => nomatch h
  | _, _, .cons n t r, v, h => by
    rcases List.mem_cons.mp h with rfl | h
    · exact ⟨n, t, rfl, .head _⟩
    · obtain ⟨a, u, e, ha⟩ := ints_at r v h
      exact ⟨a, u, e, .tail _ ha⟩
section
local macro_rules | `(tactic| k_all) => `(tactic| first | exact List.forall_mem_nil _ | with_reducible assumption | (refine List.forall_mem_cons.mpr ⟨by k_ne, by k_all⟩))
local macro_rules | `(tactic| walk_at "exec For Name Tuple cons nil") => `(tactic| (refine hold ?_))
local macro_rules | `(tactic| walk_at "exec For Name BinOp cons nil") => `(tactic| (refine hold ?_))
local macro_rules | `(tactic| walk_at "pyIter ref") => `(tactic| (refine hold ?_))
local macro_rules | `(tactic| walk_at "call ref") => `(tactic| (refine hold ?_))
local macro_rules | `(tactic| walk_at "eval Name") => `(tactic| (k_here; k_dflt (refine nameX_L (by k_asm) (by first | assumption | exact (if_neg (by decide)).trans (by assumption) | exact (if_neg (by decide)).trans ((if_neg (by decide)).trans (by assumption))) ?_)))
local macro_rules | `(tactic| walk_at "pad") => `(tactic| skip)
theorem law_tail {w : World} (dp un : Nat) (gd : Option (List Code)) {scope : Scope} {tl : List Stmt} (fa : Addr) (cd : Value) (A₀ : Around) (g : Heap) (L : Addr) (m mg mb : Str → Option Value) (mean : ExcName → Option Value) (s : Shared) (Q : Flow → Shared → Prop) (E : Value → Shared → Prop)
    (DN : Nat) (nv : List Value) (nums : List Int) (hparts : ∃ ob inn ib, lawParts ((Mine.K39 w.params).lookup 875) = some (scope, tl, ob, inn, ib)) (B : Below A₀ g [] g) (F : Fr g L s.heap m) (hm : m (Str.ofString "numbers") = some (.ref DN)) (X : (Mine.K39 w.params).In g) (T : Top topProg LZ mean mg mb g)
    (kq : List (Addr × Obj)) (hkq : ∀ p ∈ kq, p.1 ∉ ([844, 505, 353] : List Nat)) (hDq : DN ∉ kq.map (·.1)) (N : News g L s.heap ((DN, listOf nv.toArray 0) :: (844, tabObj #[]) :: (505, tabObj #[]) :: (353, tabObj #[]) :: kq)) (hI : IntsAre nv nums) (hb : ∀ r ∈ nums, 0 ≤ r ∧ r < 1000000) (hl : nums.length ≤ 18) (hd : dp + 650 < recursionLimit) (hu : un + 3500 < cLine)
    (hE : PassesOwn (model PySem.Challenge.rw_ac0032_01.row.prog w) (ktrTop dp un gd (Str.ofString "law") scope L fa cd [] []) (envOf (Str.ofString "law") scope L fa cd) E)
    (hQ : ∀ h' tk (y : WS) m', Fr g L h' m' → News g L h' (kq ++ y.led w) → Q (.ret (.bool true)) { s with heap := h', toks := tk }) :
    wpAny (model PySem.Challenge.rw_ac0032_01.row.prog w) (ktrTop dp un gd (Str.ofString "law") scope L fa cd [] []) (execs tl (envOf (Str.ofString "law") scope L fa cd)) Q E s := by
  obtain ⟨ob, inn, ib, hpart⟩ := hparts
  have turn := outer_turn hpart
  unfold OuterTurn at turn
  revert X
  k_fill
  intro X
  have hp := parts_of (by k_is) hpart
  dsimp only [lawParts] at hp
  cases hp
  clear hpart
  k_steps
  refine Hold.out (Claim.use world_c B F X N T rfl (fun _ h => nomatch h) ?_ ?_ trivial ?_)
  · omega
  · omega
  rintro v h₂ tk₂ hk₂ ⟨x, rfl, ok, hbnd, hP⟩
  have hk3 : ∀ b o, s.heap.get? b = some o → h₂.get? b = some o := fun b o e => hk₂ b o e List.not_mem_nil
  have F₂ := F.keptAll hk3
  have NA := News.keep N hk3
  have hnew : ∀ a o, h₂.get? a = some o → s.heap.get? a = none → News g L h₂ [(a, o)] := fun a o e n => (fa1 ⟨e, (fun q => by
    obtain ⟨oL, _, _, hL, _⟩ := F.ns
    rw [show a = L from q, hL] at n
    cases n), none_of_up F.keep n⟩)
  have NX : News g L h₂ (x.led w) := hP (fun p => h₂.get? p.1 = some p.2 ∧ p.1 ≠ L ∧ g.get? p.1 = none) (fun a o e n => hnew a o e n _ (.head _)) (NA _ (in3)) (NA _ (in2)) (NA _ (in1))
  have aDN : ∀ p ∈ x.led w, p.1 ≠ DN := hP (fun p => p.1 ≠ DN) (fun a o e n q => by
    have z := (N (DN, listOf nv.toArray 0) (.head _)).1
    rw [← show a = DN from q, n] at z; cases z) (News.ne N (in3) (.head _) (fun q => Value.noConfusion q)) (News.ne N (in2) (.head _) (fun q => Value.noConfusion q)) (News.ne N (in1) (.head _) (fun q => Value.noConfusion q))
  have aKQ : ∀ p ∈ x.led w, p.1 ∉ kq.map (·.1) := by
    have hk1 : ∀ c : Nat, c ∈ ([844, 505, 353] : List Nat) → c ∉ kq.map (·.1) := fun c hc hm => by
      obtain ⟨q, hq, e⟩ := List.mem_map.mp hm
      exact hkq q hq (by rw [show q.1 = c from e]; exact hc)
    refine hP (fun p => p.1 ∉ kq.map (·.1)) (fun a o e n hm => ?_) (hk1 _ (by decide)) (hk1 _ (by decide)) (hk1 _ (by decide))
    obtain ⟨q, hq, e⟩ := List.mem_map.mp hm
    have z := (N q (.tail _ (.tail _ (.tail _ (.tail _ hq))))).1
    rw [show q.1 = a from e, n] at z; cases z
  have N₂ : News g L h₂ ((DN, listOf nv.toArray 0) :: (kq ++ x.led w)) := News.cons1 (NA _ (.head _)) (News.append (News.sub NA fun p hp => .tail _ (.tail _ (.tail _ (.tail _ hp)))) NX)
  have ap₂ : ∀ p ∈ (DN, listOf nv.toArray 0) :: kq, p.1 ∉ (x.led w).map (·.1) := List.forall_mem_cons.mpr ⟨fun q => by
    obtain ⟨p, hp, e⟩ := List.mem_map.mp q
    exact aDN p hp e, fun p hp hm => by
    obtain ⟨q, hq, e⟩ := List.mem_map.mp hm
    exact aKQ q hq (by rw [e]; exact List.mem_map_of_mem hp)⟩
  generalize hX : x.led w = ledX at *
  clear NA NX hnew hP hk₂ N aDN aKQ hbnd
  k_steps
  refine Hold.out (For_K (g := g) (L := L) (fun i m' led => ∃ y : WS, m' (Str.ofString "world") = some (.ref y.W) ∧ m' (Str.ofString "numbers") = some (.ref DN) ∧ y.Ok w 0 ∧ led = (DN, listOf nv.toArray 0) :: (kq ++ y.led w) ∧ ∀ p ∈ (DN, listOf nv.toArray 0) :: kq, p.1 ∉ (y.led w).map (·.1)) 3 ?_ (by intro _; rfl) hE)
  k_steps
  rename_i D₃ h₄ F₄ N₄ l₄
  have ND := N₄ _ (.head _)
  refine Hold.out (wpAny_pyIter_tuple ⟨_, ND.1, rfl, _, rfl⟩ ?_)
  have hlt : D₃ < h₄.objs.size := Heap.lt_size ND.1
  have N₅ := N₄.push F₄ ({ cls := .type "tuple_iterator", data := .fields #[.ref D₃, .int 0 0] } : Obj)
  have F₅ := F₄.push ({ cls := .type "tuple_iterator", data := .fields #[.ref D₃, .int 0 0] } : Obj)
  have e1 := N₅ _ (.head _)
  have e2 := N₅ _ (in1)
  have N₆ : News g L _ ((DN, listOf nv.toArray 0) :: (kq ++ ledX)) := News.sub N₅ (fun p hp => List.Mem.tail _ (List.Mem.tail _ hp) : ∀ p ∈ (DN, listOf nv.toArray 0) :: (kq ++ ledX), p ∈ _)
  have ap₀ : ∀ p ∈ (DN, listOf nv.toArray 0) :: (kq ++ ledX), p.1 ∉ [h₄.objs.size, D₃] := fun p hp => notin_cons (Nat.ne_of_lt (Heap.lt_size (N₄ p (.tail _ hp)).1)) (notin_cons (Nat.ne_of_lt ((List.forall_mem_cons.mpr ⟨l₄.1, fun p hp => allLt_mem l₄.2 p hp⟩ : ∀ p ∈ (DN, listOf nv.toArray 0) :: (kq ++ ledX), @LT.lt Nat _ p.1 D₃) p hp)) notin_nil)
  subst hX
  refine ⟨h₄.objs.size, _, _, _, _, _, (DN, listOf nv.toArray 0) :: (kq ++ x.led w), rfl, Walks.tuple rfl h₄.objs.size D₃ (Nat.ne_of_lt hlt) #[.int 0 _, .int 1 _, .int 3 _], ⟨⟨_, e1.1, rfl, rfl⟩, ⟨_, e2.1, rfl, _, rfl⟩⟩, (fa1 e1.2), F₅, N₆, ⟨x, if_pos rfl, (if_neg (by decide)).trans hm, ok, rfl, ap₂⟩, ap₀, ?_, ?_⟩
  · clear N₆ ap₀ N₅ F₅ N₄ F₄ ap₂ l₄ ok turn
    intro i v m₁ led h₅ tk₅ hi hP hK F₆ N₆ hSt ap
    obtain ⟨y, kw, kn, oky, rfl, apy⟩ := hK
    obtain ⟨k, tkv, rfl, k0, k8⟩ : ∃ (k : Int) (tkv : Tok), v = .int k tkv ∧ 0 ≤ k ∧ k < 8 := by
      have hm := Array.mem_of_getElem? hP
      simp only [List.mem_toArray, List.mem_cons, List.not_mem_nil, or_false] at hm
      rcases hm with rfl | rfl | rfl <;> exact ⟨_, _, rfl, by decide, by decide⟩
    obtain ⟨⟨oI, hoI, _⟩, ⟨oD, hoD, _⟩⟩ := hSt
    have N₇ : News g L h₅ (([(h₄.objs.size, oI), (D₃, oD)] ++ ((DN, listOf nv.toArray 0) :: kq)) ++ y.led w) := News.cons1 ⟨hoI, e1.2⟩ (News.cons1 ⟨hoD, e2.2⟩ N₆)
    have hap := apart_turn (it := [(h₄.objs.size, oI), (D₃, oD)]) (kp := (DN, listOf nv.toArray 0) :: kq) ap apy
    clear N₆ e1 e2
    generalize hy : y.led w = ledY at *
    k_steps
    subst hy
    rename News g L _ _ => N₈
    rename Fr g L _ _ => F₈
    refine Hold.out (goes_law (kp := [(h₄.objs.size, oI), (D₃, oD)] ++ ((DN, listOf nv.toArray 0) :: kq)) (put_stepM oky k tkv k0 k8) B F₈ X N₈ T rfl (fun p hp => List.mem_append_right _ hp) (fun p hp => List.mem_append_left _ hp) hap.1 ?_ ?_ ?_)
    · omega
    · omega
    rintro v h₉ tk₉ led' - ⟨y₂, rfl, lk₂, ok₂⟩ F₉ N₉ ap₉
    clear N₈ F₈
    k_steps
    refine turn_end F₉ N₉ ((fa2 hoI hoD)) ⟨y₂, ((if_neg (by decide)).trans kw).trans (by rw [lk₂.1]), (if_neg (by decide)).trans kn, ok₂, rfl, fun p hp => ap₉ p (List.mem_append_right _ hp)⟩ ap₉ hap.2
  · clear N₆ ap₀ N₅ F₅ N₄ F₄ ap₂ l₄ ok e1 e2 ND hlt
    rintro m₁ led h₅ tk₅ ⟨y, kw, kn, oky, rfl, apy⟩ F₆ N₆ ap
    clear ap
    dsimp only
    k_steps
    generalize hy : y.led w = ledY at *
    refine Hold.out (For_K (g := g) (L := L) (fun i m' led => ∃ y : WS, m' (Str.ofString "world") = some (.ref y.W) ∧ y.Ok w i ∧ led = kq ++ y.led w ∧ ∀ p ∈ kq, p.1 ∉ (y.led w).map (·.1)) (nums.length + 2) ?_ (by intro _; rfl) hE)
    k_steps
    rename_i l₇ h₇ l₇' D₇ ws h₈ F₈ N₈ hI₈ l₈
    have hsz : ws.toArray.size = nums.length + 2 := by rw [List.size_toArray, hI₈.length, List.length_append]; rfl
    have hnb : ∀ r ∈ nums ++ [26, 24], 0 ≤ r ∧ r < 1000000 := fun r hr => by
      rcases List.mem_append.mp hr with hr | hr
      · exact hb r hr
      · simp only [List.mem_cons, List.not_mem_nil, or_false] at hr
        omega
    have ND := N₈ _ (.head _)
    refine Hold.out (wpAny_pyIter_list (News.isList (n := 0) (d := none) (sl := #[]) (items := ws.toArray) N₈ (.head _)) ?_)
    have hlt : D₇ < h₈.objs.size := Heap.lt_size ND.1
    have N₉ := N₈.push F₈ ({ cls := .type "list_iterator", data := .fields #[.ref D₇, .int 0 0] } : Obj)
    have F₉ := F₈.push ({ cls := .type "list_iterator", data := .fields #[.ref D₇, .int 0 0] } : Obj)
    have e1 := N₉ _ (.head _)
    have e2 := N₉ _ (in1)
    have NY : News g L _ (kq ++ ledY) := News.sub N₉ (fun p hp => List.Mem.tail _ (List.Mem.tail _ (List.Mem.tail _ (List.Mem.tail _ hp))))
    have ap₀ : ∀ p ∈ kq ++ ledY, p.1 ∉ [h₈.objs.size, D₇] := fun p hp => notin_cons (Nat.ne_of_lt (Heap.lt_size (N₈ p (.tail _ (.tail _ (.tail _ hp)))).1)) (notin_cons (Nat.ne_of_lt (allLt_mem l₈.2.2 p hp)) notin_nil)
    have W : ∀ cs : Scope, Walks PySem.Challenge.rw_ac0032_01.row.prog w (ktrTop dp un gd (Str.ofString "law") cs L fa cd [] []) h₈.objs.size [h₈.objs.size, D₇] [h₈.objs.size] (nums.length + 2) (fun i v => ws.toArray[i]? = some v) (fun i h => h.IsListIter h₈.objs.size D₇ i ∧ h.IsList D₇ ws.toArray) := fun cs => by
      have W := Walks.list (prog := PySem.Challenge.rw_ac0032_01.row.prog) (w := w) (A := ktrTop dp un gd (Str.ofString "law") cs L fa cd [] []) rfl h₈.objs.size D₇ (Nat.ne_of_lt hlt) ws.toArray
      rw [hsz] at W
      exact W
    subst hy
    refine ⟨h₈.objs.size, _, _, _, _, _, kq ++ y.led w, rfl, W _, ⟨⟨_, e1.1, rfl, rfl⟩, ⟨_, e2.1, rfl, _, rfl⟩⟩, (fa1 e1.2), F₉, NY, ⟨y, kw, oky, rfl, fun p hp => apy p (.tail _ hp)⟩, ap₀, ?_, ?_⟩
    · clear ap₀ NY N₉ F₉ N₈ F₈ l₈ apy kw kn oky W ND
      intro i v m₂ led h₁₀ tk₁₀ hi hP hK F₁₀ N₁₀ hSt ap
      obtain ⟨y₂, kw₂, ok₂, rfl, apq⟩ := hK
      obtain ⟨r, tkr, rfl, hr⟩ := ints_at hI₈ v (List.mem_of_getElem? (i := i) (by simpa using hP))
      obtain ⟨⟨oI, hoI, _⟩, ⟨oD, hoD, _⟩⟩ := hSt
      have N₁₁ : News g L h₁₀ (([(h₈.objs.size, oI), (D₇, oD)] ++ kq) ++ y₂.led w) := News.cons1 ⟨hoI, e1.2⟩ (News.cons1 ⟨hoD, e2.2⟩ N₁₀)
      have hap := apart_turn (it := [(h₈.objs.size, oI), (D₇, oD)]) (kp := kq) ap apq
      clear N₁₀ e1 e2
      generalize hy₂ : y₂.led w = ledY₂ at *
      walk1
      walk1
      subst hy₂
      rename News g L _ _ => N₁₂
      rename Fr g L _ _ => F₁₂
      refine turn dp un gd fa cd A₀ g L _ mg mb mean _ _ E i y₂ _ r tkr B F₁₂ X T ok₂ (by omega) N₁₂ hap.1 ((if_neg (by decide)).trans kw₂) (if_pos rfl) (hnb r hr) hd hu hE ?_
      intro h₁₃ tk₁₃ m₁₃ y₁₃ lk₁₃ ok₁₃ hm₁₃ F₁₃ N₁₃ ap₁₃
      refine turn_end F₁₃ N₁₃ ((fa2 hoI hoD)) ⟨y₁₃, (hm₁₃ _ (by decide) (by decide)).trans (((if_neg (by decide)).trans kw₂).trans (by rw [lk₁₃.1])), ok₁₃, rfl, fun p hp => ap₁₃ p (List.mem_append_right _ hp)⟩ ap₁₃ hap.2
    · clear ap₀ NY N₉ F₉ N₈ F₈ l₈ apy kw kn oky W ND e1 e2
      rintro m₂ led h₁₀ tk₁₀ ⟨y₂, kw₂, ok₂, rfl, apq⟩ F₁₀ N₁₀ ap
      clear ap
      dsimp only
      generalize hy₂ : y₂.led w = ledY₂ at *
      k_steps
      subst hy₂
      exact hQ _ _ y₂ _ F₁₀ N₁₀
end
end Mine
end
section
open PySem PySem.W PyProof.Rows PySem.Calls PySem.Spec PyProof.V
namespace Mine
noncomputable def NumR (_v y : Value) : Prop := ∃ r t', y = Value.int r t' ∧ 0 ≤ r ∧ r < 1000000
theorem IntsAre.append {vs ws : List Value} {a b : List Int} : IntsAre vs a → IntsAre ws b → IntsAre (vs ++ ws) (a ++ b)
  | .nil, h => h
  | .cons n t r, h => .cons n t (IntsAre.append r h)
theorem nums_of : ∀ {vs ys : List Value}, Paired NumR vs ys → ∃ rs : List Int, IntsAre ys rs ∧ (∀ r ∈ rs, 0 ≤ r ∧ r < 1000000) ∧ rs.length = vs.length
  | _, _, .nil => ⟨[], .nil, fun _ h => (nomatch h), rfl⟩
  | _, _, .cons h p => by
    obtain ⟨r, t, rfl, h0, h1⟩ := h
    obtain ⟨rs, a, b, c⟩ := nums_of p
    exact ⟨r :: rs, .cons r t a, List.forall_mem_cons.mpr ⟨⟨h0, h1⟩, b⟩, congrArg (· + 1) c⟩
theorem numR_of (v : Value) (a : Int) (t : Tok) : NumR v (Value.int (a.fmod (10 ^ Int.toNat 6)) t) := by
  refine ⟨_, t, rfl, ?_⟩
  have e : (10 : Int) ^ Int.toNat 6 = 1000000 := by decide
  rw [e, Int.fmod_eq_emod_of_nonneg a (by decide)]
  omega
theorem max_two_M {prog : Program} {w : World} {A : Around} {E : Value → Shared → Prop} {s : Shared} {h₀ : Heap} {L : Addr} {m : Str → Option Value} {news : List (Addr × Obj)} {a b : Int} {t u : Tok} {Q : Value → Shared → Prop} (hh : A.handled = none) (F : Fr h₀ L s.heap m) (N : News h₀ L s.heap news)
    (h : ∀ h' tk M u', a ≤ M → Fr h₀ L h' m → News h₀ L h' news → Q (.int M u') { s with heap := h', toks := tk }) : wpAny (model prog w) A (call (.builtin "max") [.int a t, .int b u]) Q E s :=
  max_two_N hh F N fun h' tk F' N' => h h' tk _ _ (by split <;> omega) F' N'
theorem small_ints : ∀ {l : List Value}, (∀ v ∈ l, ∃ a t, v = Value.int a t ∧ 0 ≤ a ∧ a < 1000000) → ∃ ms : List Int, IntsAre l ms ∧ ∀ m ∈ ms, 0 ≤ m ∧ m < 1000000
  | [], _ => ⟨[], .nil, fun _ h => (nomatch h)⟩
  | v :: r, h => by
    obtain ⟨a, t, rfl, h0, h1⟩ := h v (.head _)
    obtain ⟨ms, i, b⟩ := small_ints (l := r) fun u hu => h u (.tail _ hu)
    exact ⟨a :: ms, .cons a t i, List.forall_mem_cons.mpr ⟨⟨h0, h1⟩, b⟩⟩
theorem pick_ints {its : Array Value} {lo hi st : Option Int} (h : ∀ v ∈ its.toList, ∃ a t, v = Value.int a t ∧ 0 ≤ a ∧ a < 1000000) : ∃ ms : List Int, IntsAre (slicePick its lo hi st).toList ms ∧ (∀ m ∈ ms, 0 ≤ m ∧ m < 1000000) ∧ ms.length ≤ its.size := by
  have hm : ∀ v ∈ (slicePick its lo hi st).toList, v ∈ its.toList := fun v hv => by
    unfold slicePick at hv
    obtain ⟨i, _, e⟩ := List.mem_filterMap.mp hv
    have e' : its.toList[i]? = some v := by rw [Array.getElem?_toList]; exact e
    exact List.mem_of_getElem? e'
  obtain ⟨ms, a, b⟩ := small_ints (l := (slicePick its lo hi st).toList) fun v hv => h v (hm v hv)
  refine ⟨ms, a, b, ?_⟩
  rw [← a.length, Array.length_toList]
  exact slicePick_size_le _ _ _ _
section
local macro_rules | `(tactic| walk_at "call builtin:len") => `(tactic| (refine hold ?_))
local macro_rules | `(tactic| walk_at "call builtin:max") => `(tactic| (refine hold ?_))
local macro_rules | `(tactic| walk_at "pyIter ref") => `(tactic| (refine hold ?_))
local macro_rules | `(tactic| k_all) => `(tactic| first | exact List.forall_mem_nil _ | with_reducible assumption | (refine List.forall_mem_cons.mpr ⟨by k_ne, by k_all⟩))
local macro_rules | `(tactic| walk_at "eval ListComp") => `(tactic| (refine hold ?_))
theorem law_probe : PySem.Challenge.rw_ac0032_01.Holds := by
  refine Mine.hd (by rfl) (by rfl) (by rfl) ?_
  k_go0
  rename_i wW sA sB mg mb hG hY fa oF pm cd doc kV ho hcd hg hX hV hT hB hTE hTW ns hs hlay hL1 hr1 hl2 as4 as3 sl svs as0 hLs ra w1 r0 hI₀ hr hc1 hc2 hD h₁ X' T' K' F' c3 c2 c1 c0 N' l0
  k_steps
  refine Hold.out (wpAny_ListComp_free (fun _ => true) NumR (by with_unfolding_all rfl) (by decide) (by rfl) (by decide) (by rfl) ?_)
  k_steps
  rename_i D16 ws h₁₆ F₁ N₁ hI₁ hC16 hL16 l16
  have hl16 := hI₁.length
  rw [List.length_take] at hl16
  refine Hold.out (lc_R (R := NumR) rfl (News.isList (n := 0) (d := none) (sl := #[]) N₁ (.head _)) (Nat.le_trans (show _ ≤ 16 by rw [hl16]; omega) (by decide)) ?_ ?_)
  · intro C v s₃ m₃ E' hv hn hm hk'
    obtain ⟨n, t, rfl⟩ := ints_mem hI₁ hv
    have F₃ := F₁.keeps hk'
    have N₃ := News.keep N₁ hk'
    clear F₁ N₁
    k_steps
    · exact numR_of _ _ _
    · exact ⟨_, _, rfl, fun _ _ e => e⟩
  · intro D h₂ tk₂ ys hD hk₂ hpl hP
    obtain ⟨rs, hR, hRb, hRl⟩ := nums_of hP
    obtain ⟨c₂, hD₂⟩ := hpl
    have N₂ := News.add F₁ N₁ hk₂ hD hD₂
    have F₂ := F₁.keeps hk₂
    clear F₁ N₁
    k_steps
    rename News _ _ _ _ => N₁
    rename Fr _ _ _ _ => F₁
    obtain ⟨oS, hoS, hrS⟩ := lifted
    refine Hold.out (len_list ⟨oS, F₁.keep _ _ hoS, hrS⟩ ?_ ?_)
    · have hl63 := hI₀.length
      rw [List.size_toArray, hl63]
      omega
    k_steps
    rename News _ _ _ _ => N₁
    rename Fr _ _ _ _ => F₁
    refine Hold.out (max_two_M rfl F₁ N₁ ?_)
    intro h₃ tk₃ M u₃ hM F₃ N₃
    clear F₁ N₁
    walk1
    refine kba_turn (value' := PySem.Expr.Name (PySem.Str.ofString "_") ⟨0, 0, 0, 0⟩) (fun _ => rfl) ?_
    k_dflt (refine' kmk_slice (lo := none) (hi := some M) F₃ N₃ (News.isList (n := 0) (d := none) (sl := #[]) N₃ (.head _)) ?xp ?xq ?_ ?xs ?xt ?xz)
    case xp => exact .none
    case xq => exact .int _ _
    case xs => with_unfolding_all rfl
    case xt => intro _; with_unfolding_all rfl
    case xz => show 2 ≤ sizeLine; decide
    intro D₄ h₄ F₄ N₄ l₄
    obtain ⟨ms, hM1, hM2, hM3⟩ := pick_ints (its := #[Value.int 0 tk₂, Value.int 8 (tk₂ + 1)]) (lo := none) (hi := some M) (st := none) ((fa2 ⟨_, _, rfl, by decide, by decide⟩ ⟨_, _, rfl, by decide, by decide⟩))
    clear l₄ F₃ N₃
    have y1 : h₄.IsList D ys.toList.toArray := by rw [Array.toArray_toList]; exact ⟨_, (N₄ (D, { cls := .type "list", data := .seq ys c₂ }) (in2)).1, rfl, _, rfl⟩
    have y2 : h₄.IsList D₄ (slicePick #[Value.int 0 tk₂, Value.int 8 (tk₂ + 1)] none (some M) none).toList.toArray := by rw [Array.toArray_toList]; exact ⟨_, (N₄ _ (.head _)).1, rfl, _, rfl⟩
    have hsum : ys.toList.length + (slicePick #[Value.int 0 tk₂, Value.int 8 (tk₂ + 1)] none (some M) none).toList.length ≤ 18 := by
      have e1 := hR.length
      have e2 := hM1.length
      have e3 : ms.length ≤ 2 := hM3
      omega
    clear hP
    with_reducible refine add_D F₄ N₄ y1 y2 (Nat.le_trans hsum (by decide)) ?_
    intro DN h₅ F₅ N₅ l₅
    clear F₄ N₄ l₅ y1 y2
    have hN1 : IntsAre (ys.toList ++ (slicePick #[Value.int 0 tk₂, Value.int 8 (tk₂ + 1)] none (some M) none).toList) (rs ++ ms) := IntsAre.append hR hM1
    have hN2 : ∀ r ∈ rs ++ ms, 0 ≤ r ∧ r < 1000000 := fun r hr => (List.mem_append.mp hr).elim (hRb r) (hM2 r)
    have hN3 : (rs ++ ms).length ≤ 18 := by
      have e1 := hR.length
      have e2 := hM1.length
      rw [List.length_append]
      omega
    generalize rs ++ ms = nums at hN1 hN2 hN3
    generalize (ys.toList ++ (slicePick #[Value.int 0 tk₂, Value.int 8 (tk₂ + 1)] none (some M) none).toList) = nv at *
    have N₆ : News _ _ h₅ ((DN, listOf nv.toArray 0) :: (844, tabObj #[]) :: (505, tabObj #[]) :: (353, tabObj #[]) :: [(654, tabObj #[]), (469, tabObj #[])]) := News.sub N₅ ((fa6 (by k_mem) (by k_mem) (by k_mem) (by k_mem) (by k_mem) (by k_mem)))
    have hDq : DN ∉ ([(654, tabObj #[]), (469, tabObj #[])] : List (Addr × Obj)).map (·.1) := notin_cons (News.ne N₅ (.head _) (by k_mem : ((654, tabObj #[]) : Addr × Obj) ∈ _) (fun q => Value.noConfusion q)) (notin_cons (News.ne N₅ (.head _) (by k_mem : ((469, tabObj #[]) : Addr × Obj) ∈ _) (fun q => Value.noConfusion q)) notin_nil)
    clear N₅
    dsimp only
    walk1
    rename_i h₆ F₆ N₆
    refine law_tail (1 + claimMargin + 1) 7 (some []) fa cd callerA (ghostOf sB.heap [(848, 844), (658, 654), (509, 505), (473, 469), (357, 353)]) sB.heap.objs.size _ mg mb (ExcName.means sA.heap) _ _ _ DN nv nums ?hpart K' F₆ (if_pos rfl) X' T' [(654, tabObj #[]), (469, tabObj #[])] (by decide) hDq N₆ hN1 hN2 hN3 (by decide) (by decide) ?hE ?hQ
    case hpart => exact ⟨_, _, _, (congrArg lawParts (show (Mine.K39 wW.params).lookup 875 = some _ by k_is)).trans rfl⟩
    case hE => passes_own
    case hQ =>
      intro h₇ tk₇ y m₇ F₇ N₇
      k_steps
end
end Mine
end
open PySem PySem.W PyProof.Rows
theorem PySem.Challenge.cw_ac0032_01_holds : PySem.Challenge.rw_ac0032_01.Holds :=
  Mine.law_probe
