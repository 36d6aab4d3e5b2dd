import PyProof.Rows.All
import Wide.All
import OpenK.AllK
import Wide.FinOn
import PySem.Challenge.RW_sn0065_01
set_option Elab.async false
set_option maxRecDepth 100000
set_option compiler.extract_closed false
local macro_rules | `(tactic| omega) => `(tactic| first | lia | omega (config := {}))
namespace Mine
theorem X0.xx2 {p q : Prop} {G : Prop} (h : p ∧ q) (k : p → q → G) : G := let ⟨h0, h1⟩ := h; k h0 h1
theorem X1.xx2 {α : Sort u} {p : α → Prop} {G : Prop} (h : ∃ a, p a) (k : ∀ a, p a → G) : G := let ⟨a, h0⟩ := h; k a h0
theorem X0.xx3 {p q r : Prop} {G : Prop} (h : p ∧ q ∧ r) (k : p → q → r → G) : G := let ⟨h0, h1, h2⟩ := h; k h0 h1 h2
theorem X1.xx3 {α : Sort u} {p q : α → Prop} {G : Prop} (h : ∃ a, p a ∧ q a) (k : ∀ a, p a → q a → G) : G := let ⟨a, h0, h1⟩ := h; k a h0 h1
theorem X2.xx3 {α : Sort u} {β : Sort v} {p : α → β → Prop} {G : Prop} (h : ∃ a b, p a b) (k : ∀ a b, p a b → G) : G := let ⟨a, b, h0⟩ := h; k a b h0
theorem X0.xx4 {p q r s : Prop} {G : Prop} (h : p ∧ q ∧ r ∧ s) (k : p → q → r → s → G) : G := let ⟨h0, h1, h2, h3⟩ := h; k h0 h1 h2 h3
theorem X1.xx4 {α : Sort u} {p q r : α → Prop} {G : Prop} (h : ∃ a, p a ∧ q a ∧ r a) (k : ∀ a, p a → q a → r a → G) : G := let ⟨a, h0, h1, h2⟩ := h; k a h0 h1 h2
theorem X2.xx4 {α : Sort u} {β : Sort v} {p q : α → β → Prop} {G : Prop} (h : ∃ a b, p a b ∧ q a b) (k : ∀ a b, p a b → q a b → G) : G := let ⟨a, b, h0, h1⟩ := h; k a b h0 h1
theorem X3.xx4 {α : Sort u} {β : Sort v} {γ : Sort w} {p : α → β → γ → Prop} {G : Prop} (h : ∃ a b c, p a b c) (k : ∀ a b c, p a b c → G) : G := let ⟨a, b, c, h0⟩ := h; k a b c h0
theorem X0.xx5 {p q r s t : Prop} {G : Prop} (h : p ∧ q ∧ r ∧ s ∧ t) (k : p → q → r → s → t → G) : G := let ⟨h0, h1, h2, h3, h4⟩ := h; k h0 h1 h2 h3 h4
theorem X1.xx5 {α : Sort u} {p q r s : α → Prop} {G : Prop} (h : ∃ a, p a ∧ q a ∧ r a ∧ s a) (k : ∀ a, p a → q a → r a → s a → G) : G := let ⟨a, h0, h1, h2, h3⟩ := h; k a h0 h1 h2 h3
theorem X2.xx5 {α : Sort u} {β : Sort v} {p q r : α → β → Prop} {G : Prop} (h : ∃ a b, p a b ∧ q a b ∧ r a b) (k : ∀ a b, p a b → q a b → r a b → G) : G := let ⟨a, b, h0, h1, h2⟩ := h; k a b h0 h1 h2
theorem X3.xx5 {α : Sort u} {β : Sort v} {γ : Sort w} {p q : α → β → γ → Prop} {G : Prop} (h : ∃ a b c, p a b c ∧ q a b c) (k : ∀ a b c, p a b c → q a b c → G) : G := let ⟨a, b, c, h0, h1⟩ := h; k a b c h0 h1
theorem X4.xx5 {α : Sort u} {β : Sort v} {γ : Sort w} {δ : Sort x} {p : α → β → γ → δ → Prop} {G : Prop} (h : ∃ a b c d, p a b c d) (k : ∀ a b c d, p a b c d → G) : G := let ⟨a, b, c, d, h0⟩ := h; k a b c d h0
end Mine
open Mine.X0 Mine.X1 Mine.X2 Mine.X3 Mine.X4
local macro_rules
  | `(tactic| obtain ⟨$ps,*⟩ := $t) => do
    let mut ps := ps.getElems
    if ps.size < 2 then Lean.Macro.throwUnsupported
    let mut more : Array (Lean.TSyntax `tactic) := #[]
    if ps.size > 5 then
      let r := ps.extract 4 ps.size
      ps := (ps.extract 0 4).push (← `(Lean.Parser.Tactic.rcasesPatLo| ⟨$r,*⟩))
    let all := ps
    for i in [0:ps.size] do
      match ps[i]! with
      | `(Lean.Parser.Tactic.rcasesPatLo| ⟨$qs,*⟩) =>
        if qs.getElems.size > 1 then
          let h := Lean.mkIdent (.mkSimple ("part" ++ toString i))
          more := more.push (← `(tactic| obtain ⟨$qs,*⟩ := $h))
          ps := ps.set! i (← `(Lean.Parser.Tactic.rcasesPatLo| $h:ident))
      | _ => pure ()
    let x := Lean.mkIdent (.mkSimple ("xx" ++ toString ps.size))
    let rs ← ps.mapM fun p => `(rintroPat| ($p:rcasesPatLo))
    let all' ← more.foldlM (fun a m => `(tactic| $a:tactic <;> $m:tactic)) (← `(tactic| rintro $rs*))
    `(tactic| first | (refine no_implicit_lambda% ($x $t ?_); (try clear $t); $all':tactic) | rcases $t:term with ⟨$all,*⟩)
open PySem PySem.W PySem.Spec PySem.Calls PyProof.Rows
namespace Mine

noncomputable abbrev stAt (n : Nat) : Option Stmt := PySem.Challenge.pw_sn0065_01.main.body[n]?
noncomputable def fbody (n : Nat) : List Stmt := match stAt n with | some (.FunctionDef _ _ b ..) => b | _ => []
noncomputable def fparams (n : Nat) : Arguments := match stAt n with | some (.FunctionDef _ p ..) => p | _ => { posonlyargs := [], args := [], vararg := none, kwonlyargs := [], kw_defaults := [], kwarg := none, defaults := [] }
noncomputable def fscope (n : Nat) : Scope := match stAt n with | some (.FunctionDef _ _ _ _ _ _ s ..) => s | _ => { kind := .function, names := [], isGenerator := false, isCoroutine := false }

/-- a heap laid into a tree -/
noncomputable def treeOf : List Obj → Nat → BT → Option BT
  | [], _, t => some t
  | o :: r, i, t => match ((t.ins i o).get i).isSome with
    | true => treeOf r (i + 1) (t.ins i o)
    | false => none
theorem treeOf_abs (life : Life) : ∀ (l : List Obj) (i : Nat) (t t' : BT), treeOf l i t = some t' → absHeap t' (i + l.length) life = l.foldl Heap.push (absHeap t i life)
  | [], i, t, t', h => by cases h; rfl
  | o :: r, i, t, t', h => by
    unfold treeOf at h
    split at h
    · rename_i e
      have := treeOf_abs life r (i + 1) _ _ h
      rw [List.foldl_cons, ← absHeap_ins e, ← this, List.length_cons, Nat.add_right_comm]
      rfl
    · cases h
theorem push_all (life : Life) : ∀ (l : List Obj) (a : Array Obj), l.foldl Heap.push ⟨a, life⟩ = ⟨a ++ l.toArray, life⟩
  | [], a => by simp
  | o :: r, a => by
    rw [List.foldl_cons]
    have := push_all life r (a.push o)
    refine Eq.trans this ?_
    simp
noncomputable def toT (s : Shared) : Option SharedT := (treeOf s.heap.objs.toList 0 .nil).map fun t => ⟨t, s.heap.objs.size, s.heap.life, s.gens, s.drawn, s.toks, s.os⟩
theorem toT_abs {s : Shared} {S : SharedT} (h : toT s = some S) : S.abs = s := by
  obtain ⟨t, h2, e⟩ := Option.map_eq_some_iff.mp h
  clear h
  subst e
  have := treeOf_abs s.heap.life _ _ _ _ h2
  rw [show absHeap .nil 0 s.heap.life = ⟨#[], s.heap.life⟩ from rfl, push_all] at this
  obtain ⟨⟨objs, life⟩, gens, drawn, toks, os⟩ := s
  show Shared.mk _ _ _ _ _ = _
  congr 1
  simpa using this
noncomputable def topRunT (tb : String → Option Builtin) (p : Program) (w : World) (n₀ : Nat) (ann : Option Value) : Nat → SharedT → Thread → Option SharedT
  | 0, _, _ => none
  | n + 1, s, t => match through t with
    | true => some s
    | false => match stepOk n₀ ann t with
      | false => none
      | true => match stepT (denote tb) p w s t with
        | some (s', t') => topRunT tb p w n₀ ann n s' t'
        | none => none
theorem topRunT_of {tb : String → Option Builtin} {p : Program} {w : World} {n₀ : Nat} {ann : Option Value} : ∀ {n : Nat} {s s' : SharedT} {t : Thread}, topRunT tb p w n₀ ann n s t = some s' → topRun tb p w n₀ ann n s.abs t = some s'.abs
  | 0, _, _, _, h => by cases h
  | n + 1, s, s', t, h => by
    unfold topRunT at h
    unfold topRun
    cases ht : through t with
    | true => rw [ht] at h; cases h; rfl
    | false =>
      rw [ht] at h
      cases hk : stepOk n₀ ann t with
      | false => rw [hk] at h; cases h
      | true =>
        rw [hk] at h
        cases hs : stepT (denote tb) p w s t with
        | none => rw [hs] at h; cases h
        | some r => obtain ⟨s₂, t₂⟩ := r; rw [hs] at h; rw [stepT_spec hs]; exact topRunT_of h

theorem left_of {p q : Program} {loose : List Str} {Xt : Shared → Bool} {α : Type} {Yf : Shared → α} {Ya : World → α} {N : Nat} (row : String)
    (h : ∀ (w : World) (b : Bool), ∃ s₀, fencedOpening treeTable p w N = some s₀ ∧ (topFrom treeTable p (w.withFollow row b) N s₀).map (fun s => (openSeen q loose (importedModules p.main.body) Xt true s, Yf s)) = some (openGood q loose, Ya (w.withFollow row b))) : LeftO p q loose Xt Yf Ya N := by
  refine LeftO.of_split row fun w => ?_
  obtain ⟨s₀, a, b0⟩ := h w false
  obtain ⟨s₀', a', b1⟩ := h w true
  rw [a] at a'
  cases a'
  rw [a, Option.map_some, b0, b1]
end Mine
namespace Mine

/-- the objects that the law comes to, as the top leaves them -/
noncomputable def kE (P : Params) (x : String) (t : Nat) (v : Value) : DictEntry := ⟨PyData.keyHash P (.ofString x), .str (.ofString x) t, v⟩
noncomputable def kD (P : Params) (l : List (String × Nat × Value)) (n : Nat) : Obj := ⟨.type "dict", none, .dict (l.map fun e => kE P e.1 e.2.1 e.2.2).toArray n, #[]⟩
noncomputable def kF (n : Nat) (x m : String) (t : Nat) (dV kV : Value) (c : Addr) : Obj := ⟨.type "function", none, .func ⟨.ofString x, .ofString x, fparams n, .stmts (fbody n), fscope n, 3, [], dV, kV, .none, .str (.ofString m) t, none, .ref c, .none, 0⟩, #[]⟩
noncomputable def kC (x : String) (t l m kw r : Nat) (mid : Array Value) (u : Nat) : Obj := ⟨.type "code", none, .fields (#[.str (.ofString x) t, .str (.ofString x) (t + 1), .str (.ofString "/claim/cut.py") (t + 2), .int l 0, .int m 0, .int 0 0, .int kw 0, .int 3 0, .ref r, .bool true, .int 276 0, .ref (r + 1), .none] ++ mid ++ #[.int u 0, .int l 0, .str (.ofString "/claim/cut.py") (u + 1)]), #[]⟩
noncomputable def mainL : List (String × Nat × Value) := List.append (List.append [("__name__", 165, (.str (.ofString "law_sn0065_01") 693)), ("__doc__", 166, .none), ("__package__", 167, .none), ("__loader__", 168, (.builtin "__main__.__loader__#opaque")), ("__spec__", 169, .none), ("__annotations__", 170, (.ref 6)), ("__builtins__", 171, (.ref 4)), ("__file__", 173, (.str (.ofString "/claim/cut.py") 172)), ("__cached__", 174, .none), ("_sre", 275, (.ref 12)), ("insort_right", 296, (.ref 40)), ("bisect_right", 310, (.ref 49)), ("insort_left", 323, (.ref 58)), ("bisect_left", 337, (.ref 67)), ("_DIV_LIMIT", 341, (.int 4000 340)), ("_div2n1n", 358, (.ref 74)), ("_div3n2n", 372, (.ref 81)), ("_int2digits", 383, (.ref 88)), ("_digits2int", 394, (.ref 95)), ("_divmod_pos", 409, (.ref 102)), ("int_divmod", 419, (.ref 109)), ("_twin_re_1", 437, (.ref 114)), ("_twin_re_2", 479, (.ref 119)), ("CRLF", 481, (.str (.ofString "\x0d\n") 480)), ("quotedata", 488, (.ref 126)), ("ENDMARKER", 492, (.int 0 491))] ((["LPAR", "RPAR", "LSQB", "RSQB", "COLON", "COMMA", "SEMI", "PLUS", "MINUS", "STAR", "SLASH", "VBAR", "AMPER", "LESS", "GREATER", "EQUAL", "DOT", "PERCENT", "LBRACE", "RBRACE", "EQEQUAL", "NOTEQUAL", "LESSEQUAL", "GREATEREQUAL", "TILDE", "CIRCUMFLEX", "LEFTSHIFT", "RIGHTSHIFT", "DOUBLESTAR", "PLUSEQUAL", "MINEQUAL", "STAREQUAL", "SLASHEQUAL", "PERCENTEQUAL", "AMPEREQUAL", "VBAREQUAL", "CIRCUMFLEXEQUAL", "LEFTSHIFTEQUAL", "RIGHTSHIFTEQUAL", "DOUBLESTAREQUAL", "DOUBLESLASH", "DOUBLESLASHEQUAL", "AT", "ATEQUAL", "RARROW", "ELLIPSIS", "COLONEQUAL", "EXCLAMATION"].zipIdx 7).map (fun e => (e.1, 480 + 2 * e.2, .int e.2 (479 + 2 * e.2))))) [("EXACT_TOKEN_TYPES", 685, (.ref 127)), ("ISEOF", 692, (.ref 136)), ("_law_symbols", 704, (.ref 143)), ("_law_meant", 715, (.ref 150)), ("_law_streams", 724, (.ref 157)), ("_law_count", 731, (.ref 164)), ("_law_followed", 737, (.ref 169)), ("_law_joined", 743, (.ref 174)), ("law", 749, (.ref 179))]
noncomputable def o127 (P : Params) : Obj := kD P (([("!", 589, 54), ("!=", 591, 28), ("%", 593, 24), ("%=", 595, 40), ("&", 597, 19), ("&=", 599, 41), ("(", 601, 7), (")", 603, 8), ("*", 605, 16), ("**", 607, 35), ("**=", 609, 46), ("*=", 611, 38), ("+", 613, 14), ("+=", 615, 36), (",", 617, 12), ("-", 619, 15), ("-=", 621, 37), ("->", 623, 51), (".", 625, 23), ("...", 627, 52), ("/", 629, 17), ("//", 631, 47), ("//=", 633, 48), ("/=", 635, 39), (":", 637, 11), (":=", 639, 53), (";", 641, 13), ("<", 643, 20), ("<<", 645, 33), ("<<=", 647, 44), ("<=", 649, 29), ("=", 651, 22), ("==", 653, 27), (">", 655, 21), (">=", 657, 30), (">>", 658, 34), (">>=", 659, 45), ("@", 660, 49), ("@=", 661, 50), ("[", 662, 9), ("]", 663, 10), ("^", 664, 32), ("^=", 665, 43), ("{", 666, 25), ("|", 667, 18), ("|=", 668, 42), ("}", 669, 26), ("~", 670, 31)] : List (String × Nat × Nat)).map fun e => (e.1, e.2.1, .int e.2.2 (479 + 2 * e.2.2))) 48
noncomputable def kFrag (P : Params) : Frag := [
(3, kD P mainL 83),
(32, ⟨(.type "tuple"), .none, (.seq #[(.int 0 284), .none] 0), #[]⟩),
(33, ⟨(.type "dict"), .none, (.dict #[⟨(PyData.keyHash P (.ofString "key")), (.str (.ofString "key") 285), .none⟩] 1), #[]⟩),
(39, kC "insort_right" 286 3 4 1 34 #[(.ref 36), (.ref 37), (.ref 38)] 294),
(40, kF 2 "insort_right" "cpy313.bisect" 282 (.ref 32) (.ref 33) 39),
(41, ⟨(.type "tuple"), .none, (.seq #[(.int 0 297), .none] 0), #[]⟩),
(42, ⟨(.type "dict"), .none, (.dict #[⟨(PyData.keyHash P (.ofString "key")), (.str (.ofString "key") 298), .none⟩] 1), #[]⟩),
(48, kC "bisect_right" 299 9 4 1 43 #[(.ref 45), (.ref 46), (.ref 47)] 308),
(49, kF 3 "bisect_right" "cpy313.bisect" 282 (.ref 41) (.ref 42) 48),
(50, ⟨(.type "tuple"), .none, (.seq #[(.int 0 311), .none] 0), #[]⟩),
(51, ⟨(.type "dict"), .none, (.dict #[⟨(PyData.keyHash P (.ofString "key")), (.str (.ofString "key") 312), .none⟩] 1), #[]⟩),
(57, kC "insort_left" 313 29 4 1 52 #[(.ref 54), (.ref 55), (.ref 56)] 321),
(58, kF 4 "insort_left" "cpy313.bisect" 282 (.ref 50) (.ref 51) 57),
(59, ⟨(.type "tuple"), .none, (.seq #[(.int 0 324), .none] 0), #[]⟩),
(60, ⟨(.type "dict"), .none, (.dict #[⟨(PyData.keyHash P (.ofString "key")), (.str (.ofString "key") 325), .none⟩] 1), #[]⟩),
(66, kC "bisect_left" 326 35 4 1 61 #[(.ref 63), (.ref 64), (.ref 65)] 335),
(67, kF 5 "bisect_left" "cpy313.bisect" 282 (.ref 59) (.ref 60) 66),
(73, kC "_div2n1n" 342 57 3 0 68 #[(.ref 70), (.ref 71), (.ref 72)] 356),
(74, kF 8 "_div2n1n" "cpy313._pylong" 338 .none .none 73),
(87, kC "_int2digits" 373 83 2 0 82 #[(.ref 84), (.ref 85), (.ref 86)] 381),
(88, kF 10 "_int2digits" "cpy313._pylong" 338 .none .none 87),
(94, kC "_digits2int" 384 99 2 0 89 #[(.ref 91), (.ref 92), (.ref 93)] 392),
(95, kF 11 "_digits2int" "cpy313._pylong" 338 .none .none 94),
(101, kC "_divmod_pos" 395 108 2 0 96 #[(.ref 98), (.ref 99), (.ref 100)] 407),
(102, kF 12 "_divmod_pos" "cpy313._pylong" 338 .none .none 101),
(108, kC "int_divmod" 410 119 2 0 103 #[(.ref 105), (.ref 106), (.ref 107)] 417),
(109, kF 13 "int_divmod" "cpy313._pylong" 338 .none .none 108),
(113, ⟨(.type "tuple"), .none, (.seq #[(.int 14 0), (.int 4 0), (.int 0 0), (.int 1 0), (.int 1 0), (.int 6 0), (.int 1 0), (.int 16 0), (.int 46 0), (.int 1 0)] 0), #[]⟩),
(114, ⟨(.type "re.Pattern"), .none, (.fields #[(.str (.ofString "(?m)^\\.") 423), (.int 40 436), (.int 0 0), .none, .none, (.ref 113), (.int 0 0)]), #[]⟩),
(118, ⟨(.type "tuple"), .none, (.seq #[(.int 14 0), (.int 9 0), (.int 4 0), (.int 1 0), (.int 2 0), (.int 16 0), (.int 10 0), (.int 16 0), (.int 13 0), (.int 0 0), (.int 7 0), (.int 7 0), (.int 16 0), (.int 13 0), (.int 16 0), (.int 10 0), (.int 15 0), (.int 18 0), (.int 5 0), (.int 16 0), (.int 10 0), (.int 15 0), (.int 13 0), (.int 11 0), (.int 16 0), (.int 13 0), (.int 5 0), (.int 5 0), (.int 0 0), (.int 16 0), (.int 10 0), (.int 1 0), (.int 15 0), (.int 2 0), (.int 0 0), (.int 1 0)] 0), #[]⟩),
(119, ⟨(.type "re.Pattern"), .none, (.fields #[(.str (.ofString "(?:\\r\\n|\\n|\\r(?!\\n))") 439), (.int 32 478), (.int 0 0), .none, .none, (.ref 118), (.int 0 0)]), #[]⟩),
(125, kC "quotedata" 482 134 1 0 120 #[(.ref 122), (.ref 123), (.ref 124)] 486),
(126, kF 18 "quotedata" "cpy313.smtplib" 420 .none .none 125),
(127, o127 P),
(135, kC "ISEOF" 686 187 1 0 130 #[(.ref 132), (.ref 133), (.ref 134)] 690),
(136, kF 70 "ISEOF" "cpy313.token" 489 .none .none 135),
(142, kC "_law_symbols" 695 190 1 0 137 #[(.ref 139), (.ref 140), (.ref 141)] 702),
(143, kF 72 "_law_symbols" "law_sn0065_01" 693 .none .none 142),
(149, kC "_law_meant" 705 204 2 0 144 #[(.ref 146), (.ref 147), (.ref 148)] 713),
(150, kF 73 "_law_meant" "law_sn0065_01" 693 .none .none 149),
(156, kC "_law_streams" 716 214 1 0 151 #[(.ref 153), (.ref 154), (.ref 155)] 722),
(157, kF 74 "_law_streams" "law_sn0065_01" 693 .none .none 156),
(163, kC "_law_count" 725 222 1 0 158 #[(.ref 160), (.ref 161), (.ref 162)] 729),
(164, kF 75 "_law_count" "law_sn0065_01" 693 .none .none 163),
(168, kC "_law_followed" 732 224 4 0 165 #[.none, .none, (.ref 167)] 735),
(169, kF 76 "_law_followed" "law_sn0065_01" 693 .none .none 168),
(173, kC "_law_joined" 738 263 3 0 170 #[.none, .none, (.ref 172)] 741),
(174, kF 77 "_law_joined" "law_sn0065_01" 693 .none .none 173),
(178, kC "law" 744 270 1 0 175 #[.none, .none, (.ref 177)] 747),
(179, kF 78 "law" "law_sn0065_01" 693 .none .none 178)]
noncomputable def kAs : List Addr := [3, 32, 33, 39, 40, 41, 42, 48, 49, 50, 51, 57, 58, 59, 60, 66, 67, 73, 74, 87, 88, 94, 95, 101, 102, 108, 109, 113, 114, 118, 119, 125, 126, 127, 135, 136, 142, 143, 149, 150, 156, 157, 163, 164, 168, 169, 173, 174, 178, 179]
theorem kAs_eq (P : Params) : kAs = (kFrag P).map (·.1) := by kernel_rfl
noncomputable abbrev prg : Program := PySem.Challenge.rw_sn0065_01.row.prog
noncomputable def keptAt : List Nat := [0, 7, 8, 9, 10, 11, 12, 13, 15, 16, 17, 18, 20, 21, 22, 23, 24, 25, 26, 27, 28, 29, 30, 31, 32, 33, 34, 35, 36, 37, 38, 39, 40, 41, 42, 43, 44, 45, 46, 47, 48, 49, 50, 51, 52, 53, 54, 55, 56, 57, 58, 59, 60, 61, 62, 63, 64, 65, 66, 67, 68, 69, 70, 72, 73, 74, 75, 76, 77, 78]
noncomputable def vw : Program := PySem.W.view prg keptAt
noncomputable def looseN : List Str := ["insort_right", "bisect_right", "insort_left", "bisect_left", "_twin_re_1", "_twin_re_2", "EXACT_TOKEN_TYPES"].map .ofString
noncomputable def xt (s : Shared) : Bool := xlAt vw [] s && recOk (RowW.records PySem.Challenge.rw_sn0065_01.row.toRowW) s
noncomputable def hk : Hook := kmHook kFrag kAs kAs_eq [166, 90, 83]
end Mine
section
set_option maxRecDepth 1000000
set_option maxHeartbeats 0
namespace Mine
theorem said1 : namesResolve PySem.Challenge.rw_sn0065_01.row.prog = true := by kernel_rfl
theorem said2 : noRoadLSs { strict := !(importedModules PySem.Challenge.rw_sn0065_01.row.prog.main.body).all cThrough.contains, foot := none, bare := (["vars", "dir", "locals"] : List Str).filter (readsOut PySem.Challenge.rw_sn0065_01.row.prog PySem.Challenge.rw_sn0065_01.row.prog.main.body) } PySem.Challenge.rw_sn0065_01.row.prog.main.body = true := by kernel_rfl
theorem said3 : (namesMeet PySem.Challenge.rw_sn0065_01.row.prog PySem.Challenge.rw_sn0065_01.row.prog.main.body fun _ n => attrL n) = true := by kernel_rfl
theorem said4 : noRoadLSs { strict := true, foot := some PySem.Challenge.rw_sn0065_01.bound', writes := PySem.Challenge.rw_sn0065_01.writes, may := PySem.Challenge.rw_sn0065_01.may } PySem.Challenge.rw_sn0065_01.footing = true := by kernel_rfl
theorem said5 : PySem.Challenge.rw_sn0065_01.namesIt = true := by kernel_rfl
theorem said6 : ((moduleNames PySem.Challenge.rw_sn0065_01.row.prog.main.body).isEmpty || lookedIntoSs (moduleNames PySem.Challenge.rw_sn0065_01.row.prog.main.body) PySem.Challenge.rw_sn0065_01.row.prog.main.body) = true := by kernel_rfl
theorem said7 : namesMeet PySem.Challenge.rw_sn0065_01.prog PySem.Challenge.rw_sn0065_01.above (fun _ n => !PySem.Challenge.rw_sn0065_01.own.contains n) = true := by kernel_rfl
theorem said : PySem.Challenge.rw_sn0065_01.wellSaid = true := by
  unfold OpenLaw.wellSaid
  repeat' with_reducible apply look_both
  all_goals try unfold OpenRow.wellSaid
  repeat' with_reducible apply look_both
  all_goals try unfold OpenRow.partSaid
  repeat' with_reducible apply look_both
  all_goals try unfold looksOpen
  repeat' with_reducible apply look_both
  all_goals first
    | with_reducible exact said1
    | with_reducible exact said2
    | with_reducible exact said3
    | with_reducible exact said4
    | with_reducible exact said5
    | with_reducible exact said6
    | with_reducible exact said7
    | kernel_rfl
noncomputable def fpos (n : Nat) : Pos := match stAt n with | some (.FunctionDef _ _ _ _ _ _ _ _ _ p) => p | _ => default
noncomputable def lawD : DefRec := ⟨.ofString "law", fparams 78, fbody 78, fscope 78, fpos 78⟩
theorem at_def : defOf vw PySem.Challenge.rw_sn0065_01.row.name = some (lawD, []) := by kernel_rfl
theorem at_text : PySem.Challenge.rw_sn0065_01.row.prog.theDef PySem.Challenge.rw_sn0065_01.row.name = some (lawD.params, lawD.body, lawD.scope) := by kernel_rfl
theorem at_kw : kwWritten? lawD.params.kwonlyargs lawD.params.kw_defaults = some [] := by kernel_rfl
theorem at_wr : (!PySem.Challenge.rw_sn0065_01.row.writes || PySem.Challenge.rw_sn0065_01.row.records.isEmpty) = true := by kernel_rfl
theorem at_ok : (chainsOk vw && opensWell PySem.Challenge.rw_sn0065_01.row.prog && (frees PySem.Challenge.rw_sn0065_01.row.toRowW && PySem.Challenge.rw_sn0065_01.row.within.isEmpty)) = true := by kernel_rfl
theorem at_bare : PySem.Challenge.rw_sn0065_01.row.prog.bare := ⟨rfl, rfl, rfl, rfl, rfl, by decide +kernel⟩
end Mine
end
namespace Mine

/-- the heap behind the opening, in the midst of the top and behind it -/
noncomputable def kL (P : Params) (l : List (String × Nat × Value)) : Array DictEntry := (l.map fun e => kE P e.1 e.2.1 e.2.2).toArray
noncomputable def kT (l : List Value) : Obj := ⟨.type "tuple", none, .seq l.toArray 0, #[]⟩
noncomputable def kN (t : Nat) (l : List String) : Obj := kT ((l.zipIdx t).map fun e => .str (.ofString e.1) e.2)
noncomputable def kG (n : Nat) (x : String) : Obj := ⟨.none, none, .func ⟨.ofString x, .ofString x, fparams n, .stmts (fbody n), fscope n, 0, [], .none, .none, .none, .none, none, .none, .none, 0⟩, #[]⟩
noncomputable def e11 (f : String → Value → Value) : List (String × Nat × Value) := [("__name__", 247, (.str (.ofString "_sre") 246)), ("__doc__", 248, .none), ("__package__", 250, (.str (.ofString "") 249)), ("__loader__", 251, f "__loader__" (.ref 14)), ("__spec__", 252, f "__spec__" (.ref 26)), ("compile", 253, (.builtin "_sre.compile")), ("template", 254, f "template" (.builtin "_sre.template")), ("getcodesize", 255, f "getcodesize" (.builtin "_sre.getcodesize")), ("ascii_iscased", 256, f "ascii_iscased" (.builtin "_sre.ascii_iscased")), ("unicode_iscased", 257, f "unicode_iscased" (.builtin "_sre.unicode_iscased")), ("ascii_tolower", 258, f "ascii_tolower" (.builtin "_sre.ascii_tolower")), ("unicode_tolower", 259, f "unicode_tolower" (.builtin "_sre.unicode_tolower")), ("MAGIC", 261, (.int 20230612 260)), ("CODESIZE", 263, (.int 4 262)), ("MAXREPEAT", 265, (.int 4294967295 264)), ("MAXGROUPS", 267, (.int 1073741823 266)), ("copyright", 269, (.str (.ofString " SRE 2.2.2 Copyright (c) 1997-2002 by Secret Labs AB ") 268))]
noncomputable def e13 : List (String × Nat × Value) := [("__module__", 189, (.str (.ofString "_frozen_importlib") 186)), ("__firstlineno__", 190, (.int 971 187)), ("__doc__", 191, (.builtin "_frozen_importlib.BuiltinImporter.__doc__:str#opaque")), ("_ORIGIN", 192, (.str (.ofString "built-in") 188)), ("find_spec", 193, (.builtin "_frozen_importlib.BuiltinImporter.find_spec#opaque")), ("create_module", 194, (.builtin "_frozen_importlib.BuiltinImporter.create_module#opaque")), ("exec_module", 195, (.builtin "_frozen_importlib.BuiltinImporter.exec_module#opaque")), ("get_code", 196, (.builtin "_frozen_importlib.BuiltinImporter.get_code#opaque")), ("get_source", 197, (.builtin "_frozen_importlib.BuiltinImporter.get_source#opaque")), ("is_package", 198, (.builtin "_frozen_importlib.BuiltinImporter.is_package#opaque")), ("load_module", 199, (.builtin "_frozen_importlib.BuiltinImporter.load_module#opaque")), ("__static_attributes__", 200, (.ref 15)), ("__dict__", 202, (.ref 16)), ("__weakref__", 204, (.ref 17))]
noncomputable def e21 : List (String × Nat × Value) := [("__module__", 227, (.str (.ofString "_frozen_importlib") 217)), ("__firstlineno__", 228, (.int 562 218)), ("__doc__", 229, (.builtin "_frozen_importlib.ModuleSpec.__doc__:str#opaque")), ("__init__", 230, (.builtin "_frozen_importlib.ModuleSpec.__init__#opaque")), ("__repr__", 231, (.builtin "_frozen_importlib.ModuleSpec.__repr__#opaque")), ("__eq__", 232, (.builtin "_frozen_importlib.ModuleSpec.__eq__#opaque")), ("cached", 233, (.builtin "_frozen_importlib.ModuleSpec.cached#opaque")), ("parent", 234, (.builtin "_frozen_importlib.ModuleSpec.parent#opaque")), ("has_location", 235, (.builtin "_frozen_importlib.ModuleSpec.has_location#opaque")), ("__static_attributes__", 236, (.ref 23)), ("__dict__", 238, (.ref 24)), ("__weakref__", 240, (.ref 25)), ("__hash__", 241, .none)]
noncomputable def o1 (P : Params) : Obj := kD P [("builtins", 162, (.ref 4)), ("__main__", 163, (.ref 5)), ("_sre", 244, (.ref 12))] 3
noncomputable def o2 (P : Params) : Obj := ⟨.none, none, .dict (kL P [("\x69mport.loaded._sre", 183, (.bool .true)), ("class._frozen_importlib.BuiltinImporter", 185, (.ref 14)), ("watched.\x69mport", 206, (.ref 18)), ("class._frozen_importlib.ModuleSpec", 216, (.ref 22)), ("sys.modules.booked-epoch", 245, (.int 3 0)), ("\x69mport.later-laid._sre", 270, (.bool .true)), ("watched.library", 272, (.ref 27)), ("watched.library-objects", 0, (.str (.ofString "\x0c") 0)), ("watched.library-deep._sre", 273, (.str (.ofString "\x04\x00\x00\x0b\x04\x00\x00\x0b\x04\x00\x00\x03\x04\x00\x00\x0b\x08\x04dict\x02") 0))]) 9, #[]⟩
noncomputable def low (P : Params) : List Obj := [
boot_o_4 P,
boot_o_5 P,
boot_o_6 P,
boot_o_7 P,
boot_o_8 P,
boot_o_9 P,
boot_o_10 P,
kD P (e11 fun x _ => .builtin (fenceId (.ofString "_sre") (.ofString x))) 17,
⟨(.type "module"), (.some 11), .plain, #[]⟩,
kD P e13 14,
⟨(.type "type"), .none, (.cls ⟨(.ofString "BuiltinImporter"), [(.type "object")], [(.ref 14), (.type "object")], 13, (.ofString "BuiltinImporter"), .true, [], [], .false, .none, .false⟩), #[]⟩,
kT [],
⟨(.type "getset_descriptor"), .none, (.fields #[(.str (.ofString "__dict__") 201), (.ref 14), (.builtin "function.__dict__"), (.builtin "function.__dict__#set")]), #[]⟩,
⟨(.type "getset_descriptor"), .none, (.fields #[(.str (.ofString "__weakref__") 203), (.ref 14), (.builtin "ExceptionGroup.__weakref__"), .none]), #[]⟩,
⟨.none, none, .seq #[(.int 13 0), Builtin.packed (Builtin.flatEntries (kL P e13)), (.bool .true), (.bool .true), (.str (.ofString "") 205), (.int 21 0), Builtin.packed (Builtin.flatEntries (kL P e21)), (.bool .true), (.bool .true), (.str (.ofString "") 242)] 1, #[]⟩,
⟨(.type "list"), .none, (.seq #[] 0), #[]⟩,
kD P [("name", 208, (.str (.ofString "_sre") 207)), ("loader", 209, (.ref 14)), ("origin", 210, (.str (.ofString "built-in") 184)), ("loader_state", 211, .none), ("submodule_search_locations", 212, .none), ("_uninitialized_submodules", 213, (.ref 19)), ("_set_fileattr", 214, (.bool .false)), ("_cached", 215, .none), ("_initializing", 243, (.bool .false))] 9,
kD P e21 13,
⟨(.type "type"), .none, (.cls ⟨(.ofString "ModuleSpec"), [(.type "object")], [(.ref 22), (.type "object")], 21, (.ofString "ModuleSpec"), .true, [], [], .false, .none, .false⟩), #[]⟩,
kN 219 ["_cached", "_set_fileattr", "_uninitialized_submodules", "loader", "loader_state", "name", "origin", "submodule_search_locations"],
⟨(.type "getset_descriptor"), .none, (.fields #[(.str (.ofString "__dict__") 237), (.ref 22), (.builtin "function.__dict__"), (.builtin "function.__dict__#set")]), #[]⟩,
⟨(.type "getset_descriptor"), .none, (.fields #[(.str (.ofString "__weakref__") 239), (.ref 22), (.builtin "ExceptionGroup.__weakref__"), .none]), #[]⟩,
⟨(.ref 22), (.some 20), .plain, #[]⟩,
⟨.none, none, .seq #[(.int 11 0), Builtin.packed (Builtin.flatEntries (kL P (e11 fun _ v => v))), (.bool .true), (.bool .false), (.str (.ofString "_sre") 271)] 0, #[]⟩]
noncomputable def high (P : Params) : List Obj := [
⟨(.type "code"), .none, (.fields #[(.str (.ofString "<module>") 277), (.str (.ofString "<module>") 278), (.str (.ofString "/claim/cut.py") 279), (.int 1 0), (.int 0 0), (.int 0 0), (.int 0 0), (.int 0 0), (.ref 28), (.bool .false), (.int 276 0), (.ref 29), .none, .none, .none, .none, (.int 280 0), (.int 1 0), (.str (.ofString "/claim/cut.py") 281)]), #[]⟩,
⟨(.type "frame"), .none, .plain, #[(.some (.ref 30)), (.some (.ref 3)), (.some (.ref 3)), .none, (.some (.str (.ofString "__main__") 164)), .none, (.some (.ref 0))]⟩,
⟨(.type "tuple"), .none, (.seq #[(.int 0 284), .none] 0), #[]⟩,
⟨(.type "dict"), .none, (.dict #[⟨(PyData.keyHash P (.ofString "key")), (.str (.ofString "key") 285), .none⟩] 1), #[]⟩,
kT [],
tabObj #[],
kN 289 ["a", "x", "lo", "hi", "key"],
kT [],
kG 2 "insort_right",
kC "insort_right" 286 3 4 1 34 #[(.ref 36), (.ref 37), (.ref 38)] 294,
kF 2 "insort_right" "cpy313.bisect" 282 (.ref 32) (.ref 33) 39,
⟨(.type "tuple"), .none, (.seq #[(.int 0 297), .none] 0), #[]⟩,
⟨(.type "dict"), .none, (.dict #[⟨(PyData.keyHash P (.ofString "key")), (.str (.ofString "key") 298), .none⟩] 1), #[]⟩,
kT [],
tabObj #[],
kN 302 ["a", "x", "lo", "hi", "key", "mid"],
kT [],
kG 3 "bisect_right",
kC "bisect_right" 299 9 4 1 43 #[(.ref 45), (.ref 46), (.ref 47)] 308,
kF 3 "bisect_right" "cpy313.bisect" 282 (.ref 41) (.ref 42) 48,
⟨(.type "tuple"), .none, (.seq #[(.int 0 311), .none] 0), #[]⟩,
⟨(.type "dict"), .none, (.dict #[⟨(PyData.keyHash P (.ofString "key")), (.str (.ofString "key") 312), .none⟩] 1), #[]⟩,
kT [],
tabObj #[],
kN 316 ["a", "x", "lo", "hi", "key"],
kT [],
kG 4 "insort_left",
kC "insort_left" 313 29 4 1 52 #[(.ref 54), (.ref 55), (.ref 56)] 321,
kF 4 "insort_left" "cpy313.bisect" 282 (.ref 50) (.ref 51) 57,
⟨(.type "tuple"), .none, (.seq #[(.int 0 324), .none] 0), #[]⟩,
⟨(.type "dict"), .none, (.dict #[⟨(PyData.keyHash P (.ofString "key")), (.str (.ofString "key") 325), .none⟩] 1), #[]⟩,
kT [],
tabObj #[],
kN 329 ["a", "x", "lo", "hi", "key", "mid"],
kT [],
kG 5 "bisect_left",
kC "bisect_left" 326 35 4 1 61 #[(.ref 63), (.ref 64), (.ref 65)] 335,
kF 5 "bisect_left" "cpy313.bisect" 282 (.ref 59) (.ref 60) 66,
kT [],
tabObj #[],
kN 345 ["a", "b", "n", "pad", "half_n", "mask", "b1", "b2", "q1", "r", "q2"],
kT [],
kG 8 "_div2n1n",
kC "_div2n1n" 342 57 3 0 68 #[(.ref 70), (.ref 71), (.ref 72)] 356,
kF 8 "_div2n1n" "cpy313._pylong" 338 .none .none 73,
kT [],
tabObj #[],
kN 362 ["a12", "a3", "b", "b1", "b2", "n", "q", "r"],
kT [],
kG 9 "_div3n2n",
kC "_div3n2n" 359 73 6 0 75 #[(.ref 77), (.ref 78), (.ref 79)] 370,
kF 9 "_div3n2n" "cpy313._pylong" 338 .none .none 80,
kT [],
tabObj #[],
kN 376 ["a", "n"],
kN 378 ["n", "a_digits", "inner"],
kG 10 "_int2digits",
kC "_int2digits" 373 83 2 0 82 #[(.ref 84), (.ref 85), (.ref 86)] 381,
kF 10 "_int2digits" "cpy313._pylong" 338 .none .none 87,
kT [],
tabObj #[],
kN 387 ["digits", "n"],
kN 389 ["digits", "n", "inner"],
kG 11 "_digits2int",
kC "_digits2int" 384 99 2 0 89 #[(.ref 91), (.ref 92), (.ref 93)] 392,
kF 11 "_digits2int" "cpy313._pylong" 338 .none .none 94,
kT [],
tabObj #[],
kN 398 ["a", "b", "n", "a_digits", "r", "q_digits", "a_digit", "q_digit", "q"],
kT [],
kG 12 "_divmod_pos",
kC "_divmod_pos" 395 108 2 0 96 #[(.ref 98), (.ref 99), (.ref 100)] 407,
kF 12 "_divmod_pos" "cpy313._pylong" 338 .none .none 101,
kT [],
tabObj #[],
kN 413 ["a", "b", "q", "r"],
kT [],
kG 13 "int_divmod",
kC "int_divmod" 410 119 2 0 103 #[(.ref 105), (.ref 106), (.ref 107)] 417,
kF 13 "int_divmod" "cpy313._pylong" 338 .none .none 108,
⟨(.type "list"), .none, (.seq #[(.int 14 425), (.int 4 426), (.int 0 427), (.int 1 428), (.int 1 429), (.int 6 430), (.int 1 431), (.int 16 432), (.int 46 433), (.int 1 434)] 0), #[]⟩,
⟨(.type "dict"), .none, (.dict #[] 0), #[]⟩,
⟨(.type "tuple"), .none, (.seq #[.none] 0), #[]⟩,
⟨(.type "tuple"), .none, (.seq #[(.int 14 0), (.int 4 0), (.int 0 0), (.int 1 0), (.int 1 0), (.int 6 0), (.int 1 0), (.int 16 0), (.int 46 0), (.int 1 0)] 0), #[]⟩,
⟨(.type "re.Pattern"), .none, (.fields #[(.str (.ofString "(?m)^\\.") 423), (.int 40 436), (.int 0 0), .none, .none, (.ref 113), (.int 0 0)]), #[]⟩,
⟨(.type "list"), .none, (.seq #[(.int 14 441), (.int 9 442), (.int 4 443), (.int 1 444), (.int 2 445), (.int 16 446), (.int 10 447), (.int 16 448), (.int 13 449), (.int 0 450), (.int 7 451), (.int 7 452), (.int 16 453), (.int 13 454), (.int 16 455), (.int 10 456), (.int 15 457), (.int 18 458), (.int 5 459), (.int 16 460), (.int 10 461), (.int 15 462), (.int 13 463), (.int 11 464), (.int 16 465), (.int 13 466), (.int 5 467), (.int 5 468), (.int 0 469), (.int 16 470), (.int 10 471), (.int 1 472), (.int 15 473), (.int 2 474), (.int 0 475), (.int 1 476)] 0), #[]⟩,
⟨(.type "dict"), .none, (.dict #[] 0), #[]⟩,
⟨(.type "tuple"), .none, (.seq #[.none] 0), #[]⟩,
⟨(.type "tuple"), .none, (.seq #[(.int 14 0), (.int 9 0), (.int 4 0), (.int 1 0), (.int 2 0), (.int 16 0), (.int 10 0), (.int 16 0), (.int 13 0), (.int 0 0), (.int 7 0), (.int 7 0), (.int 16 0), (.int 13 0), (.int 16 0), (.int 10 0), (.int 15 0), (.int 18 0), (.int 5 0), (.int 16 0), (.int 10 0), (.int 15 0), (.int 13 0), (.int 11 0), (.int 16 0), (.int 13 0), (.int 5 0), (.int 5 0), (.int 0 0), (.int 16 0), (.int 10 0), (.int 1 0), (.int 15 0), (.int 2 0), (.int 0 0), (.int 1 0)] 0), #[]⟩,
⟨(.type "re.Pattern"), .none, (.fields #[(.str (.ofString "(?:\\r\\n|\\n|\\r(?!\\n))") 439), (.int 32 478), (.int 0 0), .none, .none, (.ref 118), (.int 0 0)]), #[]⟩,
kT [],
tabObj #[],
kN 485 ["data"],
kT [],
kG 18 "quotedata",
kC "quotedata" 482 134 1 0 120 #[(.ref 122), (.ref 123), (.ref 124)] 486,
kF 18 "quotedata" "cpy313.smtplib" 420 .none .none 125,
o127 P,
kD P [("->", 623, (.int 51 581)), (".", 625, (.int 23 525)), ("...", 627, (.int 52 583)), ("/", 629, (.int 17 513)), ("//", 631, (.int 47 573)), ("//=", 633, (.int 48 575)), ("/=", 635, (.int 39 557)), (":", 637, (.int 11 501)), (":=", 639, (.int 53 585)), (";", 641, (.int 13 505)), ("<", 643, (.int 20 519)), ("<<", 645, (.int 33 545)), ("<<=", 647, (.int 44 567)), ("<=", 649, (.int 29 537)), ("=", 651, (.int 22 523)), ("==", 653, (.int 27 533)), (">", 655, (.int 21 521))] 17,
kD P [(">=", 657, (.int 30 539)), (">>", 658, (.int 34 547)), (">>=", 659, (.int 45 569)), ("@", 660, (.int 49 577)), ("@=", 661, (.int 50 579)), ("[", 662, (.int 9 497)), ("]", 663, (.int 10 499)), ("^", 664, (.int 32 543)), ("^=", 665, (.int 43 565)), ("{", 666, (.int 25 529)), ("|", 667, (.int 18 515)), ("|=", 668, (.int 42 563)), ("}", 669, (.int 26 531)), ("~", 670, (.int 31 541))] 14,
kT [],
tabObj #[],
kN 689 ["x"],
kT [],
kG 70 "ISEOF",
kC "ISEOF" 686 187 1 0 130 #[(.ref 132), (.ref 133), (.ref 134)] 690,
kF 70 "ISEOF" "cpy313.token" 489 .none .none 135,
kT [],
tabObj #[],
kN 698 ["text", "symbols", "place", "size"],
kT [],
kG 72 "_law_symbols",
kC "_law_symbols" 695 190 1 0 137 #[(.ref 139), (.ref 140), (.ref 141)] 702,
kF 72 "_law_symbols" "law_sn0065_01" 693 .none .none 142,
kT [],
tabObj #[],
kN 708 ["row", "dots", "symbols", "run", "symbol"],
kT [],
kG 73 "_law_meant",
kC "_law_meant" 705 204 2 0 144 #[(.ref 146), (.ref 147), (.ref 148)] 713,
kF 73 "_law_meant" "law_sn0065_01" 693 .none .none 149,
kT [],
tabObj #[],
kN 719 ["symbols", "streams", "symbol"],
kT [],
kG 74 "_law_streams",
kC "_law_streams" 716 214 1 0 151 #[(.ref 153), (.ref 154), (.ref 155)] 722,
kF 74 "_law_streams" "law_sn0065_01" 693 .none .none 156,
kT [],
tabObj #[],
kN 728 ["entry"],
kT [],
kG 75 "_law_count",
kC "_law_count" 725 222 1 0 158 #[(.ref 160), (.ref 161), (.ref 162)] 729,
kF 75 "_law_count" "law_sn0065_01" 693 .none .none 163,
kT [],
tabObj #[],
kG 76 "_law_followed",
kC "_law_followed" 732 224 4 0 165 #[.none, .none, (.ref 167)] 735,
kF 76 "_law_followed" "law_sn0065_01" 693 .none .none 168,
kT [],
tabObj #[],
kG 77 "_law_joined",
kC "_law_joined" 738 263 3 0 170 #[.none, .none, (.ref 172)] 741,
kF 77 "_law_joined" "law_sn0065_01" 693 .none .none 173,
kT [],
tabObj #[],
kG 78 "law",
kC "law" 744 270 1 0 175 #[.none, .none, (.ref 177)] 747,
kF 78 "law" "law_sn0065_01" 693 .none .none 178]
noncomputable def codesAt : List (Nat × Nat) := [(3, 39), (9, 48), (29, 57), (35, 66), (57, 73), (73, 80), (83, 87), (99, 94), (108, 101), (119, 108), (134, 125), (187, 135), (190, 142), (204, 149), (214, 156), (222, 163), (224, 168), (263, 173), (270, 178)]
/-- the heap with m + 1 names at the top (the module called x), j codes and 30 + n objects -/
noncomputable def hm (x : String) (t m j n : Nat) (P : Params) : Heap := ⟨(boot_o_0 P :: o1 P :: o2 P :: kD P (("__name__", 165, .str (.ofString x) t) :: (mainL.drop 1).take m) (m + 1) :: (low P ++ kT [] :: ⟨.none, none, .fields ((codesAt.take j).flatMap fun e => [.int e.1 0, .int 0 0, .ref e.2]).toArray, #[]⟩ :: (high P).take n)).toArray, {}⟩
noncomputable def h0 (P : Params) : Heap := ⟨(boot_o_0 P :: o1 P :: o2 P :: kD P (("__name__", 165, (.str (.ofString "__main__") 164)) :: (mainL.drop 1).take 9) 10 :: low P).toArray, {}⟩
noncomputable def h1 (P : Params) : Heap := hm "law_sn0065_01" 693 82 19 150 P
end Mine
section
set_option maxRecDepth 1000000
set_option maxHeartbeats 0
namespace Mine
theorem open0 (w : World) : (fencedOpening treeTable prg w 4644).map (fun s => (s.heap, s.gens, s.drawn, s.toks)) = some (h0 w.params, #[], {}, 276) := by kernel_rfl
theorem size0 (w : World) : ((h0 w.params).isNs mainGlobals && (#[] : Array GenState).size == 0, (h0 w.params).objs.size, (h0 w.params).nsMap mainGlobals "__annotations__") = (true, 28, some (.ref 6)) := by kernel_rfl

noncomputable def tops : List Stmt := behindTheImports prg
noncomputable def topE : Env := { scope := prg.main.scope, locals := mainNs, globals := mainNs, cells := [], code := .ref 30, frame := some 31 }
noncomputable abbrev topC : Code := .body tops topE
noncomputable def partOf (l : List Stmt) (p : Pos) : Thread := piecesOf l topE topC p [topFrame ⟨0, 0, 0, 0⟩]
/-- a part of the top, run by the tree -/
noncomputable def partEnds (w : World) (os : OsState) (n : Nat) (H : Heap) (k : Nat) (t : Thread) : Option (Flow × Shared × Code × Pos) :=
  (toT ⟨H, #[], {}, k, os⟩).bind fun S => (segRunT treeTable prg w 28 (some (.ref 6)) 1 n S t).map fun r => (r.1, r.2.1.abs, r.2.2)
theorem partEnds_of {w : World} {os : OsState} {n : Nat} {H : Heap} {k : Nat} {t : Thread} {f : Flow} {s : Shared} {c : Code × Pos} (h : partEnds w os n H k t = some (f, s, c)) :
    segRun treeTable prg w 28 (some (.ref 6)) 1 n ⟨H, #[], {}, k, os⟩ t = some (f, s, c) := by
  obtain ⟨S, h1, h⟩ := Option.bind_eq_some_iff.mp h
  obtain ⟨⟨f', S₁, c'⟩, h2, h⟩ := Option.map_eq_some_iff.mp h
  cases h
  have := segRun_of h2
  rwa [toT_abs h1] at this
theorem run0 (w : World) (os : OsState) : topGo treeTable prg w 28 (some (.ref 6)) 12 ⟨h0 w.params, #[], {}, 276, os⟩ (topStub prg) = some (⟨hm "__main__" 164 9 0 2 w.params, #[], {}, 282, os⟩, ⟨denote treeTable topC, topC, ⟨0, 0, 0, 0⟩, [topFrame ⟨0, 0, 0, 0⟩]⟩) := by kernel_rfl
theorem run1 (w : World) (os : OsState) : partEnds w os 1 (hm "__main__" 164 9 0 2 w.params) 282 (blockOf tops topE topC ⟨0, 0, 0, 0⟩ [topFrame ⟨0, 0, 0, 0⟩]) = some (.next, ⟨hm "__main__" 164 9 0 2 w.params, #[], {}, 282, os⟩, topC, ⟨0, 0, 0, 0⟩) := by kernel_rfl
theorem run2 (w : World) (os : OsState) : partEnds w os 800 (hm "__main__" 164 9 0 2 w.params) 282 (partOf (tops.take 18) ⟨0, 0, 0, 0⟩) = some (.next, ⟨hm "cpy313.smtplib" 420 24 11 97 w.params, #[], {}, 489, os⟩, topC, ⟨134, 0, 135, 59⟩) := by kernel_rfl
theorem run3 (w : World) (os : OsState) : partEnds w os 600 (hm "cpy313.smtplib" 420 24 11 97 w.params) 489 (partOf ((tops.drop 18).take 50) ⟨134, 0, 135, 59⟩) = some (.next, ⟨hm "cpy313.token" 489 73 11 97 w.params, #[], {}, 589, os⟩, topC, ⟨185, 0, 185, 11⟩) := by kernel_rfl
theorem run4a (w : World) (os : OsState) : partEnds (w.withFollow "special-get-raises" false) os 1000 (hm "cpy313.token" 489 73 11 97 w.params) 589 (partOf (((tops.drop 18).drop 50).take 1) ⟨185, 0, 185, 11⟩) = some (.next, ⟨hm "cpy313.token" 489 74 11 100 w.params, #[], {}, 686, os⟩, topC, ⟨186, 0, 186, 17⟩) := by kernel_rfl
theorem run4b (w : World) (os : OsState) : partEnds (w.withFollow "special-get-raises" true) os 1000 (hm "cpy313.token" 489 73 11 97 w.params) 589 (partOf (((tops.drop 18).drop 50).take 1) ⟨185, 0, 185, 11⟩) = some (.next, ⟨hm "cpy313.token" 489 74 11 100 w.params, #[], {}, 686, os⟩, topC, ⟨186, 0, 186, 17⟩) := by kernel_rfl
theorem run5 (w : World) (os : OsState) : partEnds w os 400 (hm "cpy313.token" 489 74 11 100 w.params) 686 (partOf (((tops.drop 18).drop 50).drop 1) ⟨186, 0, 186, 17⟩) = some (.next, ⟨h1 w.params, #[], {}, 750, os⟩, topC, ⟨270, 0, 299, 15⟩) := by kernel_rfl
theorem run6 (w : World) (os : OsState) : topRun treeTable prg w 28 (some (.ref 6)) 2 ⟨h1 w.params, #[], {}, 750, os⟩ ⟨doneF .next, topC, ⟨270, 0, 299, 15⟩, [topFrame ⟨0, 0, 0, 0⟩]⟩ = some ⟨h1 w.params, #[], {}, 750, os⟩ := by kernel_rfl
theorem cut4 {α : Type} (b : List α) (i j k : Nat) : b = b.take i ++ ((b.drop i).take j ++ (((b.drop i).drop j).take k ++ (((b.drop i).drop j).drop k ++ []))) := by
  rw [List.append_nil, List.take_append_drop, List.take_append_drop, List.take_append_drop]
theorem run4 (w : World) (os : OsState) : partEnds w os 1000 (hm "cpy313.token" 489 73 11 97 w.params) 589 (partOf (((tops.drop 18).drop 50).take 1) ⟨185, 0, 185, 11⟩) = some (.next, ⟨hm "cpy313.token" 489 74 11 100 w.params, #[], {}, 686, os⟩, topC, ⟨186, 0, 186, 17⟩) :=
  byRow2 "special-get-raises" (P := fun w => partEnds w os 1000 (hm "cpy313.token" 489 73 11 97 w.params) 589 (partOf (((tops.drop 18).drop 50).take 1) ⟨185, 0, 185, 11⟩) = some (.next, ⟨hm "cpy313.token" 489 74 11 100 w.params, #[], {}, 686, os⟩, topC, ⟨186, 0, 186, 17⟩)) (fun w => run4a w os) (fun w => run4b w os) w
theorem runs (w : World) (os : OsState) : topRun treeTable prg w 28 (some (.ref 6)) (12 + (1 + (800 + (600 + (1000 + (400 + 2)))))) ⟨h0 w.params, #[], {}, 276, os⟩ (topStub prg) = some ⟨h1 w.params, #[], {}, 750, os⟩ := by
  refine go_top (run0 w os) (piece_block (partEnds_of (run1 w os)) ?_)
  rw [cut4 tops 18 50 1]
  exact piece_app (partEnds_of (run2 w os)) (piece_app (partEnds_of (run3 w os)) (piece_app (partEnds_of (run4 w os)) (piece_app (partEnds_of (run5 w os)) (piece_nil (run6 w os)))))
section
variable (w : World) (os : OsState)
theorem look1 : (staticsOk (importedModules prg.main.body) (h0 w.params) (h1 w.params) && namesBound prg (h1 w.params) && gensDone (⟨h1 w.params, #[], {}, 750, os⟩ : Shared) && laidKept (h0 w.params) (h1 w.params)) = true := by kernel_rfl
theorem look2 : seen ((recsOf vw).map (·.name)) (ownsOf vw) [] { (⟨h1 w.params, #[], {}, 750, os⟩ : Shared) with gens := #[] } = expectedOf vw := by kernel_rfl
theorem look3 : (⟨h1 w.params, #[], {}, 750, os⟩ : Shared).heap.keysOk (looseW vw looseN) ((recsOf vw).map (·.name)) ((litsOf vw).map (·.1)) ((clssOf vw (looseW vw looseN)).map (·.name)) = true := by kernel_rfl
theorem look4 : tablesOk vw (⟨h1 w.params, #[], {}, 750, os⟩ : Shared).heap = true := by kernel_rfl
theorem look5 : tabsOk vw (⟨h1 w.params, #[], {}, 750, os⟩ : Shared) = true := by kernel_rfl
theorem look6 : pinSeenD vw (drecsOf vw) (⟨h1 w.params, #[], {}, 750, os⟩ : Shared) = pinGoodD (drecsOf vw) := by kernel_rfl
theorem look7 : xt (⟨h1 w.params, #[], {}, 750, os⟩ : Shared) = true := by kernel_rfl
theorem look8 : wideSeen vw (⟨h1 w.params, #[], {}, 750, os⟩ : Shared) = wideGood vw := by kernel_rfl
theorem look9 : clsSeenW vw looseN (⟨h1 w.params, #[], {}, 750, os⟩ : Shared) = clsGoodW vw looseN := by kernel_rfl
theorem look10 : hk.obs (⟨h1 w.params, #[], {}, 750, os⟩ : Shared) = hk.val w := by kernel_rfl
theorem looks : ((staticsOk (importedModules prg.main.body) (h0 w.params) (h1 w.params) && namesBound prg (h1 w.params) && gensDone (⟨h1 w.params, #[], {}, 750, os⟩ : Shared) && laidKept (h0 w.params) (h1 w.params)),
    openSeen vw looseN (importedModules prg.main.body) xt true (⟨h1 w.params, #[], {}, 750, os⟩ : Shared), hk.obs (⟨h1 w.params, #[], {}, 750, os⟩ : Shared)) = (true, openGood vw looseN, hk.val w) := by
  unfold openSeen openGood
  exact looks_pair (look1 w os) (looks_pair (looks_pair (look2 w os) (looks_pair (by kernel_rfl) (looks_pair (look_both (look_both (look_both (look_both (look_both (look_both (look3 w os) (by kernel_rfl)) (by kernel_rfl)) (by kernel_rfl)) (look4 w os)) (look7 w os)) rfl)
    (looks_pair (look5 w os) (looks_pair (look6 w os) (looks_pair (by kernel_rfl) (looks_pair (by kernel_rfl) (looks_pair (look8 w os) (look9 w os))))))))) (look10 w os))
end
theorem left : LeftO prg vw looseN xt hk.obs hk.val 4644 := LeftO.of_pieces open0 size0 runs rfl fun w => funext fun os => looks w os
end Mine
end
namespace Mine

/-- the three code tables that the law's run may grow -/
noncomputable abbrev tabs : List Addr := [166, 90, 83]
noncomputable abbrev LObj (vs : List Value) (n : Nat) : Obj := { cls := .type "list", data := .seq vs.toArray n }
noncomputable abbrev TObj (vs : List Value) (n : Nat) : Obj := { cls := .type "tuple", data := .seq vs.toArray n }

/-- values by value -/
inductive AV where
  | val (v : Value)
  | int (i : Int)
  | str (s : Str)
  | tup (l : List Int)
  | list (l : List AV)
  | dictI (l : List (Int × Int))
  | dictS (l : List (Int × Str))

inductive KI : List (Int × Value) → List (Int × Int) → Prop
  | nil : KI [] []
  | cons (k i : Int) (t : Tok) {kvs : List (Int × Value)} {l : List (Int × Int)} : KI kvs l → KI ((k, .int i t) :: kvs) ((k, i) :: l)
inductive KS : List (Int × Value) → List (Int × Str) → Prop
  | nil : KS [] []
  | cons (k : Int) (x : Str) (t : Tok) {kvs : List (Int × Value)} {l : List (Int × Str)} : KS kvs l → KS ((k, .str x t) :: kvs) ((k, x) :: l)

mutual
inductive VR (prog : Program) (w : World) (V : Addr → Prop) (h : Heap) : Value → AV → Prop
  | val (v : Value) : VR prog w V h v (.val v)
  | int (i : Int) (t : Tok) : VR prog w V h (.int i t) (.int i)
  | str (x : Str) (t : Tok) : VR prog w V h (.str x t) (.str x)
  | tup {a : Addr} {vs : List Value} {n : Nat} {l : List Int} : ¬ V a → h.get? a = some (TObj vs n) → IntsAre vs l → VR prog w V h (.ref a) (.tup l)
  | list {a : Addr} {vs : List Value} {n : Nat} {l : List AV} : ¬ V a → h.get? a = some (LObj vs n) → VRs prog w V h vs l → VR prog w V h (.ref a) (.list l)
  | dictI {a : Addr} {kvs : List (Int × Value)} {l : List (Int × Int)} : ¬ V a → h.DictOf (intKind prog w) a kvs → KI kvs l → VR prog w V h (.ref a) (.dictI l)
  | dictS {a : Addr} {kvs : List (Int × Value)} {l : List (Int × Str)} : ¬ V a → h.DictOf (intKind prog w) a kvs → KS kvs l → VR prog w V h (.ref a) (.dictS l)
inductive VRs (prog : Program) (w : World) (V : Addr → Prop) (h : Heap) : List Value → List AV → Prop
  | nil : VRs prog w V h [] []
  | cons {v : Value} {a : AV} {vs : List Value} {as : List AV} : VR prog w V h v a → VRs prog w V h vs as → VRs prog w V h (v :: vs) (a :: as)
end

theorem VR.change {prog : Program} {w : World} {V V' : Addr → Prop} {h h' : Heap} {v : Value} {a : AV}
    (hk : ∀ b o, h.get? b = some o → ¬ V b → h'.get? b = some o ∧ ¬ V' b) (r : VR prog w V h v a) : VR prog w V' h' v a := by
  have dict : ∀ {a : Addr} {kvs : List (Int × Value)}, ¬ V a → h.DictOf (intKind prog w) a kvs → ¬ V' a ∧ h'.DictOf (intKind prog w) a kvs := fun {a kvs} hV ⟨o, es, ep, ho, rr⟩ => ⟨(hk _ _ ho hV).2, o, es, ep, (hk _ _ ho hV).1, rr⟩
  refine VR.rec (motive_1 := fun v a _ => VR prog w V' h' v a) (motive_2 := fun vs as _ => VRs prog w V' h' vs as) ?_ ?_ ?_ ?_ ?_ ?_ ?_ ?_ ?_ r
  · exact fun v => .val v
  · exact fun i t => .int i t
  · exact fun x t => .str x t
  · exact fun hV ho hi => .tup (hk _ _ ho hV).2 (hk _ _ ho hV).1 hi
  · exact fun hV ho _ ih => .list (hk _ _ ho hV).2 (hk _ _ ho hV).1 ih
  · exact fun hV hd hi => .dictI (dict hV hd).1 (dict hV hd).2 hi
  · exact fun hV hd hi => .dictS (dict hV hd).1 (dict hV hd).2 hi
  · exact .nil
  · exact fun _ _ h1 h2 => .cons h1 h2
theorem ofLen1 {α : Type} {vs : List α} (h : vs.length = 1) : ∃ a, vs = [a] := by
  match vs, h with
  | [a], _ => exact ⟨a, rfl⟩
theorem ofLen2 {α : Type} {vs : List α} (h : vs.length = 2) : ∃ a b, vs = [a, b] := by
  match vs, h with
  | [a, b], _ => exact ⟨a, b, rfl⟩
theorem ofLen3 {α : Type} {vs : List α} (h : vs.length = 3) : ∃ a b c, vs = [a, b, c] := by
  match vs, h with
  | [a, b, c], _ => exact ⟨a, b, c, rfl⟩
theorem ofLen4 {α : Type} {vs : List α} (h : vs.length = 4) : ∃ a b c d, vs = [a, b, c, d] := by
  match vs, h with
  | [a, b, c, d], _ => exact ⟨a, b, c, d, rfl⟩
theorem ofLen5 {α : Type} {vs : List α} (h : vs.length = 5) : ∃ a b c d e, vs = [a, b, c, d, e] := by
  match vs, h with
  | [a, b, c, d, e], _ => exact ⟨a, b, c, d, e, rfl⟩
theorem VRs.inv {prog : Program} {w : World} {V : Addr → Prop} {h : Heap} {vs : List Value} {a : AV} {as : List AV} (r : VRs prog w V h vs (a :: as)) : ∃ v vs', vs = v :: vs' ∧ VR prog w V h v a ∧ VRs prog w V h vs' as := by
  cases r with
  | cons h1 h2 => exact ⟨_, _, rfl, h1, h2⟩
theorem VRs.inv0 {prog : Program} {w : World} {V : Addr → Prop} {h : Heap} {vs : List Value} (r : VRs prog w V h vs []) : vs = [] := by
  cases r; rfl
theorem VRs.change {prog : Program} {w : World} {V V' : Addr → Prop} {h h' : Heap} (hk : ∀ b o, h.get? b = some o → ¬ V b → h'.get? b = some o ∧ ¬ V' b) :
    ∀ {vs : List Value} {as : List AV}, VRs prog w V h vs as → VRs prog w V' h' vs as := by
  intro vs as r
  induction as generalizing vs with
  | nil => rw [r.inv0]; exact .nil
  | cons a as ih =>
    obtain ⟨v, vs', rfl, h1, h2⟩ := r.inv
    exact .cons (h1.change hk) (ih h2)
theorem VRs.length {prog : Program} {w : World} {V : Addr → Prop} {h : Heap} : ∀ {vs : List Value} {as : List AV}, VRs prog w V h vs as → vs.length = as.length := by
  intro vs as r
  induction as generalizing vs with
  | nil => rw [r.inv0]; rfl
  | cons a as ih =>
    obtain ⟨v, vs', rfl, h1, h2⟩ := r.inv
    exact congrArg (· + 1) (ih h2)
theorem VRs.get {prog : Program} {w : World} {V : Addr → Prop} {h : Heap} : ∀ {vs : List Value} {as : List AV}, VRs prog w V h vs as → ∀ {i : Nat} {a : AV}, as[i]? = some a → ∃ v, vs[i]? = some v ∧ VR prog w V h v a
 := by
  intro vs as r
  induction as generalizing vs with
  | nil => intro i a e; cases e
  | cons a as ih =>
    obtain ⟨v, vs', rfl, h1, h2⟩ := r.inv
    intro i a e
    cases i with
    | zero => cases e; exact ⟨_, rfl, h1⟩
    | succ i => exact ih h2 (i := i) e
theorem VRs.append {prog : Program} {w : World} {V : Addr → Prop} {h : Heap} : ∀ {vs : List Value} {as : List AV} {vs' : List Value} {as' : List AV}, VRs prog w V h vs as → VRs prog w V h vs' as' → VRs prog w V h (vs ++ vs') (as ++ as') := by
  intro vs as vs' as' r r2
  induction as generalizing vs with
  | nil => rw [r.inv0]; exact r2
  | cons a as ih =>
    obtain ⟨v, vs', rfl, h1, h2⟩ := r.inv
    exact .cons h1 (ih h2)
theorem VRs.take {prog : Program} {w : World} {V : Addr → Prop} {h : Heap} : ∀ (n : Nat) {vs : List Value} {as : List AV}, VRs prog w V h vs as → VRs prog w V h (vs.take n) (as.take n)
  | 0, _, _, _ => by simpa using VRs.nil
  | n + 1, _, _, .nil => by simpa using VRs.nil
  | n + 1, _, _, .cons h1 h2 => .cons h1 (VRs.take n h2)
theorem VRs.drop {prog : Program} {w : World} {V : Addr → Prop} {h : Heap} : ∀ (n : Nat) {vs : List Value} {as : List AV}, VRs prog w V h vs as → VRs prog w V h (vs.drop n) (as.drop n)
  | 0, _, _, x => x
  | n + 1, _, _, .nil => by simpa using VRs.nil
  | n + 1, _, _, .cons h1 h2 => VRs.drop n h2
noncomputable abbrev nums (l : List Int) : List AV := l.map AV.int
theorem VRs.areInts {prog : Program} {w : World} {V : Addr → Prop} {h : Heap} : ∀ {vs : List Value} {l : List Int}, VRs prog w V h vs (nums l) → IntsAre vs l := by
  intro vs l
  induction l generalizing vs with
  | nil => intro r; rw [r.inv0]; exact .nil
  | cons i l ih =>
    intro r
    obtain ⟨v, vs', rfl, h1, h2⟩ := r.inv
    cases h1 with
    | int _ t => exact .cons i t (ih h2)
theorem VRs.of_ints {prog : Program} {w : World} {V : Addr → Prop} {h : Heap} : ∀ {vs : List Value} {l : List Int}, IntsAre vs l → VRs prog w V h vs (nums l) := by
  intro vs l r
  induction r with
  | nil => exact .nil
  | cons i t _ ih => exact .cons (.int i t) ih

structure Am (k : Nat) (A : Around) : Prop where
  handled : A.handled = none
  depth : A.depth + k < 1000
  units : A.units + 16 * k < 9900
theorem Am.down {k : Nat} {A : Around} (a : Am (k + 1) A) : Am k A := ⟨a.1, by have := a.2; omega, by have := a.3; omega⟩
theorem Am.in1 {k : Nat} {A : Around} (a : Am (k + 1) A) : Am k A.in1 := ⟨a.1, by have := a.2; show A.depth + k < _; omega, by have := a.3; show A.units + 1 + 16 * k < _; omega⟩
theorem Am.deeper {k : Nat} {A : Around} {env : Env} (a : Am (k + 1) A) : Am k (A.deeper env) := ⟨a.1, by have := a.2; show A.depth + 1 + k < _; omega, by have := a.3; show A.units + 3 + 16 * k < _; omega⟩
theorem Am.room {k : Nat} {A : Around} (a : Am k A) : A.depth < recursionLimit := by have := a.2; show A.depth < 1000; omega
theorem Am.croom {k : Nat} {A : Around} (a : Am k A) : A.units < cLine := by have := a.3; show A.units < 9900; omega

/-- a code table: empty, or one nested code in it -/
noncomputable def TabAt (W : Addr → Prop) (h : Heap) (P : Addr) (pos : Pos) (qual : Str) : Prop :=
  h.get? P = some (tabObj #[]) ∨ ∃ c', ¬ W c' ∧ c' ∉ tabs ∧ h.CodeRec (.ref c') qual ∧ h.get? P = some (tabObj #[rawInt pos.line, rawInt pos.col, .ref c'])

noncomputable abbrev tabList : List (Addr × Pos × Str) := []

/-- what a code table holds, by the run so far -/
structure TabOk (T : List (Addr × Pos × Str)) (W : Addr → Prop) (h : Heap) : Prop where
  at_ : ∀ x ∈ T, TabAt W h x.1 x.2.1 x.2.2

noncomputable abbrev UW (U W : Addr → Prop) : Addr → Prop := fun x => U x ∨ W x
noncomputable def Keep (h h' : Heap) : Prop := ∀ b o, h.get? b = some o → b ∉ tabs → h'.get? b = some o
structure Aft (T : List (Addr × Pos × Str)) (W : Addr → Prop) (h h' : Heap) : Prop where
  keep : Keep h h'
  size : h.objs.size ≤ h'.objs.size
  tab : TabOk T W h'

inductive Slot where
  | val (a : AV)
  | own (l : List AV) (o : Option Addr)
  | own2 (l : List AV) (last : List AV)

noncomputable def SlotR (prog : Program) (w : World) (U W : Addr → Prop) (h : Heap) (a b : Addr) (v : Value) : Slot → Prop
  | .val av => VR prog w (UW U W) h v av
  | .own l o => v = .ref a ∧ (b = a ∧ ∀ c, o = some c → a = c) ∧ W a ∧ ∃ vs n, h.get? a = some (LObj vs n) ∧ VRs prog w (UW U W) h vs l
  | .own2 l last => v = .ref a ∧ W a ∧ W b ∧ a ≠ b ∧ ∃ vs n us m, h.get? a = some (LObj (vs ++ [.ref b]) n) ∧ h.get? b = some (LObj us m) ∧ VRs prog w (UW U W) h vs l ∧ VRs prog w (UW U W) h us last
noncomputable def Slot.isOwn : Slot → Bool
  | .val _ => false
  | _ => true

noncomputable def VarAt (env : Env) (h : Heap) (x : Str) (v : Value) : NameKind → Prop
  | .local => ∃ m, h.Ns env.locals m ∧ m x = some v
  | .cell => ∃ c, env.cells.lookup x = some c ∧ h.IsCell c (some v)
  | .free => ∃ c, env.cells.lookup x = some c ∧ h.IsCell c (some v)
  | _ => False

structure Cx where
  prog : Program
  w : World
  hb : Heap
  T : List (Addr × Pos × Str)
  hT : ∀ x ∈ T, x.1 ∈ tabs

/-- the frames whose code is known: those that make a function -/
noncomputable def codeFor (sc : Scope) : Option (Addr × Str) := match (sc.names.map Prod.snd : List NameKind) with
  | [.cell, .cell, .cell, .globalImplicit] => some (94, ("_digits2int" : Str))
  | [.local, .cell, .cell, .cell, .globalImplicit] => some (87, ("_int2digits" : Str))
  | ks => if ks.length = 27 then some (168, ("_law_followed" : Str)) else none

/-- what a frame may lean on: its own places, and what never changes -/
noncomputable def Kp (X : Cx) (W : Addr → Prop) (b : Addr) : Prop := W b ∨ ∃ o, X.hb.get? b = some o

structure Rel (X : Cx) (k : Nat) (sc : Scope) (U W : Addr → Prop) (Γ : List (Option Slot)) (A : Around) (env : Env) (s : Shared) : Prop where
  am : Am k A
  scp : env.scope = sc
  cod : ∀ a q, codeFor sc = some (a, q) → env.code = .ref a ∧ env.qual = q ++ (".<locals>." : Str)
  kind : sc.kind = .function
  nod : (sc.names.map (·.1)).Nodup
  ndb : ∀ p ∈ sc.names, (p.1 == ("__debug__" : Str)) = false ∧ (p.1 == ("__classdict__" : Str)) = false
  glob : env.globals = mainGlobals
  blt : env.builtins = builtinsNs
  base : ∀ b o, X.hb.get? b = some o → s.heap.get? b = some o
  bW : ∀ b o, X.hb.get? b = some o → ¬ W b ∧ b ∉ tabs
  bU : ∀ b o, X.hb.get? b = some o → ¬ U b
  tab : TabOk X.T (UW U W) s.heap
  Ult : ∀ a, U a → a < s.heap.objs.size
  Wlt : ∀ a, W a → a < s.heap.objs.size
  dis : ∀ a, W a → ¬ U a
  Ut : ∀ a ∈ tabs, U a
  Us : U sysModules
  loc : W env.locals ∧ ∃ m, s.heap.Ns env.locals m
  cel : ∀ x c, env.cells.lookup x = some c → Kp X W c ∧ ∃ v, s.heap.IsCell c v
  cinj : ∀ x y c, env.cells.lookup x = some c → env.cells.lookup y = some c → x = y
  chas : ∀ (i : Nat) (x : Str) (kd : NameKind), sc.names[i]? = some (x, kd) → kd = .cell ∨ kd = .free → ∃ c, env.cells.lookup x = some c ∧ (kd = .cell → W c)
  vars : ∃ ad bd : Nat → Addr, (∀ (i j : Nat) p p' sl sl', sc.names[i]? = some p → sc.names[j]? = some p' → Γ[i]? = some (some sl) → Γ[j]? = some (some sl') → sl.isOwn = true → sl'.isOwn = true → i ≠ j → ad i ≠ ad j ∧ ad i ≠ bd j ∧ bd i ≠ bd j) ∧
    ∀ (i : Nat) (x : Str) kd sl, sc.names[i]? = some (x, kd) → Γ[i]? = some (some sl) → ∃ v, VarAt env s.heap x v kd ∧ SlotR X.prog X.w U W s.heap (ad i) (bd i) v sl

theorem TabOk.none {W : Addr → Prop} {h : Heap} : TabOk [] W h := ⟨fun _ hx => nomatch hx⟩

section
variable {X : Cx} {k : Nat} {sc : Scope} {U W : Addr → Prop} {Γ : List (Option Slot)} {A : Around} {env : Env} {s : Shared}

theorem Rel.Wt (R : Rel X k sc U W Γ A env s) {a : Addr} (ha : W a) : a ∉ tabs := fun q => R.dis a ha (R.Ut a q)

theorem Rel.Kt (R : Rel X k sc U W Γ A env s) {a : Addr} (ha : Kp X W a) : a ∉ tabs := by
  rcases ha with h | ⟨o, h⟩
  · exact R.Wt h
  · exact (R.bW a o h).2

theorem VarAt.keeps {h h' : Heap} {x : Str} {v : Value} {kd : NameKind} (R : Rel X k sc U W Γ A env s) (hk : ∀ b o, Kp X W b → h.get? b = some o → h'.get? b = some o) (q : VarAt env h x v kd) : VarAt env h' x v kd := by
  cases kd with
  | «local» =>
    obtain ⟨m, ⟨o, es, ep, e, r⟩, hm⟩ := q
    exact ⟨m, ⟨o, es, ep, hk _ _ (.inl R.loc.1) e, r⟩, hm⟩
  | cell =>
    obtain ⟨c, hc, o, e, r⟩ := q
    exact ⟨c, hc, o, hk _ _ (R.cel _ _ hc).1 e, r⟩
  | free =>
    obtain ⟨c, hc, o, e, r⟩ := q
    exact ⟨c, hc, o, hk _ _ (R.cel _ _ hc).1 e, r⟩
  | _ => exact q.elim

theorem SlotR.keeps {prog : Program} {w : World} {h h' : Heap} {a b : Addr} {v : Value} {sl : Slot} (hk : ∀ b o, h.get? b = some o → b ∉ tabs → h'.get? b = some o) (hU : ∀ a ∈ tabs, U a) (hW : ∀ a, W a → a ∉ tabs)
    (q : SlotR prog w U W h a b v sl) : SlotR prog w U W h' a b v sl := by
  have ch : ∀ b o, h.get? b = some o → ¬ (U b ∨ W b) → h'.get? b = some o ∧ ¬ (U b ∨ W b) := fun b o e n => ⟨hk b o e fun q => n (.inl (hU b q)), n⟩
  cases sl with
  | val av => exact VR.change ch q
  | own l o =>
    obtain ⟨rfl, hba, hw, vs, n, e, r⟩ := q
    exact ⟨rfl, hba, hw, vs, n, hk _ _ e (hW _ hw), r.change ch⟩
  | own2 l last =>
    obtain ⟨rfl, hw, hw2, ne, vs, n, us, m, e, e2, r, r2⟩ := q
    exact ⟨rfl, hw, hw2, ne, vs, n, us, m, hk _ _ e (hW _ hw), hk _ _ e2 (hW _ hw2), r.change ch, r2.change ch⟩

theorem Rel.after {h' : Heap} {tk : Nat} (R : Rel X k sc U W Γ A env s) (a : Aft X.T (UW U W) s.heap h') : Rel X k sc U W Γ A env { s with heap := h', toks := tk } where
  am := R.am
  scp := R.scp
  cod := R.cod
  kind := R.kind
  nod := R.nod
  ndb := R.ndb
  glob := R.glob
  blt := R.blt
  base := fun b o e => a.keep b o (R.base b o e) (R.bW b o e).2
  bW := R.bW
  bU := R.bU
  tab := a.tab
  Ult := fun b hb => Nat.lt_of_lt_of_le (R.Ult b hb) a.size
  Wlt := fun b hb => Nat.lt_of_lt_of_le (R.Wlt b hb) a.size
  dis := R.dis
  Ut := R.Ut
  Us := R.Us
  loc := by
    obtain ⟨h1, m, o, es, ep, e, r⟩ := R.loc
    exact ⟨h1, m, o, es, ep, a.keep _ _ e (R.Wt h1), r⟩
  cel := fun x c hc => by
    obtain ⟨h1, v, o, e, r⟩ := R.cel x c hc
    exact ⟨h1, v, o, a.keep _ _ e (R.Kt h1), r⟩
  cinj := R.cinj
  chas := R.chas
  vars := by
    obtain ⟨ad, bd, h1, h2⟩ := R.vars
    refine ⟨ad, bd, h1, fun i x kd sl e1 e2 => ?_⟩
    obtain ⟨v, q1, q2⟩ := h2 i x kd sl e1 e2
    exact ⟨v, q1.keeps R fun b o hb e => a.keep b o e (R.Kt hb), q2.keeps a.keep R.Ut fun b hb => R.Wt hb⟩

theorem Aft.refl (R : Rel X k sc U W Γ A env s) : Aft X.T (UW U W) s.heap s.heap := ⟨fun _ _ e _ => e, Nat.le_refl _, R.tab⟩
theorem Aft.trans {T : List (Addr × Pos × Str)} {V : Addr → Prop} {h₁ h₂ h₃ : Heap} (a : Aft T V h₁ h₂) (b : Aft T V h₂ h₃) : Aft T V h₁ h₃ := ⟨fun x o e n => b.keep x o (a.keep x o e n) n, Nat.le_trans a.size b.size, b.tab⟩

/-- a value: to be stored (true: it avoids what may change), or to be read (false: a list that a variable owns, too) -/
noncomputable def VB (b : Bool) (prog : Program) (w : World) (U W : Addr → Prop) (h : Heap) (v : Value) (av : AV) : Prop :=
  VR prog w (UW U W) h v av ∨ (b = false ∧ ∃ a vs n l, v = .ref a ∧ av = .list l ∧ W a ∧ h.get? a = some (LObj vs n) ∧ VRs prog w (UW U W) h vs l)
theorem VB.weak {b : Bool} {prog : Program} {w : World} {h : Heap} {v : Value} {av : AV} (q : VB true prog w U W h v av) : VB b prog w U W h v av := by
  rcases q with q | ⟨q, _⟩
  · exact .inl q
  · cases q
theorem VB.vr {prog : Program} {w : World} {h : Heap} {v : Value} {av : AV} (q : VB true prog w U W h v av) : VR prog w (UW U W) h v av := by
  rcases q with q | ⟨q, _⟩
  · exact q
  · cases q
theorem VB.after {b : Bool} {h' : Heap} {v : Value} {av : AV} (R : Rel X k sc U W Γ A env s) {T : List (Addr × Pos × Str)} {h : Heap} (a : Aft T (UW U W) h h') (q : VB b X.prog X.w U W h v av) : VB b X.prog X.w U W h' v av := by
  have ch : ∀ b o, h.get? b = some o → ¬ (U b ∨ W b) → h'.get? b = some o ∧ ¬ (U b ∨ W b) := fun b o e n => ⟨a.keep b o e fun q => n (.inl (R.Ut b q)), n⟩
  rcases q with q | ⟨q, x, vs, n, l, h1, h2, h3, h4, h5⟩
  · exact .inl (q.change ch)
  · exact .inr ⟨q, x, vs, n, l, h1, h2, h3, a.keep _ _ h4 (R.Wt h3), h5.change ch⟩
theorem VB.list {b : Bool} {prog : Program} {w : World} {h : Heap} {v : Value} {l : List AV} (q : VB b prog w U W h v (.list l)) : ∃ a vs n, v = .ref a ∧ h.get? a = some (LObj vs n) ∧ VRs prog w (UW U W) h vs l := by
  rcases q with q | ⟨_, x, vs, n, l', h1, h2, h3, h4, h5⟩
  · cases q with
    | list h1 h2 h3 => exact ⟨_, _, _, rfl, h2, h3⟩
  · cases h2; exact ⟨x, vs, n, h1, h4, h5⟩
theorem VB.int {b : Bool} {prog : Program} {w : World} {h : Heap} {v : Value} {i : Int} (q : VB b prog w U W h v (.int i)) : ∃ t, v = .int i t := by
  rcases q with q | ⟨_, x, vs, n, l', h1, h2, h3, h4, h5⟩
  · cases q with
    | int _ t => exact ⟨t, rfl⟩
  · cases h2
theorem VB.str {b : Bool} {prog : Program} {w : World} {h : Heap} {v : Value} {i : Str} (q : VB b prog w U W h v (.str i)) : ∃ t, v = .str i t := by
  rcases q with q | ⟨_, x, vs, n, l', h1, h2, h3, h4, h5⟩
  · cases q with
    | str _ t => exact ⟨t, rfl⟩
  · cases h2
theorem VB.val {b : Bool} {prog : Program} {w : World} {h : Heap} {v u : Value} (q : VB b prog w U W h v (.val u)) : v = u := by
  rcases q with q | ⟨_, x, vs, n, l', h1, h2, h3, h4, h5⟩
  · cases q with
    | val => rfl
  · cases h2
end

noncomputable def Evals (X : Cx) (b : Bool) (k : Nat) (sc : Scope) (Γ : List (Option Slot)) (e : Expr) (av : AV) : Prop :=
  ∀ ⦃U W A env s Q E⦄, Rel X k sc U W Γ A env s → (∀ v h' tk, Aft X.T (UW U W) s.heap h' → VB b X.prog X.w U W h' v av → Q v { s with heap := h', toks := tk }) →
    wpAny (model X.prog X.w) A (eval e env) Q E s
noncomputable def Tests (X : Cx) (k : Nat) (sc : Scope) (Γ : List (Option Slot)) (e : Expr) (t : Bool) : Prop :=
  ∀ ⦃U W A env s Q E⦄, Rel X k sc U W Γ A env s → (∀ h' tk, Aft X.T (UW U W) s.heap h' → Q t { s with heap := h', toks := tk }) →
    wpAny (model X.prog X.w) A (isTrue e env (eval e env)) Q E s

theorem Evals.weak {X : Cx} {b : Bool} {k : Nat} {sc : Scope} {Γ : List (Option Slot)} {e : Expr} {av : AV} (h : Evals X true k sc Γ e av) : Evals X b k sc Γ e av :=
  fun _ _ _ _ _ _ _ R q => h R fun v h' tk a r => q v h' tk a r.weak

end Mine
namespace Mine

inductive Look : List (Str × NameKind) → List (Option Slot) → Nat → Str → NameKind → Slot → Prop
  | here {x : Str} {kd : NameKind} {ns : List (Str × NameKind)} {sl : Slot} {Γ : List (Option Slot)} : Look ((x, kd) :: ns) (some sl :: Γ) 0 x kd sl
  | there {p : Str × NameKind} {o : Option Slot} {ns : List (Str × NameKind)} {Γ : List (Option Slot)} {i : Nat} {x : Str} {kd : NameKind} {sl : Slot} : Look ns Γ i x kd sl → Look (p :: ns) (o :: Γ) (i + 1) x kd sl
theorem Look.at {ns : List (Str × NameKind)} {Γ : List (Option Slot)} {i : Nat} {x : Str} {kd : NameKind} {sl : Slot} (L : Look ns Γ i x kd sl) : ns[i]? = some (x, kd) ∧ Γ[i]? = some (some sl) := by
  induction L with
  | here => exact ⟨rfl, rfl⟩
  | there _ ih => exact ⟨by simpa using ih.1, by simpa using ih.2⟩
/-- a name by its place -/
noncomputable def pick : Nat → List (Str × NameKind) → List (Option Slot) → Option (Str × NameKind × Slot)
  | 0, ns, Γ => match ns, Γ with
    | (x, kd) :: _, some sl :: _ => some (x, kd, sl)
    | _, _ => none
  | i + 1, ns, Γ => match ns, Γ with
    | _ :: ns, _ :: Γ => pick i ns Γ
    | _, _ => none
theorem Look.nth : ∀ (i : Nat) {ns : List (Str × NameKind)} {Γ : List (Option Slot)} {x : Str} {kd : NameKind} {sl : Slot}, pick i ns Γ = some (x, kd, sl) → Look ns Γ i x kd sl
  | 0, ns, Γ, x, kd, sl, h => by
    unfold pick at h
    split at h
    · cases h; exact .here
    · cases h
  | i + 1, ns, Γ, x, kd, sl, h => by
    unfold pick at h
    split at h
    · exact .there (Look.nth i h)
    · cases h
inductive Nm : List (Str × NameKind) → Nat → Str → NameKind → Prop
  | here {x : Str} {kd : NameKind} {ns : List (Str × NameKind)} : Nm ((x, kd) :: ns) 0 x kd
  | there {p : Str × NameKind} {ns : List (Str × NameKind)} {i : Nat} {x : Str} {kd : NameKind} : Nm ns i x kd → Nm (p :: ns) (i + 1) x kd
theorem Nm.at {ns : List (Str × NameKind)} {i : Nat} {x : Str} {kd : NameKind} (L : Nm ns i x kd) : ns[i]? = some (x, kd) := by
  induction L with
  | here => rfl
  | there _ ih => simpa using ih
theorem Nm.nth : ∀ {ns : List (Str × NameKind)} {x : Str} {kd : NameKind} (i : Nat), ns[i]? = some (x, kd) → Nm ns i x kd
  | _ :: _, _, _, 0, h => by cases h; exact .here
  | _ :: _, _, _, _ + 1, h => .there (Nm.nth _ h)
/-- a fact of each entry, by its place -/
inductive AllAt {α : Type} (P : Nat → α → Prop) : Nat → List α → Prop
  | nil {n : Nat} : AllAt P n []
  | cons {n : Nat} {a : α} {l : List α} : P n a → AllAt P (n + 1) l → AllAt P n (a :: l)
theorem AllAt.from {α : Type} {P : Nat → α → Prop} {l : List α} {n : Nat} (h : AllAt P n l) : ∀ (i : Nat) (a : α), l[i]? = some a → P (n + i) a := by
  induction h with
  | nil => intro i a e; cases e
  | cons h1 _ ih =>
    intro i a e
    cases i with
    | zero => cases e; exact h1
    | succ i => rw [← Nat.add_assoc, Nat.add_right_comm]; exact ih i a e
theorem AllAt.get {α : Type} {P : Nat → α → Prop} {l : List α} (h : AllAt P 0 l) {i : Nat} {a : α} (e : l[i]? = some a) : P i a := by
  have := h.from i a e
  rwa [Nat.zero_add] at this
theorem names_all {P : Nat → Str → NameKind → Prop} {l : List (Str × NameKind)} (h : AllAt (fun i p => P i p.1 p.2) 0 l) (i : Nat) (x : Str) (kd : NameKind) (e : l[i]? = some (x, kd)) : P i x kd := h.get e
theorem names_sl {P : Nat → Str → NameKind → Slot → Prop} {l : List (Str × NameKind)} (h : AllAt (fun i p => ∀ sl, P i p.1 p.2 sl) 0 l) (i : Nat) (x : Str) (kd : NameKind) (sl : Slot) (e : l[i]? = some (x, kd)) : P i x kd sl := h.get e sl
theorem lookup_at : ∀ {ns : List (Str × NameKind)} {i : Nat} {x : Str} {kd : NameKind}, (ns.map (·.1)).Nodup → ns[i]? = some (x, kd) → ns.lookup x = some kd
  | [], i, _, _, _, e => by simp at e
  | (y, k) :: ns, 0, x, kd, _, e => by simp at e; obtain ⟨rfl, rfl⟩ := e; simp [List.lookup_cons]
  | (y, k) :: ns, i + 1, x, kd, hn, e => by
    rw [List.map_cons, List.nodup_cons] at hn
    have e' : ns[i]? = some (x, kd) := by simpa using e
    have hm : x ∈ ns.map (·.1) := List.mem_map.mpr ⟨(x, kd), List.mem_of_getElem? e', rfl⟩
    have hne : (x == y) = false := by
      rw [beq_eq_false_iff_ne]; rintro rfl; exact hn.1 hm
    rw [List.lookup_cons, hne]
    exact lookup_at hn.2 e'

noncomputable def GlobIs (X : Cx) (x : Str) (v : Value) : Prop :=
  ∃ mg mb, X.hb.Ns mainGlobals mg ∧ X.hb.Ns builtinsNs mb ∧ (mg x = some v ∨ (mg x = none ∧ mb x = some v))

section
variable {X : Cx} {b : Bool} {k : Nat} {sc : Scope} {U W : Addr → Prop} {Γ : List (Option Slot)} {A : Around} {env : Env} {s : Shared}

theorem Rel.isFn (R : Rel X k sc U W Γ A env s) : env.scope.kind = .function := by rw [R.scp]; exact R.kind
theorem Rel.kindOf (R : Rel X k sc U W Γ A env s) {i : Nat} {x : Str} {kd : NameKind} (e : sc.names[i]? = some (x, kd)) : env.kindOf x = some kd := by
  show env.scope.names.lookup x = some kd
  rw [R.scp]; exact lookup_at R.nod e
theorem Rel.dbg (R : Rel X k sc U W Γ A env s) {i : Nat} {x : Str} {kd : NameKind} (e : sc.names[i]? = some (x, kd)) : (x == ("__debug__" : Str)) = false ∧ (x == ("__classdict__" : Str)) = false :=
  R.ndb (x, kd) (List.mem_of_getElem? e)

theorem Rel.load (R : Rel X k sc U W Γ A env s) {i : Nat} {x : Str} {kd : NameKind} {v : Value} {Q : Value → Shared → Prop} {E : Value → Shared → Prop} (e : sc.names[i]? = some (x, kd)) (hv : VarAt env s.heap x v kd) (h : Q v s) :
    wpAny (model X.prog X.w) A (loadName env x) Q E s := by
  have hk := R.kindOf e
  cases kd with
  | «local» => obtain ⟨m, hn, hm⟩ := hv; exact wpAny_loadName_local R.isFn hk hn hm h
  | cell => obtain ⟨c, hc, hm⟩ := hv; exact wpAny_loadName_cell R.isFn hk hc hm h
  | free => obtain ⟨c, hc, hm⟩ := hv; exact wpAny_loadName_free R.isFn hk hc hm h (R.dbg e).2
  | _ => exact hv.elim

theorem E_name {i : Nat} {x : Str} {kd : NameKind} {av : AV} {pos : Pos} (L : Look sc.names Γ i x kd (.val av)) : Evals X b k sc Γ (.Name x pos) av := by
  intro U W A env s Q E R q
  obtain ⟨ad, bd, _, hv⟩ := R.vars
  obtain ⟨v, h1, h2⟩ := hv i x kd _ L.at.1 L.at.2
  exact wpAny_Name (R.load L.at.1 h1 (q v s.heap s.toks (Aft.refl R) (.inl h2))) (R.dbg L.at.1).1
theorem E_own {i : Nat} {x : Str} {kd : NameKind} {l : List AV} {o : Option Addr} {pos : Pos} (L : Look sc.names Γ i x kd (.own l o)) : Evals X false k sc Γ (.Name x pos) (.list l) := by
  intro U W A env s Q E R q
  obtain ⟨ad, bd, _, hv⟩ := R.vars
  obtain ⟨v, h1, h2⟩ := hv i x kd _ L.at.1 L.at.2
  obtain ⟨rfl, hba, hw, vs, n, e1, e2⟩ := h2
  exact wpAny_Name (R.load L.at.1 h1 (q _ s.heap s.toks (Aft.refl R) (.inr ⟨rfl, _, vs, n, l, rfl, rfl, hw, e1, e2⟩))) (R.dbg L.at.1).1

theorem Rel.loadG (R : Rel X k sc U W Γ A env s) {x : Str} {v : Value} {Q : Value → Shared → Prop} {E : Value → Shared → Prop} (g : GlobIs X x v) (h : Q v s) : wpAny (model X.prog X.w) A (loadGlobal env x) Q E s := by
  obtain ⟨mg, mb, h1, h2, h3⟩ := g
  have g1 : s.heap.Ns env.globals mg := by rw [R.glob]; exact h1.keeps R.base
  have g2 : s.heap.Ns env.builtins mb := by rw [R.blt]; exact h2.keeps R.base
  rcases h3 with h3 | ⟨h3, h4⟩
  · exact loadGlobal_global g1 h3 h
  · exact loadGlobal_builtin g1 h3 g2 h4 h
theorem E_glob {i : Nat} {x : Str} {v : Value} {av : AV} {pos : Pos} (L : Nm sc.names i x .globalImplicit) (g : GlobIs X x v) (hv : ∀ V h, VR X.prog X.w V h v av) : Evals X b k sc Γ (.Name x pos) av := by
  intro U W A env s Q E R q
  exact Name_function_global R.isFn (R.kindOf L.at) (R.loadG g (q _ s.heap s.toks (Aft.refl R) (.inl (hv _ _)))) (R.dbg L.at).1

theorem E_int {i : Int} {n : Nat} {pos : Pos} : Evals X b k sc Γ (.Constant (.int i) n pos) (.int i) := fun _ _ _ _ _ _ _ R q => wpAny_Constant_int (q _ _ _ (Aft.refl R) (.inl (.int _ _)))
theorem E_str {x : Str} {n : Nat} {pos : Pos} : Evals X b k sc Γ (.Constant (.str x) n pos) (.str x) := fun _ _ _ _ _ _ _ R q => wpAny_Constant_str (q _ _ _ (Aft.refl R) (.inl (.str _ _)))
theorem E_none {n : Nat} {pos : Pos} : Evals X b k sc Γ (.Constant .none n pos) (.val .none) := fun _ _ _ _ _ _ _ R q => wpAny_Constant_none (q _ _ _ (Aft.refl R) (.inl (.val _)))
theorem E_bool {x : Bool} {n : Nat} {pos : Pos} : Evals X b k sc Γ (.Constant (.bool x) n pos) (.val (.bool x)) := fun _ _ _ _ _ _ _ R q => wpAny_Constant_bool (q _ _ _ (Aft.refl R) (.inl (.val _)))

/-- an operator on values -/
noncomputable def BinV (X : Cx) (k : Nat) (op : Operator) (a b c : AV) : Prop :=
  ∀ ⦃sc U W Γ A env s Q E v u⦄, Rel X k sc U W Γ A env s → VB false X.prog X.w U W s.heap v a → VB false X.prog X.w U W s.heap u b →
    (∀ r h' tk, Aft X.T (UW U W) s.heap h' → VB true X.prog X.w U W h' r c → Q r { s with heap := h', toks := tk }) → wpAny (model X.prog X.w) A (binaryOp op v u) Q E s
noncomputable def AugV (X : Cx) (k : Nat) (op : Operator) (a b c : AV) : Prop :=
  ∀ ⦃sc U W Γ A env s Q E v u⦄, Rel X k sc U W Γ A env s → VB false X.prog X.w U W s.heap v a → VB false X.prog X.w U W s.heap u b →
    (∀ r h' tk, Aft X.T (UW U W) s.heap h' → VB true X.prog X.w U W h' r c → Q r { s with heap := h', toks := tk }) → wpAny (model X.prog X.w) A (inplaceOp op v u) Q E s
noncomputable def CmpV (X : Cx) (k : Nat) (op : CmpOp) (a b : AV) (t : Bool) : Prop :=
  ∀ ⦃sc U W Γ A env s Q E v u⦄, Rel X k sc U W Γ A env s → VB false X.prog X.w U W s.heap v a → VB false X.prog X.w U W s.heap u b →
    (∀ h' tk, Aft X.T (UW U W) s.heap h' → Q (.bool t) { s with heap := h', toks := tk }) → wpAny (model X.prog X.w) A (compareOp op v u) Q E s

theorem E_bin {l r : Expr} {op : Operator} {pos : Pos} {x y z : AV} (h1 : Evals X false k sc Γ l x) (h2 : Evals X false k sc Γ r y) (h3 : BinV X k op x y z) : Evals X b k sc Γ (.BinOp l op r pos) z := by
  intro U W A env s Q E R q
  exact wpAny_BinOp (h1 R fun v h₁ t₁ a₁ q₁ => h2 (R.after a₁) fun u h₂ t₂ a₂ q₂ => h3 ((R.after a₁).after a₂) (q₁.after R a₂) q₂ fun r h₃ t₃ a₃ q₃ => q _ _ _ ((a₁.trans a₂).trans a₃) q₃.weak)
theorem E_cmp {l r : Expr} {op : CmpOp} {pos : Pos} {x y : AV} {t : Bool} (h1 : Evals X false k sc Γ l x) (h2 : Evals X false k sc Γ r y) (h3 : CmpV X k op x y t) (hm : behindInMarks op r = false := by with_unfolding_all rfl) :
    Evals X b k sc Γ (.Compare l [op] [r] pos) (.val (.bool t)) := by
  intro U W A env s Q E R q
  exact wpAny_Compare1 (h1 R fun v h₁ t₁ a₁ q₁ => h2 (R.after a₁) fun u h₂ t₂ a₂ q₂ => h3 ((R.after a₁).after a₂) (q₁.after R a₂) q₂ fun h₃ t₃ a₃ => q _ _ _ ((a₁.trans a₂).trans a₃) (.inl (.val _))) hm
theorem T_cmp {l r : Expr} {op : CmpOp} {pos : Pos} {x y : AV} {t : Bool} (h1 : Evals X false k sc Γ l x) (h2 : Evals X false k sc Γ r y) (h3 : CmpV X k op x y t) (hm : behindInMarks op r = false := by with_unfolding_all rfl) :
    Tests X k sc Γ (.Compare l [op] [r] pos) t := by
  intro U W A env s Q E R q
  exact wpAny_isTrue_Compare1 (h1 R fun v h₁ t₁ a₁ q₁ => h2 (R.after a₁) fun u h₂ t₂ a₂ q₂ => h3 ((R.after a₁).after a₂) (q₁.after R a₂) q₂ fun h₃ t₃ a₃ => wpAny_truthy_bool (q _ _ ((a₁.trans a₂).trans a₃))) hm
theorem T_bool {e : Expr} {t : Bool} (h1 : Evals X false k sc Γ e (.val (.bool t))) (he : ∀ env whole, isTrue e env whole = (do let v ← whole; standAt e.pos; holding [v] (truthy v)) := by intro _ _; rfl) : Tests X k sc Γ e t := by
  intro U W A env s Q E R q
  refine wpAny_isTrue_value (h1 R fun v h₁ t₁ a₁ q₁ => ?_) (he _ _)
  cases q₁.val
  exact wpAny_truthy_bool (q _ _ a₁)
theorem T_not {e : Expr} {pos : Pos} {t : Bool} (h1 : Tests X k sc Γ e t) : Tests X k sc Γ (.UnaryOp .Not e pos) (!t) := by
  intro U W A env s Q E R q
  exact wpAny_isTrue_Not (h1 R fun h₁ t₁ a₁ => q _ _ a₁)
theorem T_andT {e e' : Expr} {pos : Pos} {t : Bool} (h1 : Tests X k sc Γ e true) (h2 : Tests X k sc Γ e' t) : Tests X k sc Γ (.BoolOp .And [e, e'] pos) t := by
  intro U W A env s Q E R q
  refine wpAny_isTrue_BoolOp (wpAny_allTrue_And_cons (h1 R fun h₁ t₁ a₁ => ?_))
  refine wpAny_allTrue_And_cons (h2 (R.after a₁) fun h₂ t₂ a₂ => ?_)
  cases t
  · exact q _ _ (a₁.trans a₂)
  · exact wpAny_allTrue_And_nil (q _ _ (a₁.trans a₂))
theorem T_andF {e e' : Expr} {pos : Pos} (h1 : Tests X k sc Γ e false) : Tests X k sc Γ (.BoolOp .And [e, e'] pos) false := by
  intro U W A env s Q E R q
  exact wpAny_isTrue_BoolOp (wpAny_allTrue_And_cons (h1 R fun h₁ t₁ a₁ => q _ _ a₁))
theorem E_ifT {c e e' : Expr} {pos : Pos} {av : AV} (h1 : Tests X k sc Γ c true) (h2 : Evals X b k sc Γ e av) : Evals X b k sc Γ (.IfExp c e e' pos) av := by
  intro U W A env s Q E R q
  exact wpAny_IfExp (h1 R fun h₁ t₁ a₁ => h2 (R.after a₁) fun v h₂ t₂ a₂ q₂ => q _ _ _ (a₁.trans a₂) q₂)
theorem E_ifF {c e e' : Expr} {pos : Pos} {av : AV} (h1 : Tests X k sc Γ c false) (h2 : Evals X b k sc Γ e' av) : Evals X b k sc Γ (.IfExp c e e' pos) av := by
  intro U W A env s Q E R q
  exact wpAny_IfExp (h1 R fun h₁ t₁ a₁ => h2 (R.after a₁) fun v h₂ t₂ a₂ q₂ => q _ _ _ (a₁.trans a₂) q₂)

/- ints -/
theorem B_add {i j : Int} : BinV X k .Add (.int i) (.int j) (.int (i + j)) := by
  intro sc U W Γ A env s Q E v u R hv hu q
  obtain ⟨t, rfl⟩ := hv.int
  obtain ⟨t', rfl⟩ := hu.int
  exact P.add_int (q _ _ _ (Aft.refl R) (.inl (.int _ _)))
theorem B_sub {i j : Int} : BinV X k .Sub (.int i) (.int j) (.int (i - j)) := by
  intro sc U W Γ A env s Q E v u R hv hu q
  obtain ⟨t, rfl⟩ := hv.int
  obtain ⟨t', rfl⟩ := hu.int
  exact P.sub_int (q _ _ _ (Aft.refl R) (.inl (.int _ _)))
theorem B_mul {i j : Int} (hm : IntMulOk i j) : BinV X k .Mult (.int i) (.int j) (.int (i * j)) := by
  intro sc U W Γ A env s Q E v u R hv hu q
  obtain ⟨t, rfl⟩ := hv.int
  obtain ⟨t', rfl⟩ := hu.int
  exact P.mul_int (q _ _ _ (Aft.refl R) (.inl (.int _ _))) hm
theorem B_mod {i j : Int} (hj : j ≠ 0) : BinV X k .Mod (.int i) (.int j) (.int (i.fmod j)) := by
  intro sc U W Γ A env s Q E v u R hv hu q
  obtain ⟨t, rfl⟩ := hv.int
  obtain ⟨t', rfl⟩ := hu.int
  exact mod_int' hj (q _ _ _ (Aft.refl R) (.inl (.int _ _)))
theorem B_div {i j : Int} (hj : j ≠ 0) (hp : Builtin.divisionGoesByPylong i j = false) : BinV X k .FloorDiv (.int i) (.int j) (.int (i.fdiv j)) := by
  intro sc U W Γ A env s Q E v u R hv hu q
  obtain ⟨t, rfl⟩ := hv.int
  obtain ⟨t', rfl⟩ := hu.int
  exact floordiv_int hj (q _ _ _ (Aft.refl R) (.inl (.int _ _))) (.inl hp)
theorem B_shl {i j : Int} (hn : 0 ≤ j) (hsz : (Builtin.Int.intBits i : Int) + j ≤ 2 ^ 27) : BinV X k .LShift (.int i) (.int j) (.int (i * 2 ^ j.toNat)) := by
  intro sc U W Γ A env s Q E v u R hv hu q
  obtain ⟨t, rfl⟩ := hv.int
  obtain ⟨t', rfl⟩ := hu.int
  exact lshift_int hn hsz (q _ _ _ (Aft.refl R) (.inl (.int _ _)))
theorem G_add {i j : Int} : AugV X k .Add (.int i) (.int j) (.int (i + j)) := by
  intro sc U W Γ A env s Q E v u R hv hu q
  obtain ⟨t, rfl⟩ := hv.int
  obtain ⟨t', rfl⟩ := hu.int
  exact P.iadd_int (q _ _ _ (Aft.refl R) (.inl (.int _ _)))
theorem G_sub {i j : Int} : AugV X k .Sub (.int i) (.int j) (.int (i - j)) := by
  intro sc U W Γ A env s Q E v u R hv hu q
  obtain ⟨t, rfl⟩ := hv.int
  obtain ⟨t', rfl⟩ := hu.int
  exact P.isub_int (q _ _ _ (Aft.refl R) (.inl (.int _ _)))
theorem C_eq {i j : Int} : CmpV X k .Eq (.int i) (.int j) (i == j) := by
  intro sc U W Γ A env s Q E v u R hv hu q
  obtain ⟨t, rfl⟩ := hv.int
  obtain ⟨t', rfl⟩ := hu.int
  exact P.eq_int (q _ _ (Aft.refl R))
theorem C_lt {i j : Int} : CmpV X k .Lt (.int i) (.int j) (decide (i < j)) := by
  intro sc U W Γ A env s Q E v u R hv hu q
  obtain ⟨t, rfl⟩ := hv.int
  obtain ⟨t', rfl⟩ := hu.int
  exact P.lt_int (q _ _ (Aft.refl R))
theorem C_gt {i j : Int} : CmpV X k .Gt (.int i) (.int j) (decide (i > j)) := by
  intro sc U W Γ A env s Q E v u R hv hu q
  obtain ⟨t, rfl⟩ := hv.int
  obtain ⟨t', rfl⟩ := hu.int
  exact P.gt_int (q _ _ (Aft.refl R))
theorem C_le {i j : Int} : CmpV X k .LtE (.int i) (.int j) (decide (i ≤ j)) := by
  intro sc U W Γ A env s Q E v u R hv hu q
  obtain ⟨t, rfl⟩ := hv.int
  obtain ⟨t', rfl⟩ := hu.int
  exact P.le_int (q _ _ (Aft.refl R))
end
end Mine
namespace Mine

inductive Put : List (Str × NameKind) → List (Option Slot) → Nat → Str → NameKind → Slot → List (Option Slot) → Prop
  | here {x : Str} {kd : NameKind} {ns : List (Str × NameKind)} {sl : Slot} {o : Option Slot} {Γ : List (Option Slot)} : Put ((x, kd) :: ns) (o :: Γ) 0 x kd sl (some sl :: Γ)
  | hereN {x : Str} {kd : NameKind} {ns : List (Str × NameKind)} {sl : Slot} : Put ((x, kd) :: ns) [] 0 x kd sl [some sl]
  | there {p : Str × NameKind} {o : Option Slot} {ns : List (Str × NameKind)} {Γ Γ' : List (Option Slot)} {i : Nat} {x : Str} {kd : NameKind} {sl : Slot} : Put ns Γ i x kd sl Γ' → Put (p :: ns) (o :: Γ) (i + 1) x kd sl (o :: Γ')
  | thereN {p : Str × NameKind} {ns : List (Str × NameKind)} {Γ' : List (Option Slot)} {i : Nat} {x : Str} {kd : NameKind} {sl : Slot} : Put ns [] i x kd sl Γ' → Put (p :: ns) [] (i + 1) x kd sl (none :: Γ')
theorem Put.at {ns : List (Str × NameKind)} {Γ Γ' : List (Option Slot)} {i : Nat} {x : Str} {kd : NameKind} {sl : Slot} (P : Put ns Γ i x kd sl Γ') :
    ns[i]? = some (x, kd) ∧ Γ'[i]? = some (some sl) ∧ ∀ j sl', j ≠ i → Γ'[j]? = some (some sl') → Γ[j]? = some (some sl') := by
  induction P with
  | here =>
    refine ⟨rfl, rfl, fun j sl' hj e => ?_⟩
    cases j with
    | zero => exact absurd rfl hj
    | succ j => simpa using e
  | hereN =>
    refine ⟨rfl, rfl, fun j sl' hj e => ?_⟩
    cases j with
    | zero => exact absurd rfl hj
    | succ j => simp at e
  | there _ ih =>
    refine ⟨by simpa using ih.1, by simpa using ih.2.1, fun j sl' hj e => ?_⟩
    cases j with
    | zero => simpa using e
    | succ j => simpa using ih.2.2 j sl' (fun q => hj (by rw [q])) (by simpa using e)
  | thereN _ ih =>
    refine ⟨by simpa using ih.1, by simpa using ih.2.1, fun j sl' hj e => ?_⟩
    cases j with
    | zero => simp at e
    | succ j => have := ih.2.2 j sl' (fun q => hj (by rw [q])) (by simpa using e); simp at this

noncomputable def putAt : Nat → List (Str × NameKind) → List (Option Slot) → Slot → Option (Str × NameKind × List (Option Slot))
  | 0, ns, Γ, sl => match ns, Γ with
    | (x, kd) :: _, _ :: Γ => some (x, kd, some sl :: Γ)
    | _, _ => none
  | i + 1, ns, Γ, sl => match ns, Γ with
    | _ :: ns, o :: Γ => match putAt i ns Γ sl with
      | some (x, kd, Γ') => some (x, kd, o :: Γ')
      | none => none
    | _, _ => none
theorem Put.nth : ∀ (i : Nat) {ns : List (Str × NameKind)} {Γ Γ' : List (Option Slot)} {x : Str} {kd : NameKind} {sl : Slot}, putAt i ns Γ sl = some (x, kd, Γ') → Put ns Γ i x kd sl Γ'
  | 0, ns, Γ, Γ', x, kd, sl, h => by
    unfold putAt at h
    split at h
    · cases h; exact .here
    · cases h
  | i + 1, ns, Γ, Γ', x, kd, sl, h => by
    unfold putAt at h
    split at h
    · split at h
      · rename_i e
        cases h
        exact .there (Put.nth i e)
      · cases h
    · cases h

theorem name_inj : ∀ {ns : List (Str × NameKind)} {i j : Nat} {x : Str} {kd kd' : NameKind}, (ns.map (·.1)).Nodup → ns[i]? = some (x, kd) → ns[j]? = some (x, kd') → i = j
  | [], i, _, _, _, _, _, e, _ => by simp at e
  | p :: ns, 0, 0, _, _, _, _, _, _ => rfl
  | (y, k) :: ns, 0, j + 1, x, kd, kd', hn, e, e' => by
    simp at e; obtain ⟨rfl, rfl⟩ := e
    rw [List.map_cons, List.nodup_cons] at hn
    exact absurd (List.mem_map.mpr ⟨(y, kd'), List.mem_of_getElem? (by simpa using e'), rfl⟩) hn.1
  | (y, k) :: ns, i + 1, 0, x, kd, kd', hn, e, e' => by
    simp at e'; obtain ⟨rfl, rfl⟩ := e'
    rw [List.map_cons, List.nodup_cons] at hn
    exact absurd (List.mem_map.mpr ⟨(y, kd), List.mem_of_getElem? (by simpa using e), rfl⟩) hn.1
  | (y, k) :: ns, i + 1, j + 1, x, kd, kd', hn, e, e' => by
    rw [List.map_cons, List.nodup_cons] at hn
    exact congrArg (· + 1) (name_inj hn.2 (by simpa using e) (by simpa using e'))

section
variable {X : Cx} {b : Bool} {k : Nat} {sc : Scope} {U W : Addr → Prop} {Γ Γ' : List (Option Slot)} {A : Around} {env : Env} {s : Shared}

noncomputable def VarsOk (X : Cx) (sc : Scope) (U W : Addr → Prop) (Γ : List (Option Slot)) (env : Env) (h : Heap) (ad bd : Nat → Addr) : Prop :=
  (∀ (i j : Nat) p p' sl sl', sc.names[i]? = some p → sc.names[j]? = some p' → Γ[i]? = some (some sl) → Γ[j]? = some (some sl') → sl.isOwn = true → sl'.isOwn = true → i ≠ j → ad i ≠ ad j ∧ ad i ≠ bd j ∧ bd i ≠ bd j) ∧
    ∀ (i : Nat) (x : Str) kd sl, sc.names[i]? = some (x, kd) → Γ[i]? = some (some sl) → ∃ v, VarAt env h x v kd ∧ SlotR X.prog X.w U W h (ad i) (bd i) v sl

theorem slot_obj {prog : Program} {w : World} {h : Heap} {a c : Addr} {v : Value} {sl : Slot} (q : SlotR prog w U W h a c v sl) (ho : sl.isOwn = true) : W a ∧ ∃ vs n, h.get? a = some (LObj vs n) := by
  cases sl with
  | val => cases ho
  | own l o => obtain ⟨_, _, hw, vs, n, e, _⟩ := q; exact ⟨hw, vs, n, e⟩
  | own2 l m => obtain ⟨_, hw, _, _, vs, n, us, m, e, _⟩ := q; exact ⟨hw, _, n, e⟩

theorem slot_obj' {prog : Program} {w : World} {h : Heap} {a c : Addr} {v : Value} {sl : Slot} (q : SlotR prog w U W h a c v sl) (ho : sl.isOwn = true) : W c := by
  cases sl with
  | val => cases ho
  | own l o => obtain ⟨_, ⟨rfl, _⟩, hw, _⟩ := q; exact hw
  | own2 l m => obtain ⟨_, _, hw, _⟩ := q; exact hw

/-- the heap after a store into one place of the frame's own that is no list -/
theorem Rel.storedAt {P : Addr} {h' : Heap} {tk : Nat} {i : Nat} {x : Str} {kd : NameKind} {sl : Slot} {v : Value} {a c : Addr} {ad bd : Nat → Addr}
    (R : Rel X k sc U W Γ A env s) (V : VarsOk X sc U W Γ env s.heap ad bd) (p : Put sc.names Γ i x kd sl Γ') (hP : W P) (hnl : ∀ vs n, s.heap.get? P ≠ some (LObj vs n))
    (hs : Heap.SameBut P s.heap h') (hloc : ∃ m, h'.Ns env.locals m) (hcel : ∀ y d, env.cells.lookup y = some d → ∃ v, h'.IsCell d v)
    (hx : VarAt env h' x v kd) (hoth : ∀ j y kd' u, j ≠ i → sc.names[j]? = some (y, kd') → VarAt env s.heap y u kd' → VarAt env h' y u kd')
    (hv : SlotR X.prog X.w U W s.heap a c v sl) (hown : sl.isOwn = true → ∀ j p sl', j ≠ i → sc.names[j]? = some p → Γ[j]? = some (some sl') → sl'.isOwn = true → a ≠ ad j ∧ a ≠ bd j ∧ c ≠ ad j ∧ c ≠ bd j) :
    Rel X k sc U W Γ' A env { s with heap := h', toks := tk } := by
  have hPU : ¬ U P := R.dis P hP
  have kp : ∀ b o, s.heap.get? b = some o → b ≠ P → h'.get? b = some o := fun b o e n => (hs.2 b n).trans e
  have ch : ∀ b o, s.heap.get? b = some o → ¬ (UW U W) b → h'.get? b = some o ∧ ¬ (UW U W) b := fun b o e n => ⟨kp b o e fun q => n (.inr (q ▸ hP)), n⟩
  have slot : ∀ a c v sl, SlotR X.prog X.w U W s.heap a c v sl → SlotR X.prog X.w U W h' a c v sl := by
    intro a c v sl q
    cases sl with
    | val av => exact VR.change ch q
    | own l o =>
      obtain ⟨rfl, hba, hw, vs, n, e, r⟩ := q
      exact ⟨rfl, hba, hw, vs, n, kp _ _ e (fun q => hnl vs n (q ▸ e)), r.change ch⟩
    | own2 l last =>
      obtain ⟨rfl, hw, hw2, ne, vs, n, us, m, e, e2, r, r2⟩ := q
      exact ⟨rfl, hw, hw2, ne, vs, n, us, m, kp _ _ e (fun q => hnl _ n (q ▸ e)), kp _ _ e2 (fun q => hnl _ m (q ▸ e2)), r.change ch, r2.change ch⟩
  refine { am := R.am, scp := R.scp, cod := R.cod, kind := R.kind, nod := R.nod, ndb := R.ndb, glob := R.glob, blt := R.blt, base := ?_, bW := R.bW, bU := R.bU, tab := ⟨?_⟩, Ult := ?_, Wlt := ?_, dis := R.dis, Ut := R.Ut, Us := R.Us, loc := ⟨R.loc.1, hloc⟩, cel := ?_, cinj := R.cinj, chas := R.chas, vars := ?_ }
  · exact fun b o e => kp b o (R.base b o e) fun q => (R.bW b o e).1 (q ▸ hP)
  · intro y hy
    have hne : y.1 ≠ P := fun q => R.Wt hP (q ▸ X.hT y hy)
    rcases R.tab.at_ y hy with e | ⟨c', h1, h2, ⟨c2, oc, vs, tq, hc, hoc, r⟩, e⟩
    · exact .inl (kp _ _ e hne)
    · refine .inr ⟨c', h1, h2, ⟨c2, oc, vs, tq, hc, ?_, r⟩, kp _ _ e hne⟩
      cases hc
      exact kp _ _ hoc fun q => h1 (.inr (q ▸ hP))
  · exact fun b hb => by show b < h'.objs.size; rw [hs.1]; exact R.Ult b hb
  · exact fun b hb => by show b < h'.objs.size; rw [hs.1]; exact R.Wlt b hb
  · exact fun y d hd => ⟨(R.cel y d hd).1, hcel y d hd⟩
  · refine ⟨fun j => if j = i then a else ad j, fun j => if j = i then c else bd j, fun j j' n₁ n₂ sl₁ sl₂ ne1 ne2 e1 e2 o1 o2 hne => ?_, fun j y kd' sl' e1 e2 => ?_⟩
    · by_cases q1 : j = i
      · subst q1
        have e1' := p.at.2.1
        rw [e1] at e1'; cases e1'
        have hj' : j' ≠ j := Ne.symm hne
        have z := hown o1 j' n₂ sl₂ hj' ne2 (p.at.2.2 j' sl₂ hj' e2) o2
        simp only [if_true, if_neg hj']
        exact ⟨z.1, z.2.1, z.2.2.2⟩
      · by_cases q2 : j' = i
        · subst q2
          have e2' := p.at.2.1
          rw [e2] at e2'; cases e2'
          have z := hown o2 j n₁ sl₁ q1 ne1 (p.at.2.2 j sl₁ q1 e1) o1
          simp only [if_true, if_neg q1]
          exact ⟨Ne.symm z.1, Ne.symm z.2.2.1, Ne.symm z.2.2.2⟩
        · simp only [if_neg q1, if_neg q2]
          exact V.1 j j' n₁ n₂ sl₁ sl₂ ne1 ne2 (p.at.2.2 j sl₁ q1 e1) (p.at.2.2 j' sl₂ q2 e2) o1 o2 hne
    · by_cases q1 : j = i
      · subst q1
        have e2' := p.at.2.1
        rw [e2] at e2'; cases e2'
        have e1' := p.at.1
        rw [e1] at e1'; cases e1'
        simp only [if_true]
        exact ⟨v, hx, slot _ _ _ _ hv⟩
      · simp only [if_neg q1]
        obtain ⟨u, hu, hsl⟩ := V.2 j y kd' sl' e1 (p.at.2.2 j sl' q1 e2)
        exact ⟨u, hoth j y kd' u q1 e1 hu, slot _ _ _ _ hsl⟩

theorem Ns.not_list {h : Heap} {a : Addr} {m : Str → Option Value} (hn : h.Ns a m) : ∀ vs n, h.get? a ≠ some (LObj vs n) := by
  obtain ⟨o, es, ep, e, hd, _⟩ := hn
  intro vs n q
  rw [e] at q; cases q; cases hd
theorem cell_not_list {h : Heap} {a : Addr} {v : Option Value} (hn : h.IsCell a v) : ∀ vs n, h.get? a ≠ some (LObj vs n) := by
  obtain ⟨o, e, hd⟩ := hn
  intro vs n q
  rw [e] at q; cases q; cases hd
theorem ns_not_cell {h : Heap} {a c : Addr} {m : Str → Option Value} {v : Option Value} (hn : h.Ns a m) (hc : h.IsCell c v) : a ≠ c := by
  rintro rfl
  obtain ⟨o, es, ep, e, hd, _⟩ := hn
  obtain ⟨o', e', hd'⟩ := hc
  rw [e] at e'; cases e'; rw [hd] at hd'; cases hd'
theorem Ns.det {h : Heap} {a : Addr} {m m' : Str → Option Value} (hn : h.Ns a m) (hn' : h.Ns a m') : m = m' := by
  obtain ⟨o, es, ep, e, hd, _, hm⟩ := hn
  obtain ⟨o', es', ep', e', hd', _, hm'⟩ := hn'
  rw [e] at e'; cases e'; rw [hd] at hd'; cases hd'
  funext x; rw [← hm, ← hm']

theorem Rel.store {i : Nat} {x : Str} {kd : NameKind} {sl : Slot} {v : Value} {a c : Addr} {ad bd : Nat → Addr} {Q : Unit → Shared → Prop} {E : Value → Shared → Prop}
    (R : Rel X k sc U W Γ A env s) (V : VarsOk X sc U W Γ env s.heap ad bd) (p : Put sc.names Γ i x kd sl Γ') (hkd : kd = .local ∨ kd = .cell)
    (hv : SlotR X.prog X.w U W s.heap a c v sl) (hown : sl.isOwn = true → ∀ j p sl', j ≠ i → sc.names[j]? = some p → Γ[j]? = some (some sl') → sl'.isOwn = true → a ≠ ad j ∧ a ≠ bd j ∧ c ≠ ad j ∧ c ≠ bd j)
    (q : ∀ h' tk, Rel X k sc U W Γ' A env { s with heap := h', toks := tk } → (∀ b o, s.heap.get? b = some o → ¬ W b → h'.get? b = some o) → s.heap.objs.size ≤ h'.objs.size → Q () { s with heap := h', toks := tk }) :
    wpAny (model X.prog X.w) A (storeName env x v) Q E s := by
  have hk := R.kindOf p.at.1
  obtain ⟨hL, m, hm⟩ := R.loc
  rcases hkd with rfl | rfl
  · refine wpAny_storeName_local hk hm (fun h' hn hs => ?_) (by rw [R.isFn]; rfl)
    refine q h' _ (R.storedAt V p hL (Ns.not_list hm) hs ⟨_, hn⟩ (fun y d hd => ?_) ⟨_, hn, by simp⟩ (fun j y kd' u hj e hu => ?_) hv hown) (fun b o e hb => (hs.2 b fun q => hb (q ▸ hL)).trans e) (Nat.le_of_eq hs.1.symm)
    · obtain ⟨_, w, hc⟩ := R.cel y d hd
      exact ⟨w, hc.sameBut hs (Ne.symm (ns_not_cell hm hc))⟩
    · cases kd' with
      | «local» =>
        obtain ⟨m', hm', hu⟩ := hu
        cases Ns.det hm hm'
        refine ⟨_, hn, ?_⟩
        have hne : y ≠ x := fun q => hj (name_inj R.nod (q ▸ e) p.at.1)
        simpa [hne] using hu
      | cell => obtain ⟨d, hd, hc⟩ := hu; exact ⟨d, hd, hc.sameBut hs (Ne.symm (ns_not_cell hm hc))⟩
      | free => obtain ⟨d, hd, hc⟩ := hu; exact ⟨d, hd, hc.sameBut hs (Ne.symm (ns_not_cell hm hc))⟩
      | _ => exact hu.elim
  · obtain ⟨c', hc', hW⟩ := R.chas i x _ p.at.1 (.inl rfl)
    have hW := hW rfl
    obtain ⟨_, w, hcell⟩ := R.cel x c' hc'
    refine wpAny_storeName_cell R.isFn hk hc' hcell fun h' hn hs => ?_
    refine q h' _ (R.storedAt V p hW (cell_not_list hcell) hs ⟨m, hm.sameBut hs (ns_not_cell hm hcell)⟩ (fun y d hd => ?_) ⟨c', hc', hn⟩ (fun j y kd' u hj e hu => ?_) hv hown) (fun b o e hb => (hs.2 b fun q => hb (q ▸ hW)).trans e) (Nat.le_of_eq hs.1.symm)
    · by_cases hd' : d = c'
      · exact ⟨_, hd' ▸ hn⟩
      · obtain ⟨_, w, hc⟩ := R.cel y d hd
        exact ⟨w, hc.sameBut hs hd'⟩
    · have hne : y ≠ x := fun q => hj (name_inj R.nod (q ▸ e) p.at.1)
      cases kd' with
      | «local» => obtain ⟨m', hm', hu⟩ := hu; exact ⟨m', hm'.sameBut hs (ns_not_cell hm' hcell), hu⟩
      | cell => obtain ⟨d, hd, hc⟩ := hu; exact ⟨d, hd, hc.sameBut hs fun q => hne (R.cinj y x c' (q ▸ hd) hc')⟩
      | free => obtain ⟨d, hd, hc⟩ := hu; exact ⟨d, hd, hc.sameBut hs fun q => hne (R.cinj y x c' (q ▸ hd) hc')⟩
      | _ => exact hu.elim

/-- a list made anew becomes the frame's own -/
theorem Rel.grow {h₁ : Heap} {tk : Nat} {a : Addr} {vs : List Value} {n : Nat} (R : Rel X k sc U W Γ A env s) (af : Aft X.T (UW U W) s.heap h₁) (ha : s.heap.objs.size ≤ a) (he : h₁.get? a = some (LObj vs n)) {ad bd : Nat → Addr} (V : VarsOk X sc U W Γ env s.heap ad bd) :
    Rel X k sc U (fun x => W x ∨ x = a) Γ A env { s with heap := h₁, toks := tk } ∧ VarsOk X sc U (fun x => W x ∨ x = a) Γ env h₁ ad bd := by
  have hlt := Heap.lt_size he
  have nat : a ∉ tabs := fun q => absurd (R.Ult a (R.Ut a q)) (Nat.not_lt.mpr ha)
  have ch : ∀ b o, s.heap.get? b = some o → ¬ (UW U W) b → h₁.get? b = some o ∧ ¬ (UW U fun x => W x ∨ x = a) b := fun b o e nb => by
    refine ⟨af.keep b o e fun q => nb (.inl (R.Ut b q)), ?_⟩
    rintro (q | q | q)
    · exact nb (.inl q)
    · exact nb (.inr q)
    · exact absurd (Heap.lt_size e) (Nat.not_lt.mpr (q ▸ ha))
  have V' : VarsOk X sc U (fun x => W x ∨ x = a) Γ env h₁ ad bd := by
    refine ⟨V.1, fun i x kd sl e1 e2 => ?_⟩
    obtain ⟨v, q1, q2⟩ := V.2 i x kd sl e1 e2
    refine ⟨v, q1.keeps R fun b o hb e => af.keep b o e (R.Kt hb), ?_⟩
    cases sl with
    | val av => exact VR.change ch q2
    | own l o =>
      obtain ⟨rfl, hba, hw, vs, n, e, r⟩ := q2
      exact ⟨rfl, hba, .inl hw, vs, n, af.keep _ _ e (R.Wt hw), r.change ch⟩
    | own2 l last =>
      obtain ⟨rfl, hw, hw2, ne, vs, n, us, m, e, e2, r, r2⟩ := q2
      exact ⟨rfl, .inl hw, .inl hw2, ne, vs, n, us, m, af.keep _ _ e (R.Wt hw), af.keep _ _ e2 (R.Wt hw2), r.change ch, r2.change ch⟩
  have R' := R.after (tk := tk) af
  refine ⟨{ am := R.am, scp := R.scp, cod := R.cod, kind := R.kind, nod := R.nod, ndb := R.ndb, glob := R.glob, blt := R.blt, base := R'.base, bW := ?_, bU := R.bU, tab := ⟨?_⟩, Ult := R'.Ult, Wlt := ?_, dis := ?_, Ut := R.Ut, Us := R.Us, loc := ⟨.inl R.loc.1, R'.loc.2⟩, cel := fun y d hd => ⟨(R'.cel y d hd).1.imp .inl id, (R'.cel y d hd).2⟩, cinj := R.cinj, chas := fun i y kd e q => (R.chas i y kd e q).imp fun c h => ⟨h.1, fun z => .inl (h.2 z)⟩, vars := ⟨ad, bd, V'⟩ }, V'⟩
  · intro b o e
    refine ⟨?_, (R.bW b o e).2⟩
    rintro (q | q)
    · exact (R.bW b o e).1 q
    · exact absurd (Heap.lt_size (R.base b o e)) (Nat.not_lt.mpr (q ▸ ha))
  · intro y hy
    rcases af.tab.at_ y hy with e | ⟨c', h1, h2, h3, e⟩
    · exact .inl e
    · refine .inr ⟨c', ?_, h2, h3, e⟩
      rintro (q | q | q)
      · exact h1 (.inl q)
      · exact h1 (.inr q)
      · obtain ⟨c2, oc, us, tq, hc, hoc, hdc, _⟩ := h3
        cases hc
        rw [q, he] at hoc; cases hoc; cases hdc
  · rintro b (hb | rfl)
    · exact R'.Wlt b hb
    · exact hlt
  · rintro b (hb | rfl) hU
    · exact R.dis b hb hU
    · exact absurd (R.Ult _ hU) (Nat.not_lt.mpr ha)
end
end Mine
namespace Mine

inductive Fl where
  | next (Γ : List (Option Slot))
  | ret (a : AV)

structure Chg (W W' : Addr → Prop) (h h' : Heap) : Prop where
  new : ∀ a, W' a → W a ∨ h.objs.size ≤ a
  keep : ∀ b o, h.get? b = some o → ¬ W b → b ∉ tabs → h'.get? b = some o
  size : h.objs.size ≤ h'.objs.size
theorem Chg.trans {W W₁ W₂ : Addr → Prop} {h h₁ h₂ : Heap} (x : Chg W W₁ h h₁) (y : Chg W₁ W₂ h₁ h₂) : Chg W W₂ h h₂ where
  new := fun a ha => by
    rcases y.new a ha with q | q
    · exact x.new a q
    · exact .inr (Nat.le_trans x.size q)
  keep := fun b o e nW nt => y.keep b o (x.keep b o e nW nt) (fun q => by
    rcases x.new b q with q | q
    · exact nW q
    · exact absurd (Heap.lt_size e) (Nat.not_lt.mpr q)) nt
  size := Nat.le_trans x.size y.size
theorem Chg.of_aft {T : List (Addr × Pos × Str)} {V W : Addr → Prop} {h h' : Heap} (a : Aft T V h h') : Chg W W h h' := ⟨fun _ h => .inl h, fun b o e _ nt => a.keep b o e nt, a.size⟩

noncomputable def Post (X : Cx) (k : Nat) (sc : Scope) (U W : Addr → Prop) (A : Around) (env : Env) (s : Shared) (Q : Flow → Shared → Prop) : Fl → Prop
  | .next Γ' => ∀ W' h' tk, Rel X k sc U W' Γ' A env { s with heap := h', toks := tk } → Chg W W' s.heap h' → Q .next { s with heap := h', toks := tk }
  | .ret av => ∀ W' v h' tk, Chg W W' s.heap h' → TabOk X.T U h' → VR X.prog X.w U h' v av → Q (.ret v) { s with heap := h', toks := tk }
noncomputable def Execs (X : Cx) (k : Nat) (sc : Scope) (Γ : List (Option Slot)) (ss : List Stmt) (r : Fl) : Prop :=
  ∀ ⦃U W A env s Q E⦄, Rel X k sc U W Γ A env s → Post X k sc U W A env s Q r → wpAny (model X.prog X.w) A (execs ss env) Q E s
noncomputable def Exec (X : Cx) (k : Nat) (sc : Scope) (Γ : List (Option Slot)) (st : Stmt) (r : Fl) : Prop :=
  ∀ ⦃U W A env s Q E⦄, Rel X k sc U W Γ A env s → Post X k sc U W A env s Q r → wpAny (model X.prog X.w) A (exec st env) Q E s

section
variable {X : Cx} {b : Bool} {k : Nat} {sc : Scope} {U W : Addr → Prop} {Γ Γ' : List (Option Slot)} {A : Around} {env : Env} {s : Shared} {r : Fl}

theorem Post.after {W₁ : Addr → Prop} {h₁ : Heap} {tk : Nat} {Q : Flow → Shared → Prop} (p : Post X k sc U W A env s Q r) (c : Chg W W₁ s.heap h₁) : Post X k sc U W₁ A env { s with heap := h₁, toks := tk } Q r := by
  cases r with
  | next Γ' => exact fun W' h' tk R c' => p W' h' tk R (c.trans c')
  | ret av => exact fun W' v h' tk c' t q => p W' v h' tk (c.trans c') t q

theorem S_nil : Execs X k sc Γ [] (.next Γ) := fun _ W _ _ s _ _ R p => wpAny_execs_nil (p W s.heap s.toks R (.of_aft (Aft.refl R)))
theorem S_cons {st : Stmt} {rest : List Stmt} (h1 : Exec X k sc Γ st (.next Γ')) (h2 : Execs X k sc Γ' rest r) : Execs X k sc Γ (st :: rest) r := by
  intro U W A env s Q E R p
  refine wpAny_execs_cons (h1 R ?_)
  intro W' h' tk R' c
  exact h2 R' (p.after c)
theorem S_consR {st : Stmt} {rest : List Stmt} {av : AV} (h1 : Exec X k sc Γ st (.ret av)) : Execs X k sc Γ (st :: rest) (.ret av) := by
  intro U W A env s Q E R p
  refine wpAny_execs_cons (h1 R ?_)
  intro W' v h' tk c t q
  exact p W' v h' tk c t q
theorem S_ifT {c : Expr} {ss ss' : List Stmt} {pos : Pos} (h1 : Tests X k sc Γ c true) (h2 : Execs X k sc Γ ss r) : Exec X k sc Γ (.If c ss ss' pos) r := by
  intro U W A env s Q E R p
  exact wpAny_If (h1 R fun h₁ t₁ a₁ => h2 (R.after a₁) (p.after (.of_aft a₁)))
theorem S_ifF {c : Expr} {ss ss' : List Stmt} {pos : Pos} (h1 : Tests X k sc Γ c false) (h2 : Execs X k sc Γ ss' r) : Exec X k sc Γ (.If c ss ss' pos) r := by
  intro U W A env s Q E R p
  exact wpAny_If (h1 R fun h₁ t₁ a₁ => h2 (R.after a₁) (p.after (.of_aft a₁)))

theorem TabOk.sub {T : List (Addr × Pos × Str)} {V V' : Addr → Prop} {h : Heap} (t : TabOk T V h) (hv : ∀ a, V' a → V a) : TabOk T V' h := ⟨fun y hy => by
  rcases t.at_ y hy with e | ⟨c', h1, h2, h3, e⟩
  · exact .inl e
  · exact .inr ⟨c', fun q => h1 (hv _ q), h2, h3, e⟩⟩
theorem VR.sub {prog : Program} {w : World} {V V' : Addr → Prop} {h : Heap} {v : Value} {a : AV} (r : VR prog w V h v a) (hv : ∀ a, V' a → V a) : VR prog w V' h v a :=
  r.change fun _ _ e n => ⟨e, fun q => n (hv _ q)⟩
theorem VRs.sub {prog : Program} {w : World} {V V' : Addr → Prop} {h : Heap} {v : List Value} {a : List AV} (r : VRs prog w V h v a) (hv : ∀ a, V' a → V a) : VRs prog w V' h v a :=
  r.change fun _ _ e n => ⟨e, fun q => n (hv _ q)⟩

theorem S_ret {e : Expr} {pos : Pos} {av : AV} (h1 : Evals X true k sc Γ e av) : Exec X k sc Γ (.Return (some e) pos) (.ret av) := by
  intro U W A env s Q E R p
  exact wpAny_Return_some (h1 R fun v h' tk a q => p W v h' tk (.of_aft a) (a.tab.sub fun _ h => .inl h) (q.vr.sub fun _ h => .inl h))
theorem S_retOwn {i : Nat} {x : Str} {kd : NameKind} {l : List AV} {o : Option Addr} {pos pos' : Pos} (L : Look sc.names Γ i x kd (.own l o)) : Exec X k sc Γ (.Return (some (.Name x pos)) pos') (.ret (.list l)) := by
  intro U W A env s Q E R p
  refine wpAny_Return_some ?_
  obtain ⟨ad, bd, _, hv⟩ := R.vars
  obtain ⟨v, h1, h2⟩ := hv i x kd _ L.at.1 L.at.2
  obtain ⟨rfl, hba, hw, vs, n, e1, e2⟩ := h2
  have af := Aft.refl R
  exact wpAny_Name (R.load L.at.1 h1 (p W _ s.heap s.toks (.of_aft af) (R.tab.sub fun _ h => .inl h) (.list (R.dis _ hw) e1 (e2.sub fun _ h => .inl h)))) (R.dbg L.at.1).1

theorem S_assign {x : Str} {pos pos' : Pos} {e : Expr} {av : AV} {i : Nat} {kd : NameKind} (h1 : Evals X true k sc Γ e av) (p : Put sc.names Γ i x kd (.val av) Γ') (hkd : kd = .local ∨ kd = .cell := by decide)
    (hs : ∀ env, swapsWith e (some (.Name x pos)) pos'.line env = pure false := by intro _; rfl) : Exec X k sc Γ (.Assign [.Name x pos] e pos') (.next Γ') := by
  intro U W A env s Q E R q
  refine wpAny_Assign_Name (h1 R fun v h₁ t₁ a₁ q₁ => ?_) (hs env)
  have R₁ := R.after (tk := t₁) a₁
  obtain ⟨ad, bd, V⟩ := R₁.vars
  refine R₁.store (a := 0) (c := 0) V p hkd q₁.vr (fun o => by cases o) fun h₂ t₂ R₂ kp sz => ?_
  exact q W h₂ t₂ R₂ ⟨fun _ h => .inl h, fun b o e nW nt => kp b o (a₁.keep b o e nt) nW, Nat.le_trans a₁.size sz⟩

/-- a list made anew -/
noncomputable def EvalsN (X : Cx) (k : Nat) (sc : Scope) (Γ : List (Option Slot)) (e : Expr) (l : List AV) : Prop :=
  ∀ ⦃U W A env s Q E⦄, Rel X k sc U W Γ A env s → (∀ a vs n h' tk, Aft X.T (UW U W) s.heap h' → s.heap.objs.size ≤ a → h'.get? a = some (LObj vs n) → VRs X.prog X.w (UW U fun x => W x ∨ x = a) h' vs l → Q (.ref a) { s with heap := h', toks := tk }) →
    wpAny (model X.prog X.w) A (eval e env) Q E s
theorem EvalsN.evals {e : Expr} {l : List AV} (h : EvalsN X k sc Γ e l) : Evals X b k sc Γ e (.list l) := by
  intro U W A env s Q E R q
  refine h R fun a vs n h' tk af ha e r => q _ h' tk af (.inl (.list ?_ e (r.sub fun _ z => z.imp id .inl)))
  rintro (z | z)
  · exact absurd (R.Ult a z) (Nat.not_lt.mpr ha)
  · exact absurd (R.Wlt a z) (Nat.not_lt.mpr ha)
theorem S_own {x : Str} {pos pos' : Pos} {e : Expr} {l : List AV} {i : Nat} {kd : NameKind} (h1 : EvalsN X k sc Γ e l) (p : Put sc.names Γ i x kd (.own l none) Γ') (hkd : kd = .local ∨ kd = .cell := by decide)
    (hs : ∀ env, swapsWith e (some (.Name x pos)) pos'.line env = pure false := by intro _; rfl) : Exec X k sc Γ (.Assign [.Name x pos] e pos') (.next Γ') := by
  intro U W A env s Q E R q
  refine wpAny_Assign_Name (h1 R fun a vs n h₁ t₁ a₁ ha e r => ?_) (hs env)
  obtain ⟨ad, bd, V⟩ := R.vars
  obtain ⟨R₁, V₁⟩ := R.grow (tk := t₁) a₁ ha e V
  have hsl : SlotR X.prog X.w U (fun x => W x ∨ x = a) h₁ a a (.ref a) (.own l none) := ⟨rfl, ⟨rfl, fun _ q => by cases q⟩, .inr rfl, vs, n, e, r⟩
  refine R₁.store (a := a) (c := a) V₁ p hkd hsl (fun _ j pj sl' hj en e' o' => ?_) fun h₂ t₂ R₂ kp sz => ?_
  · obtain ⟨v, _, hq⟩ := V.2 j pj.1 pj.2 sl' en e'
    have h1 := R.Wlt _ (slot_obj hq o').1
    have h2 := R.Wlt _ (slot_obj' hq o')
    have ha' : s.heap.objs.size ≤ a := ha
    exact ⟨fun q => Nat.not_lt.mpr (q ▸ ha') h1, fun q => Nat.not_lt.mpr (q ▸ ha') h2, fun q => Nat.not_lt.mpr (q ▸ ha') h1, fun q => Nat.not_lt.mpr (q ▸ ha') h2⟩
  · exact q _ h₂ t₂ R₂ ⟨fun _ h => h.imp id fun q => by rw [q]; exact ha, fun b o e nW nt => kp b o (a₁.keep b o e nt) (by
      rintro (z | z)
      · exact nW z
      · exact absurd (Heap.lt_size e) (Nat.not_lt.mpr (z ▸ ha))), Nat.le_trans a₁.size sz⟩
end
end Mine
namespace Mine

inductive VBs (b : Bool) (prog : Program) (w : World) (U W : Addr → Prop) (h : Heap) : List Value → List AV → Prop
  | nil : VBs b prog w U W h [] []
  | cons {v : Value} {a : AV} {vs : List Value} {as : List AV} : VB b prog w U W h v a → VBs b prog w U W h vs as → VBs b prog w U W h (v :: vs) (a :: as)
theorem VBs.vrs {prog : Program} {w : World} {U W : Addr → Prop} {h : Heap} : ∀ {vs : List Value} {as : List AV}, VBs true prog w U W h vs as → VRs prog w (UW U W) h vs as
 := by
  intro vs as r
  induction r with
  | nil => exact .nil
  | cons h1 _ ih => exact .cons h1.vr ih
theorem VBs.inv {b : Bool} {prog : Program} {w : World} {U W : Addr → Prop} {h : Heap} {vs : List Value} {a : AV} {as : List AV} (r : VBs b prog w U W h vs (a :: as)) : ∃ v vs', vs = v :: vs' ∧ VB b prog w U W h v a ∧ VBs b prog w U W h vs' as := by
  cases r with
  | cons h1 h2 => exact ⟨_, _, rfl, h1, h2⟩
theorem VBs.inv0 {b : Bool} {prog : Program} {w : World} {U W : Addr → Prop} {h : Heap} {vs : List Value} (r : VBs b prog w U W h vs []) : vs = [] := by
  cases r; rfl
theorem VBs.after {X : Cx} {b : Bool} {k : Nat} {sc : Scope} {U W : Addr → Prop} {Γ : List (Option Slot)} {A : Around} {env : Env} {s : Shared} {T : List (Addr × Pos × Str)} {h h' : Heap} (R : Rel X k sc U W Γ A env s)
    (a : Aft T (UW U W) h h') : ∀ {vs : List Value} {as : List AV}, VBs b X.prog X.w U W h vs as → VBs b X.prog X.w U W h' vs as
 := by
  intro vs as r
  induction r with
  | nil => exact .nil
  | cons h1 _ ih => exact .cons (h1.after R a) ih

inductive KWs (b : Bool) (prog : Program) (w : World) (U W : Addr → Prop) (h : Heap) : List (Str × Value) → List (Str × AV) → Prop
  | nil : KWs b prog w U W h [] []
  | cons {x : Str} {v : Value} {a : AV} {vs : List (Str × Value)} {as : List (Str × AV)} : VB b prog w U W h v a → KWs b prog w U W h vs as → KWs b prog w U W h ((x, v) :: vs) ((x, a) :: as)
noncomputable def EvalsL (X : Cx) (b : Bool) (k : Nat) (sc : Scope) (Γ : List (Option Slot)) (es : List Expr) (as : List AV) : Prop :=
  ∀ (pos : Pos) ⦃U W A env s Q E⦄, Rel X k sc U W Γ A env s → (∀ vs h' tk, Aft X.T (UW U W) s.heap h' → VBs b X.prog X.w U W h' vs as → Q vs { s with heap := h', toks := tk }) →
    wpAny (model X.prog X.w) A (spliced (backTo pos (starEach es env))) Q E s
noncomputable def EvalsK (X : Cx) (b : Bool) (k : Nat) (sc : Scope) (Γ : List (Option Slot)) (kws : List Keyword) (as : List (Str × AV)) : Prop :=
  ∀ (pos : Pos) ⦃U W A env s Q E⦄, Rel X k sc U W Γ A env s → ((backToKw pos (keywordEach kws env)).filterMap (·.1) = as.map (·.1)) ∧ ((backToKw pos (keywordEach kws env)).all (·.1.isSome) = true) ∧ ((backToKw pos (keywordEach kws env)).any (·.1.isNone) = false) ∧
    ((∀ vs h' tk, Aft X.T (UW U W) s.heap h' → VBs b X.prog X.w U W h' vs (as.map (·.2)) → Q vs { s with heap := h', toks := tk }) →
    wpAny (model X.prog X.w) A (evalAll ((backToKw pos (keywordEach kws env)).map (·.2))) Q E s)

section
variable {X : Cx} {b : Bool} {k : Nat} {sc : Scope} {U W : Addr → Prop} {Γ Γ' : List (Option Slot)} {A : Around} {env : Env} {s : Shared}

theorem L_nil : EvalsL X b k sc Γ [] [] := fun _ _ _ _ _ _ _ _ R q => spliced_nil (q [] _ _ (Aft.refl R) .nil)
theorem L_cons {e : Expr} {es : List Expr} {a : AV} {as : List AV} (h1 : Evals X b k sc Γ e a) (h2 : EvalsL X b k sc Γ es as) (he : ∀ env, starEach (e :: es) env = (false, eval e env) :: starEach es env := by intro _; rfl) : EvalsL X b k sc Γ (e :: es) (a :: as) := by
  intro pos U W A env s Q E R q
  rw [he]
  exact spliced_cons (h1 R fun v h₁ t₁ a₁ q₁ => h2 pos (R.after a₁) fun vs h₂ t₂ a₂ q₂ => q _ _ _ (a₁.trans a₂) (.cons (q₁.after R a₂) q₂))
theorem K_nil : EvalsK X b k sc Γ [] [] := fun _ _ _ _ _ _ _ _ R => ⟨rfl, rfl, rfl, fun q => wpAny_evalAll_nil (q [] _ _ (Aft.refl R) .nil)⟩
theorem K_cons {x : Str} {e : Expr} {p : Pos} {kws : List Keyword} {a : AV} {as : List (Str × AV)} (h1 : Evals X b k sc Γ e a) (h2 : EvalsK X b k sc Γ kws as) : EvalsK X b k sc Γ (⟨some x, e, p⟩ :: kws) ((x, a) :: as) := by
  intro pos U W A env s Q E R
  have h := h2 pos (Q := fun vs s => True) (E := fun _ _ => True) R
  refine ⟨?_, ?_, ?_, fun q => kwAll_cons (h1 R fun v h₁ t₁ a₁ q₁ => (h2 pos (R.after a₁)).2.2.2 fun vs h₂ t₂ a₂ q₂ => q _ _ _ (a₁.trans a₂) (.cons (q₁.after R a₂) q₂))⟩
  · show x :: List.filterMap (·.1) (backToKw pos (keywordEach kws env)) = _
    rw [h.1]; rfl
  · show (true && (backToKw pos (keywordEach kws env)).all (·.1.isSome)) = true
    rw [h.2.1]; rfl
  · show (false || (backToKw pos (keywordEach kws env)).any (·.1.isNone)) = false
    rw [h.2.2.1]; rfl

/-- what a call of a value gives -/
noncomputable def CallV (X : Cx) (k : Nat) (b : Bool) (f : Value) (as : List AV) (kw : List (Str × AV)) (c : AV) : Prop :=
  ∀ ⦃sc U W Γ A env s Q E vs ks⦄, Rel X k sc U W Γ A env s → VBs b X.prog X.w U W s.heap vs as → KWs b X.prog X.w U W s.heap ks kw →
    (∀ r h' tk, Aft X.T (UW U W) s.heap h' → VB true X.prog X.w U W h' r c → Q r { s with heap := h', toks := tk }) → wpAny (model X.prog X.w) A (call f vs ks) Q E s
noncomputable def KeepF (X : Cx) (f : Value) : Prop := (∃ a o fd, f = .ref a ∧ X.hb.get? a = some o ∧ o.data = .func fd) ∨ ∀ a, f ≠ .ref a

theorem keepF {f : Value} (hf : KeepF X f) (h : Heap) (hb : ∀ b o, X.hb.get? b = some o → h.get? b = some o) : ∃ k, (k = Keeper.frame ∨ k = Keeper.machine ∨ k = Keeper.boundFrame) ∧ Looks (model X.prog X.w) h (keeperOf f) k := by
  rcases hf with ⟨a, o, fd, rfl, ho, hd⟩ | hf
  · refine ⟨.frame, .inl rfl, fun A Q E s kk q => ?_⟩
    unfold keeperOf
    refine wpAny_bind (wpAny_load (kk _ _ (hb _ _ ho)) ?_)
    rw [hd]
    exact wpAny_pure q
  · refine ⟨.machine, .inr (.inl rfl), fun A Q E s kk q => ?_⟩
    cases f with
    | ref a => exact absurd rfl (hf a)
    | _ => exact wpAny_pure q

theorem KWs.zip {prog : Program} {w : World} {h : Heap} : ∀ {as : List (Str × AV)} {vs : List Value}, VBs b prog w U W h vs (as.map (·.2)) → KWs b prog w U W h ((as.map (·.1)).zip vs) as
  | [], _, .nil => .nil
  | (x, a) :: as, _, .cons h1 h2 => .cons h1 (KWs.zip h2)

theorem E_callC {func e : Expr} {rest : List Expr} {kws : List Keyword} {pos : Pos} {f : Value} {as : List AV} {kw : List (Str × AV)} {b' : Bool} {Q : Value → Shared → Prop} {E : Value → Shared → Prop}
    (hf : Evals X false k sc Γ func (.val f)) (hk : KeepF X f) (ha : EvalsL X b' k sc Γ (e :: rest) as) (hkw : EvalsK X b' k sc Γ kws kw) (R : Rel X k sc U W Γ A env s)
    (q : ∀ vs ks h' tk, Aft X.T (UW U W) s.heap h' → VBs b' X.prog X.w U W h' vs as → KWs b' X.prog X.w U W h' ks kw → wpAny (model X.prog X.w) A (call f vs ks) Q E { s with heap := h', toks := tk })
    (he : ∀ env, eval (.Call func (e :: rest) kws pos) env = (do callWith pos (← eval func env) [] (backTo pos (starEach (e :: rest) env)) (backToKw pos (keywordEach kws env))) := by intro _; rfl)
    (hns : ∀ env, (backTo pos (starEach (e :: rest) env)).any (·.1) = false := by intro _; rfl) (hst : ∀ env, starEach (e :: rest) env = (false, eval e env) :: starEach rest env := by intro _; rfl) :
    wpAny (model X.prog X.w) A (eval (.Call func (e :: rest) kws pos) env) Q E s := by
  rw [he]
  refine wpAny_bind (hf R fun v h₁ t₁ a₁ q₁ => ?_)
  cases q₁.val
  have R₁ := R.after (tk := t₁) a₁
  have hk0 := hkw pos (Q := fun vs s => True) (E := fun _ _ => True) R
  refine callWith_of (P := fun h => ∀ b o, X.hb.get? b = some o → h.get? b = some o) (by rw [hns, hk0.2.2.1]; rfl) (fun h hb => keepF hk h hb) ?_
  refine evalArgs_kw2 hk0.2.1 (ha pos R₁ fun vs h₂ t₂ a₂ q₂ => ?_) (hst env)
  have R₂ := R₁.after (tk := t₂) a₂
  refine (hkw pos R₂).2.2.2 fun ks h₃ t₃ a₃ q₃ => ?_
  have R₃ := R₂.after (tk := t₃) a₃
  refine ⟨R₃.base, ?_⟩
  rw [hk0.1]
  exact q _ _ _ _ ((a₁.trans a₂).trans a₃) (q₂.after R₁ a₃) (KWs.zip q₃)
theorem E_call {func e : Expr} {rest : List Expr} {kws : List Keyword} {pos : Pos} {f : Value} {as : List AV} {kw : List (Str × AV)} {c : AV} {b' : Bool}
    (hf : Evals X false k sc Γ func (.val f)) (hk : KeepF X f) (ha : EvalsL X b' k sc Γ (e :: rest) as) (hkw : EvalsK X b' k sc Γ kws kw) (hc : CallV X k b' f as kw c)
    (he : ∀ env, eval (.Call func (e :: rest) kws pos) env = (do callWith pos (← eval func env) [] (backTo pos (starEach (e :: rest) env)) (backToKw pos (keywordEach kws env))) := by intro _; rfl)
    (hns : ∀ env, (backTo pos (starEach (e :: rest) env)).any (·.1) = false := by intro _; rfl) (hst : ∀ env, starEach (e :: rest) env = (false, eval e env) :: starEach rest env := by intro _; rfl) :
    Evals X b k sc Γ (.Call func (e :: rest) kws pos) c := by
  intro U W A env s Q E R q
  exact E_callC hf hk ha hkw R (fun vs ks h' tk a h1 h2 => hc (R.after a) h1 h2 fun r h₄ t₄ a₄ q₄ => q _ _ _ (a.trans a₄) q₄.weak) he hns hst

/-- a def of the text's own, at its address -/
structure FnAt (X : Cx) (a : Addr) (name : Str) (params : Arguments) (body : List Stmt) (scope : Scope) (fd : FuncData) : Prop where
  obj : ∃ o, X.hb.get? a = some o ∧ o.data = .func fd
  eparams : fd.params = params
  ebody : fd.body = .stmts body
  escope : fd.scope = scope
  globals : fd.globals = mainGlobals
  closure : fd.closure = []
  builtins : fd.builtins = builtinsNs
  code : X.hb.CodeRec fd.code fd.qualname
  kind : scope.kind = .function
  nod : (scope.names.map (·.1)).Nodup
  ndb : ∀ p ∈ scope.names, (p.1 == ("__debug__" : Str)) = false ∧ (p.1 == ("__classdict__" : Str)) = false
  nco : scope.isCoroutine = false
  ngen : scope.isGenerator = false
  nofr : ∀ p ∈ scope.names, p.2 ≠ .free
  cod : ∀ a q, codeFor scope = some (a, q) → fd.code = .ref a ∧ fd.qualname = q

theorem bindL_skip {kindOf : Str → Option NameKind} : ∀ {binds : List (Str × Value)} {m : Str → Option Value} {x : Str}, x ∉ binds.map (·.1) → bindL kindOf binds m x = m x
  | [], _, _, _ => rfl
  | (y, v) :: r, m, x, hx => by
    simp only [List.map_cons, List.mem_cons, not_or] at hx
    unfold bindL
    rw [bindL_skip hx.2]
    split
    · exact if_neg hx.1
    · rfl
theorem bindC_skip {kindOf : Str → Option NameKind} : ∀ {binds : List (Str × Value)} {m : Str → Option Value} {x : Str}, x ∉ binds.map (·.1) → bindC kindOf binds m x = m x
  | [], _, _, _ => rfl
  | (y, v) :: r, m, x, hx => by
    simp only [List.map_cons, List.mem_cons, not_or] at hx
    unfold bindC
    rw [bindC_skip hx.2]
    split
    · rfl
    · exact if_neg hx.1
theorem bindL_at {kindOf : Str → Option NameKind} : ∀ {binds : List (Str × Value)} {m : Str → Option Value} {x : Str} {v : Value} {i : Nat}, (binds.map (·.1)).Nodup → binds[i]? = some (x, v) → kindOf x = some .local → bindL kindOf binds m x = some v
  | [], _, _, _, i, _, e, _ => by simp at e
  | (y, u) :: r, m, x, v, 0, hn, e, hk => by
    simp at e; obtain ⟨rfl, rfl⟩ := e
    rw [List.map_cons, List.nodup_cons] at hn
    unfold bindL
    rw [bindL_skip hn.1, if_pos hk]; simp
  | (y, u) :: r, m, x, v, i + 1, hn, e, hk => by
    rw [List.map_cons, List.nodup_cons] at hn
    unfold bindL
    exact bindL_at hn.2 (by simpa using e) hk
theorem bindC_at {kindOf : Str → Option NameKind} : ∀ {binds : List (Str × Value)} {m : Str → Option Value} {x : Str} {v : Value} {i : Nat}, (binds.map (·.1)).Nodup → binds[i]? = some (x, v) → kindOf x = some .cell → bindC kindOf binds m x = some v
  | [], _, _, _, i, _, e, _ => by simp at e
  | (y, u) :: r, m, x, v, 0, hn, e, hk => by
    simp at e; obtain ⟨rfl, rfl⟩ := e
    rw [List.map_cons, List.nodup_cons] at hn
    unfold bindC
    rw [bindC_skip hn.1, if_neg (by rw [hk]; decide)]; simp
  | (y, u) :: r, m, x, v, i + 1, hn, e, hk => by
    rw [List.map_cons, List.nodup_cons] at hn
    unfold bindC
    exact bindC_at hn.2 (by simpa using e) hk
theorem cells_has : ∀ (ns : List (Str × NameKind)) (n : Nat) (acc : List (Str × Addr)) {i : Nat} {x : Str}, (ns[i]? = some (x, NameKind.cell) ∨ (acc.lookup x).isSome = true) → ((cellsFrom n ns acc).lookup x).isSome = true
  | [], n, acc, i, x, h => by
    rcases h with h | h
    · simp at h
    · exact h
  | (y, kd) :: r, n, acc, i, x, h => by
    unfold cellsFrom
    have step : ∀ c, ((List.lookup x ((y, c) :: acc)).isSome = true) ∨ ((acc.lookup x).isSome = true → False) := fun c => by
      cases hxy : x == y with
      | true => left; simp [List.lookup_cons, hxy]
      | false => by_cases q : (acc.lookup x).isSome = true
                 · left; simp only [List.lookup_cons, hxy]; exact q
                 · exact .inr q
    by_cases hk : (kd == NameKind.cell) = true
    · rw [if_pos hk]
      rcases h with h | h
      · cases i with
        | zero =>
          simp at h; obtain ⟨rfl, rfl⟩ := h
          exact cells_has r (n + 1) _ (i := 0) (.inr (by simp [List.lookup_cons]))
        | succ i => exact cells_has r (n + 1) _ (i := i) (.inl (by simpa using h))
      · exact cells_has r (n + 1) _ (i := 0) (.inr ((step n).resolve_right fun q => q h))
    · rw [if_neg hk]
      rcases h with h | h
      · cases i with
        | zero => simp at h; obtain ⟨rfl, rfl⟩ := h; exact absurd rfl hk
        | succ i => exact cells_has r n _ (i := i) (.inl (by simpa using h))
      · exact cells_has r n _ (i := 0) (.inr h)

end
end Mine
namespace Mine

theorem runs_size {M : Model} {Γ : PySem.Ctx} {p : Pos} {t : Sem Fin} {fs : List Frame} {s s' : Shared} {e : End} (h : Runs M Γ p t fs s e s') : s.heap.objs.size ≤ s'.heap.objs.size := by
  induction h <;> (try simp only [Shared.setGen, Heap.size_push, Heap.size_after_update] at *) <;> omega

theorem wakes_size {M : Model} {Γ : PySem.Ctx} {p : Pos} {g : Nat} {r : Resume} {s s' : Shared} {res : GenResult} (h : Wakes M Γ p g r s res s') : s.heap.objs.size ≤ s'.heap.objs.size := by
  unfold Wakes at h
  split at h
  · exact h.elim
  · split at h
    · obtain ⟨_, s₁, hr, _, _, rfl⟩ := h; exact (runs_size hr : (s.setGen g .running).heap.objs.size ≤ s₁.heap.objs.size)
    · rw [h.2]; exact Nat.le_refl _
    · rw [h.2]; exact Nat.le_refl _
  · obtain ⟨_, s₁, hr, _, _, rfl⟩ := h; exact (runs_size hr : (s.setGen g .running).heap.objs.size ≤ s₁.heap.objs.size)
  · rw [h.2]; exact Nat.le_refl _
  · rw [h.2]; exact Nat.le_refl _

theorem wp_size {α : Type} (M : Model) (Γ : PySem.Ctx) (n : Nat) (t : Sem α) : ∀ (Q : α → Pos → Shared → Prop) (E : Value → Pos → Shared → Prop) (p : Pos) (s : Shared), n ≤ s.heap.objs.size → Sem.wp M Γ t Q E p s →
    Sem.wp M Γ t (fun a p' s' => n ≤ s'.heap.objs.size ∧ Q a p' s') E p s := by
  induction t with
  | pure a => exact fun Q E p s hn h => ⟨hn, h⟩
  | raise e => exact fun Q E p s hn h => h
  | unsupported _ => exact fun Q E p s _ h => h
  | finish _ => exact fun Q E p s _ h => h
  | rule _ k ih => exact fun Q E p s hn h => ih () Q E p s hn h
  | «at» p' k ih => exact fun Q E p s hn h => ih () Q E p' s hn h
  | load a _ k ih => exact fun Q E p s hn h => let ⟨o, ho, h⟩ := h; ⟨o, ho, ih o Q E p s hn h⟩
  | update a _ f k ih => exact fun Q E p s hn h => ⟨h.1, ih () Q E p _ (by rw [Heap.size_after_update]; exact hn) h.2⟩
  | loadIfAlive a k ih => exact fun Q E p s hn h => ih _ Q E p s hn h
  | point _ k ih => exact fun Q E p s hn h => ih () Q E p s hn h
  | register _ _ => exact fun Q E p s _ h => h
  | alloc o k ih => exact fun Q E p s hn h => ih _ Q E p _ (by rw [Heap.size_push]; omega) h
  | fresh k ih => exact fun Q E p s hn h => ih _ Q E p _ hn h
  | ask k ih => exact fun Q E p s hn h => ih _ Q E p s hn h
  | choose src m k ih => exact fun Q E p s hn h => ⟨h.1, ih _ Q E p _ hn h.2⟩
  | os q _ k ih => exact fun Q E p s hn h => ih _ Q E p _ hn h
  | call c hd _ _ k ih => exact fun Q E p s hn h => let ⟨r, s', hr, h⟩ := h; ⟨r, s', hr, ih r Q E p s' (Nat.le_trans hn (runs_size hr)) h⟩
  | handled own k ih => exact fun Q E p s hn h => ih _ Q E p s hn h
  | genState g k ih => exact fun Q E p s hn h => let ⟨st, hs, h⟩ := h; ⟨st, hs, ih _ Q E p s hn h⟩
  | newGen c k ih => exact fun Q E p s hn h => ih _ Q E p _ hn h
  | resume g r _ k ih => exact fun Q E p s hn h => let ⟨res, s', hw, h⟩ := h; ⟨res, s', hw, ih res Q E p s' (Nat.le_trans hn (wakes_size hw)) h⟩
  | yield _ _ _ _ => exact fun Q E p s _ h => h
  | stack k ih => exact fun Q E p s hn h => ih _ Q E p s hn h
  | fork _ _ => exact fun Q E p s _ h => h
  | thread k ih => exact fun Q E p s hn h => ih _ Q E p s hn h
  | await _ _ _ _ _ => exact fun Q E p s _ h => h
theorem wpAny_size {α : Type} {M : Model} {A : Around} {s : Shared} {t : Sem α} {Q : α → Shared → Prop} {E : Value → Shared → Prop} {n : Nat} (hn : n ≤ s.heap.objs.size) (h : wpAny M A t Q E s) :
    wpAny M A t (fun a s' => n ≤ s'.heap.objs.size ∧ Q a s') E s := fun Γ p hΓ => wp_size M Γ n t _ _ p s hn (h Γ p hΓ)
/-- the size for free -/
theorem wpAny_with_size {α : Type} {M : Model} {A : Around} {s : Shared} {t : Sem α} {Q : α → Shared → Prop} {E : Value → Shared → Prop}
    (h : wpAny M A t (fun a s' => s.heap.objs.size ≤ s'.heap.objs.size → Q a s') E s) : wpAny M A t Q E s :=
  wpAny_mono (wpAny_size (Nat.le_refl _) h) (fun _ _ q => q.2 q.1) fun _ _ e => e
end Mine
namespace Mine

section
variable {prog : Program} {w : World} {A : Around} {s : Shared} {R : Result → Shared → Prop}
theorem while_step {test : Expr} {body : List Stmt} {env : Env}
    (h : wpAny (model prog w) A (isTrue test env (eval test env)) (fun b s₂ =>
        if b then wpAny (model prog w) A (execs body env) (fun f s₃ => match f with
            | .next | .cont => codeAny (model prog w) A (.whileLoop test body [] env) R s₃
            | .brk => R (.ok .next) s₃
            | .ret v => R (.ok (.ret v)) s₃) (notedBy (model prog w) A env fun e s' => R (.error e) s') s₂
        else R (.ok .next) s₂) (notedBy (model prog w) A env fun e s' => R (.error e) s') s) : codeAny (model prog w) A (.whileLoop test body [] env) R s := by
  refine codeAny_of_tree ?_
  show wpAny _ A ((whileTurn test body [] env).onRaise (fun x => do noteFrame x env; theTreesLotGoes x)) _ _ s
  refine wpAny_noted ?_
  simp only [whileTurn]
  refine wpAny_bind (wpAny_mono h (fun b s₂ h₂ => ?_) fun _ _ h' => h')
  cases b with
  | false =>
    simp only [Bool.false_eq_true, if_false] at h₂ ⊢
    exact wpAny_bind (wpAny_execs_nil (wpAny_pure h₂))
  | true =>
    simp only [if_true] at h₂ ⊢
    refine wpAny_bind (wpAny_mono h₂ (fun f s₃ h₃ => ?_) fun _ _ h' => h')
    cases f with
    | next => exact wpAny_pure ⟨rfl, h₃⟩
    | cont => exact wpAny_pure ⟨rfl, h₃⟩
    | brk => exact wpAny_pure h₃
    | ret v => exact wpAny_pure h₃
theorem for_step {target : Expr} {it : Value} {body : List Stmt} {env : Env}
    (h : wpAny (model prog w) A (pyNext it) (fun r s₁ => match r with
      | none => R (.ok .next) s₁
      | some v => wpAny (model prog w) A (assign target env v) (fun _ s₂ => wpAny (model prog w) A (execs body env) (fun f s₃ => match f with
          | .next | .cont => codeAny (model prog w) A (.forLoop target it body [] env) R s₃
          | .brk => R (.ok .next) s₃
          | .ret v => R (.ok (.ret v)) s₃) (notedBy (model prog w) A env fun e s' => R (.error e) s') s₂) (notedBy (model prog w) A env fun e s' => R (.error e) s') s₁) (notedBy (model prog w) A env fun e s' => R (.error e) s') s)
    (ht : ∀ v, letOwnedTupleGo target it v = pure ()) : codeAny (model prog w) A (.forLoop target it body [] env) R s := by
  refine codeAny_of_tree ?_
  show wpAny _ A ((forTurn target it body [] env).onRaise (fun x => do noteFrame x env; theTreesLotGoes x)) _ _ s
  refine wpAny_noted ?_
  simp only [forTurn]
  refine wpAny_bind (wpAny_standAt (wpAny_bind (wpAny_onRaise (wpAny_mono h (fun r s₁ h₁ => ?_) fun _ _ h' => wpAny_standAt h'))))
  cases r with
  | none => exact wpAny_pure ⟨rfl, codeAny_block (wpAny_execs_nil h₁)⟩
  | some v =>
    refine wpAny_bind (wpAny_of_eq (ht v) ?_)
    refine wpAny_bind (wpAny_mono h₁ (fun _ s₂ h₂ => wpAny_bind (wpAny_mono h₂ (fun f s₃ h₃ => ?_) fun _ _ h' => h')) fun _ _ h' => h')
    cases f with
    | next => exact wpAny_pure ⟨rfl, h₃⟩
    | cont => exact wpAny_pure ⟨rfl, h₃⟩
    | brk => exact wpAny_pure h₃
    | ret v => exact wpAny_pure h₃
end

noncomputable def Came (X : Cx) (A : Around) (env : Env) (Q : Flow → Shared → Prop) (E : Value → Shared → Prop) (r : Result) (s' : Shared) : Prop := match r with | .ok f => Q f s' | .error e => cameBackBy (model X.prog X.w) A env E e s'

noncomputable def Whiles (X : Cx) (k : Nat) (sc : Scope) (Γ : List (Option Slot)) (test : Expr) (body : List Stmt) (r : Fl) : Prop :=
  ∀ ⦃U W A env s Q E⦄, Rel X k sc U W Γ A env s → Post X k sc U W A env s Q r → codeAny (model X.prog X.w) A (.whileLoop test body [] env) (Came X A env Q E) s

/-- the end of a loop, told from the heap before the loop -/
noncomputable def PostAt (X : Cx) (k : Nat) (sc : Scope) (U W₀ : Addr → Prop) (A : Around) (env : Env) (h₀ : Heap) (s : Shared) (Q : Flow → Shared → Prop) : Fl → Prop
  | .next Γ' => ∀ W' h' tk, Rel X k sc U W' Γ' A env { s with heap := h', toks := tk } → Chg W₀ W' h₀ h' → Q .next { s with heap := h', toks := tk }
  | .ret av => ∀ W' v h' tk, Chg W₀ W' h₀ h' → TabOk X.T U h' → VR X.prog X.w U h' v av → Q (.ret v) { s with heap := h', toks := tk }

structure IterAt (X : Cx) (U W : Addr → Prop) (A : Around) (h₀ h : Heap) (I : Addr) (fp wr : List Addr) (n : Nat) (P : Nat → Value → Prop) (St : Nat → Heap → Prop) (i : Nat) (items : List AV) : Prop where
  walks : Walks X.prog X.w A I fp wr n P St
  st : St i h
  len : n = i + items.length
  fp : ∀ b ∈ fp, b < h.objs.size ∧ ¬ W b ∧ b ∉ tabs
  wr : ∀ b ∈ wr, U b ∧ h₀.objs.size ≤ b
  vals : ∀ (j : Nat) (a : AV), items[j]? = some a → ∀ v, P (i + j) v → VR X.prog X.w (UW U W) h v a

noncomputable def Fors (X : Cx) (k : Nat) (sc : Scope) (Γ : List (Option Slot)) (tgt : Expr) (body : List Stmt) (items : List AV) (r : Fl) : Prop :=
  ∀ ⦃U W W₀ A env h₀ s Q E I fp wr n P St i⦄, Rel X k sc U W Γ A env s → IterAt X U W A h₀ s.heap I fp wr n P St i items → (∀ b o, X.hb.get? b = some o → b < h₀.objs.size) → Chg W₀ W h₀ s.heap → PostAt X k sc U W₀ A env h₀ s Q r →
    codeAny (model X.prog X.w) A (.forLoop tgt (.ref I) body [] env) (Came X A env Q E) s

section
variable {X : Cx} {b : Bool} {k : Nat} {sc : Scope} {U W : Addr → Prop} {Γ Γ' Γ₁ : List (Option Slot)} {A : Around} {env : Env} {s : Shared} {r : Fl}

theorem W_done {test : Expr} {body : List Stmt} (h : Tests X k sc Γ test false) : Whiles X k sc Γ test body (.next Γ) := by
  intro U W A env s Q E R p
  exact while_step (h R fun h₁ t₁ a₁ => p W h₁ t₁ (R.after a₁) (.of_aft a₁))
theorem W_step {test : Expr} {body : List Stmt} (h : Tests X k sc Γ test true) (hb : Execs X k sc Γ body (.next Γ')) (hr : Whiles X k sc Γ' test body r) : Whiles X k sc Γ test body r := by
  intro U W A env s Q E R p
  refine while_step (h R fun h₁ t₁ a₁ => ?_)
  rw [if_pos rfl]
  refine hb (R.after a₁) ?_
  intro W' h' tk R' c
  exact hr R' (p.after ((Chg.of_aft a₁).trans c))
theorem S_while {test : Expr} {body : List Stmt} {pos : Pos} (h : Whiles X k sc Γ test body r) : Exec X k sc Γ (.While test body [] pos) r := by
  intro U W A env s Q E R p
  refine wpAny_While ?_
  exact codeAny_mono (h R p) fun r s' q => by cases r <;> exact q

/-- a change at places that nothing of ours reads -/
theorem Rel.poke {h' : Heap} {tk : Nat} {Z : List Addr} (R : Rel X k sc U W Γ A env s) (hZ : ∀ b ∈ Z, U b ∧ b ∉ tabs ∧ ∀ o, X.hb.get? b ≠ some o)
    (kp : ∀ b o, b ∉ Z → s.heap.get? b = some o → h'.get? b = some o) (hsz : s.heap.objs.size ≤ h'.objs.size) : Rel X k sc U W Γ A env { s with heap := h', toks := tk } := by
  have nz : ∀ b, ¬ U b → b ∉ Z := fun b n q => n (hZ b q).1
  have ch : ∀ b o, s.heap.get? b = some o → ¬ (UW U W) b → h'.get? b = some o ∧ ¬ (UW U W) b := fun b o e n => ⟨kp b o (nz b fun q => n (.inl q)) e, n⟩
  have kw : ∀ b o, Kp X W b → s.heap.get? b = some o → h'.get? b = some o := fun b o hw e => kp b o (fun q => by
    rcases hw with hw | ⟨ob, hw⟩
    · exact nz b (R.dis b hw) q
    · exact (hZ b q).2.2 ob hw) e
  refine { am := R.am, scp := R.scp, cod := R.cod, kind := R.kind, nod := R.nod, ndb := R.ndb, glob := R.glob, blt := R.blt, base := fun b o e => kp b o (fun q => (hZ b q).2.2 o e) (R.base b o e), bW := R.bW, bU := R.bU, tab := ⟨fun y hy => ?_⟩, Ult := fun b hb => Nat.lt_of_lt_of_le (R.Ult b hb) hsz, Wlt := fun b hb => Nat.lt_of_lt_of_le (R.Wlt b hb) hsz, dis := R.dis, Ut := R.Ut, Us := R.Us, loc := ?_, cel := ?_, cinj := R.cinj, chas := R.chas, vars := ?_ }
  · have ht : y.1 ∉ Z := fun q => (hZ _ q).2.1 (X.hT y hy)
    rcases R.tab.at_ y hy with e | ⟨c', h1, h2, ⟨c2, oc, us, tq, hc, hoc, rr⟩, e⟩
    · exact .inl (kp _ _ ht e)
    · refine .inr ⟨c', h1, h2, ⟨c2, oc, us, tq, hc, ?_, rr⟩, kp _ _ ht e⟩
      cases hc
      exact (ch _ _ hoc h1).1
  · obtain ⟨h1, m, o, es, ep, e, rr⟩ := R.loc
    exact ⟨h1, m, o, es, ep, kw _ _ (.inl h1) e, rr⟩
  · intro x c hc
    obtain ⟨h1, v, o, e, rr⟩ := R.cel x c hc
    exact ⟨h1, v, o, kw _ _ h1 e, rr⟩
  · obtain ⟨ad, bd, h1, h2⟩ := R.vars
    refine ⟨ad, bd, h1, fun i x kd sl e1 e2 => ?_⟩
    obtain ⟨v, q1, q2⟩ := h2 i x kd sl e1 e2
    refine ⟨v, q1.keeps R kw, ?_⟩
    cases sl with
    | val av => exact VR.change ch q2
    | own l o =>
      obtain ⟨rfl, hba, hw, vs, n, e, rr⟩ := q2
      exact ⟨rfl, hba, hw, vs, n, kw _ _ (.inl hw) e, rr.change ch⟩
    | own2 l last =>
      obtain ⟨rfl, hw, hw2, ne, vs, n, us, m, e, e2, rr, r2⟩ := q2
      exact ⟨rfl, hw, hw2, ne, vs, n, us, m, kw _ _ (.inl hw) e, kw _ _ (.inl hw2) e2, rr.change ch, r2.change ch⟩

/-- fresh places that the frame does not write are put beyond its reach -/
theorem Rel.guard {h₁ : Heap} {tk : Nat} {Z : List Addr} (R : Rel X k sc U W Γ A env s) (af : Aft X.T (UW U W) s.heap h₁) (hZ : ∀ b ∈ Z, s.heap.objs.size ≤ b ∧ b < h₁.objs.size ∧ ∀ q, ¬ h₁.CodeRec (.ref b) q) :
    Rel X k sc (fun x => U x ∨ x ∈ Z) W Γ A env { s with heap := h₁, toks := tk } := by
  have R' := R.after (tk := tk) af
  have ch : ∀ b o, s.heap.get? b = some o → ¬ (UW U W) b → h₁.get? b = some o ∧ ¬ (UW (fun x => U x ∨ x ∈ Z) W) b := fun b o e n => by
    refine ⟨af.keep b o e fun q => n (.inl (R.Ut b q)), ?_⟩
    rintro ((q | q) | q)
    · exact n (.inl q)
    · exact absurd (Heap.lt_size e) (Nat.not_lt.mpr (hZ b q).1)
    · exact n (.inr q)
  have kw : ∀ b o, Kp X W b → s.heap.get? b = some o → h₁.get? b = some o := fun b o hw e => af.keep b o e (R.Kt hw)
  refine { am := R.am, scp := R.scp, cod := R.cod, kind := R.kind, nod := R.nod, ndb := R.ndb, glob := R.glob, blt := R.blt, base := R'.base, bW := R.bW, bU := fun b o e z => z.elim (R.bU b o e) fun z => absurd (Heap.lt_size (R.base b o e)) (Nat.not_lt.mpr (hZ b z).1), tab := ⟨fun y hy => ?_⟩, Ult := ?_, Wlt := R'.Wlt, dis := ?_, Ut := fun b hb => .inl (R.Ut b hb), Us := .inl R.Us, loc := R'.loc, cel := R'.cel, cinj := R.cinj, chas := R.chas, vars := ?_ }
  · rcases af.tab.at_ y hy with e | ⟨c', h1, h2, h3, e⟩
    · exact .inl e
    · refine .inr ⟨c', ?_, h2, h3, e⟩
      rintro ((q | q) | q)
      · exact h1 (.inl q)
      · exact (hZ _ q).2.2 _ h3
      · exact h1 (.inr q)
  · rintro b (q | q)
    · exact R'.Ult b q
    · exact (hZ b q).2.1
  · rintro b hw (q | q)
    · exact R.dis b hw q
    · exact absurd (R.Wlt b hw) (Nat.not_lt.mpr (hZ b q).1)
  · obtain ⟨ad, bd, h1, h2⟩ := R.vars
    refine ⟨ad, bd, h1, fun i x kd sl e1 e2 => ?_⟩
    obtain ⟨v, q1, q2⟩ := h2 i x kd sl e1 e2
    refine ⟨v, q1.keeps R kw, ?_⟩
    cases sl with
    | val av => exact VR.change ch q2
    | own l o =>
      obtain ⟨rfl, hba, hw, vs, n, e, rr⟩ := q2
      exact ⟨rfl, hba, hw, vs, n, kw _ _ (.inl hw) e, rr.change ch⟩
    | own2 l last =>
      obtain ⟨rfl, hw, hw2, ne, vs, n, us, m, e, e2, rr, r2⟩ := q2
      exact ⟨rfl, hw, hw2, ne, vs, n, us, m, kw _ _ (.inl hw) e, kw _ _ (.inl hw2) e2, rr.change ch, r2.change ch⟩

theorem Rel.subU {Z : List Addr} (R : Rel X k sc (fun x => U x ∨ x ∈ Z) W Γ A env s) (Ut : ∀ a ∈ tabs, U a) (Us : U sysModules) : Rel X k sc U W Γ A env s := by
  have ch : ∀ b o, s.heap.get? b = some o → ¬ (UW (fun x => U x ∨ x ∈ Z) W) b → s.heap.get? b = some o ∧ ¬ (UW U W) b := fun b o e n => ⟨e, fun q => n (q.imp .inl id)⟩
  refine { am := R.am, scp := R.scp, cod := R.cod, kind := R.kind, nod := R.nod, ndb := R.ndb, glob := R.glob, blt := R.blt, base := R.base, bW := R.bW, bU := fun b o e z => R.bU b o e (.inl z), tab := R.tab.sub fun a q => q.imp .inl id, Ult := fun b q => R.Ult b (.inl q), Wlt := R.Wlt, dis := fun b hw q => R.dis b hw (.inl q), Ut := Ut, Us := Us, loc := R.loc, cel := R.cel, cinj := R.cinj, chas := R.chas, vars := ?_ }
  obtain ⟨ad, bd, h1, h2⟩ := R.vars
  refine ⟨ad, bd, h1, fun i x kd sl e1 e2 => ?_⟩
  obtain ⟨v, q1, q2⟩ := h2 i x kd sl e1 e2
  refine ⟨v, q1, ?_⟩
  cases sl with
  | val av => exact VR.change ch q2
  | own l o =>
    obtain ⟨rfl, hba, hw, vs, n, e, rr⟩ := q2
    exact ⟨rfl, hba, hw, vs, n, e, rr.change ch⟩
  | own2 l last =>
    obtain ⟨rfl, hw, hw2, ne, vs, n, us, m, e, e2, rr, r2⟩ := q2
    exact ⟨rfl, hw, hw2, ne, vs, n, us, m, e, e2, rr.change ch, r2.change ch⟩

theorem F_nil {tgt : Expr} {body : List Stmt} (ht : ∀ it v, letOwnedTupleGo tgt it v = pure ()) : Fors X k sc Γ tgt body [] (.next Γ) := by
  intro U W W₀ A env h₀ s Q E I fp wr n P St i R it hb c p
  refine for_step ?_ (ht _)
  refine wpAny_with_size (it.walks.done s _ _ (by have := it.len; simp at this; exact this ▸ it.st) fun h' tk kp hsz => ?_)
  refine p W h' tk (R.poke (Z := wr) (fun b hw => ⟨(it.wr b hw).1, (it.fp b (it.walks.sub b hw)).2.2, fun o e => absurd (hb b o e) (Nat.not_lt.mpr (it.wr b hw).2)⟩) kp hsz) ?_
  exact ⟨c.new, fun b o e nW nt => kp b o (fun q => absurd (Heap.lt_size e) (Nat.not_lt.mpr (it.wr b q).2)) (c.keep b o e nW nt), Nat.le_trans c.size hsz⟩

theorem for_turn {x : Str} {pos : Pos} {body : List Stmt} {items : List AV} {a : AV} {i' : Nat} {kd : NameKind} {r₁ : Fl} (p : Put sc.names Γ i' x kd (.val a) Γ₁) (hkd : kd = .local ∨ kd = .cell) (h1 : Execs X k sc Γ₁ body r₁)
    (hrest : match r₁ with | .next Γ₂ => Fors X k sc Γ₂ (.Name x pos) body items r | .ret av => r = .ret av) : Fors X k sc Γ (.Name x pos) body (a :: items) r := by
  intro U W W₀ A env h₀ s Q E I fp wr n P St i R it hb c pp
  refine for_step ?_ (fun _ => rfl)
  refine wpAny_with_size (it.walks.item i s _ _ (by have := it.len; simp at this; omega) it.st fun v h₁ tk₁ hP hst kp hsz => ?_)
  have hZ : ∀ b ∈ wr, U b ∧ b ∉ tabs ∧ ∀ o, X.hb.get? b ≠ some o := fun b hw => ⟨(it.wr b hw).1, (it.fp b (it.walks.sub b hw)).2.2, fun o e => absurd (hb b o e) (Nat.not_lt.mpr (it.wr b hw).2)⟩
  have R₁ := R.poke (tk := tk₁) hZ kp hsz
  have ch : ∀ b o, s.heap.get? b = some o → ¬ (UW U W) b → h₁.get? b = some o ∧ ¬ (UW U W) b := fun b o e n => ⟨kp b o (fun q => n (.inl (it.wr b q).1)) e, n⟩
  have hv : VR X.prog X.w (UW U W) h₁ v a := (it.vals 0 a (by simp) v (by simpa using hP)).change ch
  have c₁ : Chg W₀ W h₀ h₁ := ⟨c.new, fun b o e nW nt => kp b o (fun q => absurd (Heap.lt_size e) (Nat.not_lt.mpr (it.wr b q).2)) (c.keep b o e nW nt), Nat.le_trans c.size hsz⟩
  obtain ⟨ad, bd, V⟩ := R₁.vars
  refine wpAny_assign_Name (R₁.store (a := 0) (c := 0) V p hkd hv (fun o => by cases o) fun h₂ tk₂ R₂ kp₂ hsz₂ => ?_)
  have c₂ : Chg W₀ W h₀ h₂ := ⟨c.new, fun b o e nW nt => by
    have e1 := c₁.keep b o e nW nt
    refine kp₂ b o e1 fun q => ?_
    rcases c.new b q with q | q
    · exact nW q
    · exact absurd (Heap.lt_size e) (Nat.not_lt.mpr q), Nat.le_trans c₁.size hsz₂⟩
  have hst₂ : St (i + 1) h₂ := it.walks.frame _ _ _ hst fun b hb' o e => kp₂ b o e (it.fp b hb').2.1
  have ch₂ : ∀ b o, h₁.get? b = some o → ¬ (UW U W) b → h₂.get? b = some o ∧ ¬ (UW U W) b := fun b o e n => ⟨kp₂ b o e fun q => n (.inr q), n⟩
  cases r₁ with
  | next Γ₂ =>
    refine h1 R₂ ?_
    intro W' h' tk R' c'
    refine hrest R' ⟨it.walks, it.walks.frame _ _ _ hst₂ fun b hb' o e => c'.keep b o e (it.fp b hb').2.1 (it.fp b hb').2.2, by have := it.len; simp at this; omega, fun b hb' => ?_, it.wr, fun j a' e v' hP' => ?_⟩ hb (c₂.trans c') ?_
    · have f := it.fp b hb'
      refine ⟨Nat.lt_of_lt_of_le f.1 (Nat.le_trans hsz (Nat.le_trans hsz₂ c'.size)), fun q => ?_, f.2.2⟩
      rcases c'.new b q with q | q
      · exact f.2.1 q
      · exact absurd (Nat.lt_of_lt_of_le f.1 (Nat.le_trans hsz hsz₂)) (Nat.not_lt.mpr q)
    · have hv' := ((it.vals (j + 1) a' (by simpa using e) v' (by rw [show i + (j + 1) = i + 1 + j by omega]; exact hP')).change ch).change ch₂
      refine hv'.change fun b o e n => ⟨c'.keep b o e (fun q => n (.inr q)) (fun q => n (.inl (R.Ut b q))), ?_⟩
      rintro (q | q)
      · exact n (.inl q)
      · rcases c'.new b q with q | q
        · exact n (.inr q)
        · exact absurd (Heap.lt_size e) (Nat.not_lt.mpr q)
    · cases r with
      | next Γ' => exact fun W'' h'' tk'' R'' c'' => pp W'' h'' tk'' R'' c''
      | ret av => exact fun W'' v h'' tk'' c'' t q => pp W'' v h'' tk'' c'' t q
  | ret av =>
    cases hrest
    refine h1 R₂ ?_
    intro W' v' h' tk' c' t' q'
    exact pp W' v' h' tk' (c₂.trans c') t' q'
theorem F_cons {x : Str} {pos : Pos} {body : List Stmt} {items : List AV} {a : AV} {i' : Nat} {kd : NameKind} {Γ₂ : List (Option Slot)} (p : Put sc.names Γ i' x kd (.val a) Γ₁) (h1 : Execs X k sc Γ₁ body (.next Γ₂)) (h2 : Fors X k sc Γ₂ (.Name x pos) body items r) (hkd : kd = .local ∨ kd = .cell := by decide) :
    Fors X k sc Γ (.Name x pos) body (a :: items) r := for_turn p hkd h1 h2
theorem F_ret {x : Str} {pos : Pos} {body : List Stmt} {items : List AV} {a av : AV} {i' : Nat} {kd : NameKind} (p : Put sc.names Γ i' x kd (.val a) Γ₁) (h1 : Execs X k sc Γ₁ body (.ret av)) (hkd : kd = .local ∨ kd = .cell := by decide) :
    Fors X k sc Γ (.Name x pos) body (a :: items) (.ret av) := for_turn p hkd h1 rfl
end
end Mine
namespace Mine

/-- what an iterable gives, in order -/
noncomputable def Iters (X : Cx) (b : Bool) (k : Nat) (sc : Scope) (Γ : List (Option Slot)) (e : Expr) (items : List AV) : Prop :=
  ∀ ⦃U W A env s Q E⦄, Rel X k sc U W Γ A env s →
    (∀ I fp wr n P St h' tk, Aft X.T (UW U W) s.heap h' → Walks X.prog X.w A I fp wr n P St → St 0 h' → n = items.length → (∀ b' ∈ fp, b' < h'.objs.size ∧ b' ∉ tabs ∧ (b = true → ¬ W b')) → (∀ b' ∈ wr, s.heap.objs.size ≤ b' ∧ ∀ q, ¬ h'.CodeRec (.ref b') q) →
      (∀ (j : Nat) (a : AV), items[j]? = some a → ∀ v, P j v → VR X.prog X.w (UW (fun x => U x ∨ x ∈ wr) W) h' v a) → Q (.ref I) { s with heap := h', toks := tk }) →
    wpAny (model X.prog X.w) A (eval e env) (fun x s₁ => wpAny (model X.prog X.w) A (pyIter x) Q E s₁) E s

section
variable {X : Cx} {b : Bool} {k : Nat} {sc : Scope} {U W : Addr → Prop} {Γ Γ' Γ₁ : List (Option Slot)} {A : Around} {env : Env} {s : Shared} {r : Fl}

theorem S_for {tgt iter : Expr} {body : List Stmt} {pos : Pos} {items : List AV} (h1 : Iters X true k sc Γ iter items) (h2 : Fors X k sc Γ tgt body items r) (hs : ∀ env x, foldedSetIterable iter env x = pure x := by intro _ _; rfl) :
    Exec X k sc Γ (.For tgt iter body [] pos) r := by
  intro U W A env s Q E R p
  refine wpAny_For (h1 R fun I fp wr n P St h' tk a hw hst hn hfp hwr hv => ?_) (hs env)
  have R₁ := R.guard (tk := tk) (Z := wr) a fun b hb => ⟨(hwr b hb).1, (hfp b (hw.sub b hb)).1, (hwr b hb).2⟩
  refine codeAny_mono (h2 (W₀ := W) (h₀ := s.heap) (Q := Q) (E := E) R₁ ⟨hw, hst, by simpa using hn, fun b hb => ⟨(hfp b hb).1, (hfp b hb).2.2 rfl, (hfp b hb).2.1⟩, fun b hb => ⟨.inr hb, (hwr b hb).1⟩, fun j a' e v hP => hv j a' e v (by simpa using hP)⟩
    (fun b o e => Heap.lt_size (R.base b o e)) (.of_aft a) ?_) fun r s' q => by cases r <;> exact q
  cases r with
  | next Γ' => exact fun W' h'' tk' R' c => p W' h'' tk' (R'.subU R.Ut R.Us) c
  | ret av => exact fun W' v h'' tk' c t q => p W' v h'' tk' c (t.sub fun _ z => .inl z) (q.sub fun _ z => .inl z)

theorem not_codeRec {h : Heap} {a : Addr} {o : Obj} (e : h.get? a = some o) (hd : ∀ vs : Array Value, o.data = .fields vs → ∀ q t, vs[1]? ≠ some (.str q t)) : ∀ q, ¬ h.CodeRec (.ref a) q := by
  rintro q ⟨c, oc, vs, t, hc, ho, hdc, hv⟩
  cases hc
  rw [e] at ho; cases ho
  exact hd vs hdc _ _ hv

theorem VB.listAt {b : Bool} {v : Value} {l : List AV} (R : Rel X k sc U W Γ A env s) (q : VB b X.prog X.w U W s.heap v (.list l)) :
    ∃ a vs n, v = .ref a ∧ s.heap.get? a = some (LObj vs n) ∧ VRs X.prog X.w (UW U W) s.heap vs l ∧ a ∉ tabs ∧ (b = true → ¬ W a) := by
  rcases q with q | ⟨hb, x, vs, n, l', h1, h2, h3, h4, h5⟩
  · cases q with
    | list h1 h2 h3 => exact ⟨_, _, _, rfl, h2, h3, fun q => h1 (.inl (R.Ut _ q)), fun _ q => h1 (.inr q)⟩
  · cases h2
    exact ⟨x, vs, n, h1, h4, h5, R.Wt h3, fun q => by rw [hb] at q; cases q⟩
theorem LObj.isList {h : Heap} {a : Addr} {vs : List Value} {n : Nat} (e : h.get? a = some (LObj vs n)) : h.IsList a vs.toArray := ⟨_, e, rfl, n, rfl⟩

theorem I_list {e : Expr} {l : List AV} (h1 : Evals X b k sc Γ e (.list l)) : Iters X b k sc Γ e l := by
  intro U W A env s Q E R q
  refine h1 R fun v h₁ t₁ a₁ q₁ => ?_
  have R₁ := R.after (tk := t₁) a₁
  obtain ⟨a, vs, n, rfl, e, hr, ht, hw⟩ := q₁.listAt R₁
  have e' : h₁.get? a = some (LObj vs n) := e
  have hlt : a < h₁.objs.size := Heap.lt_size e'
  refine wpAny_pyIter_list (LObj.isList e) ?_
  have kp : ∀ b o, h₁.get? b = some o → (h₁.push { cls := .type "list_iterator", data := .fields #[.ref a, .int 0 0] }).get? b = some o := fun b o e => Heap.get?_push_of_some _ e
  have hnew := Heap.get?_push_size h₁ (o := { cls := .type "list_iterator", data := .fields #[.ref a, .int 0 0] }) rfl
  refine q _ _ _ _ _ _ (h₁.push _) t₁ ⟨fun b o e nt => kp b o (a₁.keep b o e nt), by rw [Heap.size_push]; exact Nat.le_succ_of_le a₁.size, ⟨fun y hy => ?_⟩⟩ (Walks.list R.am.handled h₁.objs.size a (Nat.ne_of_lt hlt) vs.toArray)
    ⟨⟨_, hnew, rfl, rfl⟩, ⟨_, kp _ _ e', rfl, n, rfl⟩⟩ (by simpa using hr.length) (fun b' hb' => ?_) (fun b' hb' => ?_) fun j av ej v hv => ?_
  · rcases a₁.tab.at_ y hy with e | ⟨c', h1, h2, ⟨c2, oc, us, tq, hc, hoc, rr⟩, e⟩
    · exact .inl (kp _ _ e)
    · exact .inr ⟨c', h1, h2, ⟨c2, oc, us, tq, hc, kp _ _ hoc, rr⟩, kp _ _ e⟩
  · rcases List.mem_cons.mp hb' with rfl | hb'
    · refine ⟨by rw [Heap.size_push]; exact Nat.lt_succ_self _, fun q => ?_, fun _ q => ?_⟩
      · exact absurd (R₁.Ult _ (R.Ut _ q)) (Nat.lt_irrefl _)
      · exact absurd (R₁.Wlt _ q) (Nat.lt_irrefl _)
    · rw [List.mem_singleton.mp hb']
      exact ⟨by rw [Heap.size_push]; exact Nat.lt_succ_of_lt hlt, ht, hw⟩
  · rw [List.mem_singleton.mp hb']
    exact ⟨a₁.size, not_codeRec hnew fun vs hd q t => by cases hd; simp⟩
  · obtain ⟨v', hv', hvr⟩ := hr.get ej
    have : v = v' := by simpa [hv'] using hv.symm
    subst this
    refine hvr.change fun b o e nb => ⟨kp b o e, ?_⟩
    rintro ((z | z) | z)
    · exact nb (.inl z)
    · rw [List.mem_singleton.mp z] at e
      exact absurd (Heap.lt_size e) (Nat.lt_irrefl _)
    · exact nb (.inr z)
end
end Mine
namespace Mine

theorem TabOk.ext {T : List (Addr × Pos × Str)} {V : Addr → Prop} {h h' : Heap} (t : TabOk T V h) (kp : ∀ b o, h.get? b = some o → h'.get? b = some o) : TabOk T V h' := ⟨fun y hy => by
  rcases t.at_ y hy with e | ⟨c', h1, h2, ⟨c2, oc, vs, tq, hc, hoc, rr⟩, e⟩
  · exact .inl (kp _ _ e)
  · exact .inr ⟨c', h1, h2, ⟨c2, oc, vs, tq, hc, kp _ _ hoc, rr⟩, kp _ _ e⟩⟩
theorem Aft.ext {T : List (Addr × Pos × Str)} {V : Addr → Prop} {h h' : Heap} (t : TabOk T V h) (kp : ∀ b o, h.get? b = some o → h'.get? b = some o) (sz : h.objs.size ≤ h'.objs.size) : Aft T V h h' := ⟨fun b o e _ => kp b o e, sz, t.ext kp⟩
theorem Aft.push {T : List (Addr × Pos × Str)} {V : Addr → Prop} {h : Heap} (t : TabOk T V h) (o : Obj) : Aft T V h (h.push o) := .ext t (fun _ _ e => Heap.get?_push_of_some _ e) (by rw [Heap.size_push]; exact Nat.le_succ _)

theorem VR.ext {prog : Program} {w : World} {V : Addr → Prop} {h h' : Heap} {v : Value} {a : AV} (r : VR prog w V h v a) (kp : ∀ b o, h.get? b = some o → h'.get? b = some o) : VR prog w V h' v a := r.change fun b o e n => ⟨kp b o e, n⟩
theorem VRs.ext {prog : Program} {w : World} {V : Addr → Prop} {h h' : Heap} {v : List Value} {a : List AV} (r : VRs prog w V h v a) (kp : ∀ b o, h.get? b = some o → h'.get? b = some o) : VRs prog w V h' v a := r.change fun b o e n => ⟨kp b o e, n⟩
/-- an address beyond the heap may be avoided, too -/
theorem VRs.beyond {prog : Program} {w : World} {U W : Addr → Prop} {h h' : Heap} {v : List Value} {l : List AV} {a : Addr} (r : VRs prog w (UW U W) h v l) (kp : ∀ b o, h.get? b = some o → h'.get? b = some o) (ha : h.objs.size ≤ a) : VRs prog w (UW U fun x => W x ∨ x = a) h' v l :=
  r.change fun b o e n => ⟨kp b o e, by
    rintro (z | z | z)
    · exact n (.inl z)
    · exact n (.inr z)
    · exact absurd (Heap.lt_size e) (Nat.not_lt.mpr (z ▸ ha))⟩

section
variable {X : Cx} {b : Bool} {k : Nat} {sc : Scope} {U W : Addr → Prop} {Γ Γ' Γ₁ : List (Option Slot)} {A : Around} {env : Env} {s : Shared} {r : Fl}

theorem Rel.fresh (R : Rel X k sc U W Γ A env s) {a : Addr} (h : s.heap.objs.size ≤ a) : ¬ UW U W a := by
  rintro (z | z)
  · exact absurd (R.Ult a z) (Nat.not_lt.mpr h)
  · exact absurd (R.Wlt a z) (Nat.not_lt.mpr h)

/-- an item of a value -/
noncomputable def ItemV (X : Cx) (k : Nat) (a i c : AV) : Prop :=
  ∀ ⦃sc U W Γ A env s Q E v u⦄, Rel X k sc U W Γ A env s → VB false X.prog X.w U W s.heap v a → VB false X.prog X.w U W s.heap u i →
    (∀ r h' tk, Aft X.T (UW U W) s.heap h' → VB true X.prog X.w U W h' r c → Q r { s with heap := h', toks := tk }) →
    ∃ T id, s.TypeIs v T ∧ typeLookup (.type T) "__getitem__" = pure (some (.builtin id)) ∧ wpAny (model X.prog X.w) A (getItem v u) Q E s

theorem E_sub {value slice : Expr} {pos : Pos} {a i c : AV} (h1 : Evals X false k sc Γ value a) (h2 : Evals X false k sc Γ slice i) (h3 : ItemV X k a i c)
    (hs : ∀ o i, subscripted slice false o i = operate [o, i] (getItem o i) := by intro _ _; with_unfolding_all rfl) : Evals X b k sc Γ (.Subscript value slice pos) c := by
  intro U W A env s Q E R q
  refine Subscript_ (h1 R fun v h₁ t₁ a₁ q₁ => h2 (R.after a₁) fun u h₂ t₂ a₂ q₂ => ?_)
  obtain ⟨T, id, hT, hl, hw⟩ := h3 (Q := Q) (E := E) ((R.after a₁).after a₂) (q₁.after R a₂) q₂ fun r h₃ t₃ a₃ q₃ => q _ _ _ ((a₁.trans a₂).trans a₃) q₃.weak
  exact tail_any hT hl hw (hs _ _)

theorem I_at {l : List AV} {i : Nat} {c : AV} (hi : l[i]? = some c) (hsz : i < 2 ^ 63) : ItemV X k (.list l) (.int (i : Nat)) c := by
  intro sc U W Γ A env s Q E v u R hv hu q
  obtain ⟨a, vs, n, rfl, e, hr⟩ := hv.list
  obtain ⟨t, rfl⟩ := hu.int
  obtain ⟨x, hx, hxr⟩ := hr.get hi
  exact ⟨_, _, (LObj.isList e).typeIs, slot_list_getitem.lookup, wpAny_getItem_list (LObj.isList e) (Int.natCast_nonneg i) (by omega) (by simpa using hx) (q _ s.heap s.toks (Aft.refl R) (.inl hxr))⟩
theorem VB.tup {v : Value} {h : Heap} {prog : Program} {w : World} {l : List Int} (q : VB b prog w U W h v (.tup l)) : ∃ a vs n, v = .ref a ∧ h.get? a = some (TObj vs n) ∧ IntsAre vs l := by
  rcases q with q | ⟨_, x, vs, n, l', h1, h2, h3, h4, h5⟩
  · cases q with
    | tup h1 h2 h3 => exact ⟨_, _, _, rfl, h2, h3⟩
  · cases h2
theorem ints_get {vs : List Value} {l : List Int} (h : IntsAre vs l) : ∀ {i : Nat} {c : Int}, l[i]? = some c → ∃ t, vs[i]? = some (.int c t) := by
  induction h with
  | nil => intro i c e; simp at e
  | cons n t _ ih =>
    intro i c e
    cases i with
    | zero => simp at e; subst e; exact ⟨t, rfl⟩
    | succ i => simpa using ih (by simpa using e)
theorem I_tup {l : List Int} {i : Nat} {c : Int} (hi : l[i]? = some c) (hsz : i < 2 ^ 63) : ItemV X k (.tup l) (.int (i : Nat)) (.int c) := by
  intro sc U W Γ A env s Q E v u R hv hu q
  obtain ⟨a, vs, n, rfl, e, hr⟩ := hv.tup
  obtain ⟨t, rfl⟩ := hu.int
  obtain ⟨t', hx⟩ := ints_get hr hi
  have hlt : i < vs.length := (List.getElem?_eq_some_iff.mp hx).1
  have hT : IsTup s.heap a vs.toArray := ⟨_, e, rfl, n, rfl⟩
  refine ⟨_, _, hT.typeIs, slot_tuple_getitem.lookup, PyProof.Rows.getItem_tuple hT (by omega) (by omega) (j := i) (x := .int c t') ?_ (by simpa using hx) (q _ s.heap s.toks (Aft.refl R) (.inl (.int _ _)))⟩
  unfold seqIndex?
  rw [List.size_toArray]
  have h1 : ¬ ((i : Int) < 0) := by omega
  simp only [if_neg h1]
  rw [if_pos (by simp only [Bool.and_eq_true, decide_eq_true_eq]; omega)]
  simp

/-- one end of a slice: none, or an int -/
inductive PartV : Option Expr → Option Int → (Expr → AV → Prop) → Prop
  | none {P : Expr → AV → Prop} : PartV .none .none P
  | some {e : Expr} {i : Int} {P : Expr → AV → Prop} : P e (.int i) → PartV (some e) (some i) P

theorem part_step {e : Option Expr} {i : Option Int} {Q : Value → Shared → Prop} {E : Value → Shared → Prop} (p : PartV e i (Evals X false k sc Γ)) (R : Rel X k sc U W Γ A env s)
    (q : ∀ v h' tk, Aft X.T (UW U W) s.heap h' → IsPart v i → Q v { s with heap := h', toks := tk }) : wpAny (model X.prog X.w) A (evalPart e env) Q E s := by
  cases p with
  | none => rw [evalPart_none]; exact wpAny_pure (q _ s.heap s.toks (Aft.refl R) .none)
  | some h =>
    rw [evalPart_some]
    refine h R fun v h' tk a hv => ?_
    obtain ⟨t, rfl⟩ := hv.int
    exact q _ _ _ a (.int _ _)

/-- what a slice of a list holds -/
noncomputable def cutL {α : Type} (lo hi : Option Int) (l : List α) : List α := (l.drop (lo.elim 0 (clipAt l.length))).take (hi.elim l.length (clipAt l.length) - lo.elim 0 (clipAt l.length))

theorem E_cutC {value : Expr} {lo hi : Option Expr} {i j : Option Int} {p pos : Pos} {l : List AV} {Q : Value → Shared → Prop} {E : Value → Shared → Prop}
    (h1 : Evals X false k sc Γ value (.list l)) (pl : PartV lo i (Evals X false k sc Γ)) (pu : PartV hi j (Evals X false k sc Γ)) (hsz : l.length ≤ sizeLine) (R : Rel X k sc U W Γ A env s)
    (q : ∀ a vs n h' tk, Aft X.T (UW U W) s.heap h' → s.heap.objs.size ≤ a → h'.get? a = some (LObj vs n) → VRs X.prog X.w (UW U fun x => W x ∨ x = a) h' vs (cutL i j l) → Q (.ref a) { s with heap := h', toks := tk }) :
    wpAny (model X.prog X.w) A (eval (.Subscript value (.Slice lo hi none p) pos) env) Q E s := by
  refine Subscript_ (h1 R fun v h₁ t₁ a₁ q₁ => wpAny_Slice (part_step pl (R.after a₁) fun u h₂ t₂ a₂ q₂ => part_step pu ((R.after a₁).after a₂) fun u' h₃ t₃ a₃ q₃ => ?_))
  rw [evalPart_none]
  refine wpAny_pure ?_
  have R₃ := ((R.after (tk := t₁) a₁).after (tk := t₂) a₂).after (tk := t₃) a₃
  obtain ⟨a, vs, n, rfl, e, hr⟩ := ((q₁.after R a₂).after R a₃).list
  have hl : Heap.IsList h₃ a vs.toArray := LObj.isList e
  have hlen := hr.length
  have a' := (a₁.trans a₂).trans a₃
  refine tail_any (Heap.IsList.typeIs (s := { s with heap := h₃.push _, toks := t₃ }) (hl.push _)) list_getitem_lookup (ops := [.ref h₃.objs.size, .ref a]) (wpAny_getItem_list_slice (hl.push _) (Heap.IsSliceOf.new ..) q₂ q₃ .none (by simp) ?_ (by simpa [hlen] using hsz)) (by with_unfolding_all rfl)
  have kp : ∀ (o : Obj) (o' : Obj) b x, h₃.get? b = some x → ((h₃.push o).push o').get? b = some x := fun o o' b x e => Heap.get?_push_of_some _ (Heap.get?_push_of_some _ e)
  have sz1 : (h₃.push ({ cls := .type "slice", data := .fields #[u, u', .none] } : Obj)).objs.size = h₃.objs.size + 1 := Heap.size_push ..
  refine q _ _ _ _ _ (a'.trans (.ext a₃.tab (kp _ _) (by rw [Heap.size_push, sz1]; omega))) ?_ (Heap.get?_push_size _ rfl) ?_
  · show s.heap.objs.size ≤ (h₃.push _).objs.size
    rw [sz1]; exact Nat.le_succ_of_le a'.size
  · have : (slicePick vs.toArray i j none).toList = cutL i j vs := by rw [slicePick_plain]; simp [cutL]
    have hr' : VRs X.prog X.w (UW U W) h₃ (cutL i j vs) (cutL i j l) := by
      unfold cutL; rw [hlen]; exact (hr.drop _).take _
    rw [← this] at hr'
    exact hr'.beyond (kp _ _) (by show h₃.objs.size ≤ (h₃.push _).objs.size; rw [sz1]; exact Nat.le_succ _)

theorem N_cut {value : Expr} {lo hi : Option Expr} {i j : Option Int} {p pos : Pos} {l l' : List AV} (h1 : Evals X false k sc Γ value (.list l)) (pl : PartV lo i (Evals X false k sc Γ)) (pu : PartV hi j (Evals X false k sc Γ))
    (hsz : l.length ≤ sizeLine) (hc : cutL i j l = l') : EvalsN X k sc Γ (.Subscript value (.Slice lo hi none p) pos) l' := by
  intro U W A env s Q E R q
  exact E_cutC h1 pl pu hsz R (hc ▸ q)

theorem N_list {es : List Expr} {pos : Pos} {as : List AV} (h : EvalsL X true k sc Γ es as) (hsz : as.length ≤ sizeLine) : EvalsN X k sc Γ (.List es pos) as := by
  intro U W A env s Q E R q
  refine List_ (h pos R fun vs h' tk a hv => ?_)
  have hv' := hv.vrs
  have hlen := hv'.length
  refine wpAny_newObj_type (q _ _ _ _ _ (a.trans (.push a.tab _)) a.size (Heap.get?_push_size _ rfl) (hv'.beyond (fun _ _ e => Heap.get?_push_of_some _ e) (Nat.le_refl _))) ?_
  show vs.toArray.size ≤ sizeLine
  rw [List.size_toArray, hlen]; exact hsz
theorem VRs.ints {prog : Program} {w : World} {V : Addr → Prop} {h : Heap} {vs : List Value} {l : List Int} (r : VRs prog w V h vs (nums l)) : IntsAre vs l := r.areInts
theorem E_tup {es : List Expr} {n : Nat} {pos : Pos} {l : List Int} (h : EvalsL X true k sc Γ es (nums l)) (hsz : l.length ≤ sizeLine) : Evals X b k sc Γ (.Tuple es n pos) (.tup l) := by
  intro U W A env s Q E R q
  refine Tuple_ (h pos R fun vs h' tk a hv => ?_)
  have hv' := hv.vrs
  have hlen : vs.length = l.length := by simpa using hv'.length
  refine wpAny_newObj_type (q _ _ _ (a.trans (.push a.tab _)) (.inl (.tup ((R.after (tk := tk) a).fresh (Nat.le_refl _)) (Heap.get?_push_size _ rfl) hv'.ints))) ?_
  show vs.toArray.size ≤ sizeLine
  rw [List.size_toArray, hlen]; exact hsz

/-- an operator that makes a list anew -/
noncomputable def BinN (X : Cx) (k : Nat) (op : Operator) (a b : AV) (l : List AV) : Prop :=
  ∀ ⦃sc U W Γ A env s Q E v u⦄, Rel X k sc U W Γ A env s → VB false X.prog X.w U W s.heap v a → VB false X.prog X.w U W s.heap u b →
    (∀ a vs n h' tk, Aft X.T (UW U W) s.heap h' → s.heap.objs.size ≤ a → h'.get? a = some (LObj vs n) → VRs X.prog X.w (UW U fun x => W x ∨ x = a) h' vs l → Q (.ref a) { s with heap := h', toks := tk }) →
    wpAny (model X.prog X.w) A (binaryOp op v u) Q E s
theorem N_bin {l r : Expr} {op : Operator} {pos : Pos} {x y : AV} {z : List AV} (h1 : Evals X false k sc Γ l x) (h2 : Evals X false k sc Γ r y) (h3 : BinN X k op x y z) : EvalsN X k sc Γ (.BinOp l op r pos) z := by
  intro U W A env s Q E R q
  exact wpAny_BinOp (h1 R fun v h₁ t₁ a₁ q₁ => h2 (R.after a₁) fun u h₂ t₂ a₂ q₂ => h3 ((R.after a₁).after a₂) (q₁.after R a₂) q₂ fun a vs n h₃ t₃ a₃ ha e hr =>
    q _ _ _ _ _ ((a₁.trans a₂).trans a₃) (Nat.le_trans (a₁.trans a₂).size ha) e hr)
theorem BN_add {l l' : List AV} (hsz : l.length + l'.length ≤ sizeLine) : BinN X k .Add (.list l) (.list l') (l ++ l') := by
  intro sc U W Γ A env s Q E v u R hv hu q
  obtain ⟨a, vs, n, rfl, e, hr⟩ := hv.list
  obtain ⟨a', vs', n', rfl, e', hr'⟩ := hu.list
  have h1 := hr.length
  have h2 := hr'.length
  have ea : vs.toArray ++ vs'.toArray = (vs ++ vs').toArray := by simp
  refine concat_meets ⟨_, e, rfl⟩ ⟨_, e', rfl⟩ noFill_list_add seq_list_add PySem.F.slot_list_add PySem.F.entry_list_add (PySem.F.args_list_add_2 _ _) (list_addW a a' vs.toArray vs'.toArray n n' none none #[] #[] (by simp [h1, h2]; omega)) ⟨e, e', ?_⟩
  rw [ea]
  exact q _ _ _ _ _ (.push R.tab _) (Nat.le_refl _) (Heap.get?_push_size _ rfl) ((hr.append hr').beyond (fun _ _ e => Heap.get?_push_of_some _ e) (Nat.le_refl _))

theorem VRs.replicate {prog : Program} {w : World} {V : Addr → Prop} {h : Heap} {vs : List Value} {as : List AV} (r : VRs prog w V h vs as) : ∀ n, VRs prog w V h (List.replicate n vs).flatten (List.replicate n as).flatten
  | 0 => by simpa using VRs.nil
  | n + 1 => by rw [List.replicate_succ, List.replicate_succ, List.flatten_cons, List.flatten_cons]; exact r.append (VRs.replicate r n)
theorem foldl_rep (vs : List Value) : ∀ (n : Nat) (acc : List Value), List.foldl (fun (x1 x2 : Array Value) => x1 ++ x2) acc.toArray (List.replicate n vs.toArray) = (acc ++ (List.replicate n vs).flatten).toArray
  | 0, acc => by simp
  | n + 1, acc => by
    rw [List.replicate_succ, List.foldl_cons, List.replicate_succ, List.flatten_cons]
    have : acc.toArray ++ vs.toArray = (acc ++ vs).toArray := by simp
    rw [this, foldl_rep vs n]
    simp
theorem BN_mul {l : List AV} {x : Int} (hlo : -(2 ^ 63 : Int) ≤ x) (hhi : x < 2 ^ 63) (hne : l ≠ []) (hsz : l.length * x.toNat ≤ 2 ^ 24) : BinN X k .Mult (.list l) (.int x) (List.replicate x.toNat l).flatten := by
  intro sc U W Γ A env s Q E v u R hv hu q
  obtain ⟨a, vs, n, rfl, e, hr⟩ := hv.list
  obtain ⟨t, rfl⟩ := hu.int
  have hlen := hr.length
  have hvne : vs.toArray.isEmpty = false := by
    cases vs with
    | nil => cases l with
      | nil => exact absurd rfl hne
      | cons => simp at hlen
    | cons => rfl
  have hsz' : vs.toArray.size * x.toNat ≤ 2 ^ 24 := by simpa [hlen] using hsz
  refine wpAny_binaryOp_repeat_ref (T := "list") (U := "int") (by decide) ⟨_, e, rfl⟩ (fun s' => typeIs_int s' x t) noFill_list_mul F.fills_int_mul F.slot_int_rmul repeat_list F.slot_int_index.lookup
    (call_meets F.slot_int_rmul (typeIs_int s x t) F.entry_int_rmul (F.args_int_rmul_2 _ _) (int___rmul___int_list x t a vs.toArray n)
      ⟨e, rfl, ⟨_, e, rfl⟩, call_meets F.slot_list_mul ⟨_, e, rfl⟩ F.entry_list_mul (F.args_list_mul_2 _ _)
        (AutoListH.list___mul___list_int_3 a vs.toArray n x t (by simp [Builtin.List.listFitsIndex]; omega) (by omega) (by simp [Builtin.List.listTooLong, sizeLine]; simpa using hsz'))
        ⟨e, ?_⟩⟩)
  rw [if_neg (by rw [hvne]; decide)]
  have := foldl_rep vs x.toNat []
  simp only [List.nil_append] at this
  rw [show (#[] : Array Value) = ([] : List Value).toArray from rfl, this]
  exact q _ _ _ _ _ (.push R.tab _) (Nat.le_refl _) (Heap.get?_push_size _ rfl) ((hr.replicate _).beyond (fun _ _ e => Heap.get?_push_of_some _ e) (Nat.le_refl _))
end
end Mine
namespace Mine

theorem upd_list {h : Heap} {a : Addr} {vs vs' : List Value} {n : Nat} (e : h.get? a = some (LObj vs n)) (f : Array Value → Array Value) (hf : f vs.toArray = vs'.toArray) : ∃ n', (h.update a (Obj.mapSeq f)).get? a = some (LObj vs' n') :=
  ⟨_, by rw [PySem.IsL.update e f, hf]⟩

section
variable {X : Cx} {b : Bool} {k : Nat} {sc : Scope} {U W : Addr → Prop} {Γ Γ' Γ₁ : List (Option Slot)} {A : Around} {env : Env} {s : Shared} {r : Fl}

theorem TabOk.but {a : Addr} {h h' : Heap} {vs : List Value} {n : Nat} (R : Rel X k sc U W Γ A env s) (t : TabOk X.T (UW U W) h) (e : h.get? a = some (LObj vs n)) (ha : a ∉ tabs) (kp : ∀ b o, h.get? b = some o → b ≠ a → h'.get? b = some o) : TabOk X.T (UW U W) h' := ⟨fun y hy => by
  have hne : y.1 ≠ a := fun q => ha (q ▸ X.hT y hy)
  rcases t.at_ y hy with e' | ⟨c', h1, h2, ⟨c2, oc, us, tq, hc, hoc, hd, rr⟩, e'⟩
  · exact .inl (kp _ _ e' hne)
  · refine .inr ⟨c', h1, h2, ⟨c2, oc, us, tq, hc, kp _ _ hoc ?_, hd, rr⟩, kp _ _ e' hne⟩
    rintro rfl
    rw [e] at hoc; cases hoc; cases hd⟩

/-- a list of the frame's own: read, and changed -/
theorem Rel.own_at {i : Nat} {x : Str} {kd : NameKind} {l : List AV} {o : Option Addr} (R : Rel X k sc U W Γ A env s) (L : Look sc.names Γ i x kd (.own l o)) :
    ∃ a vs n, (∀ c, o = some c → a = c) ∧ W a ∧ s.heap.get? a = some (LObj vs n) ∧ VRs X.prog X.w (UW U W) s.heap vs l ∧ (∀ (Q : Value → Shared → Prop) E, Q (.ref a) s → wpAny (model X.prog X.w) A (loadName env x) Q E s) ∧
      ∀ h' tk l' vs' n' Γ', Put sc.names Γ i x kd (.own l' o) Γ' → (∀ b o, s.heap.get? b = some o → b ≠ a → b ∉ tabs → h'.get? b = some o) → s.heap.objs.size ≤ h'.objs.size → TabOk X.T (UW U W) h' → h'.get? a = some (LObj vs' n') → VRs X.prog X.w (UW U W) h' vs' l' →
        Rel X k sc U W Γ' A env { s with heap := h', toks := tk } ∧ Chg W W s.heap h' := by
  obtain ⟨ad, bd, V⟩ := R.vars
  obtain ⟨v, hv1, hv2⟩ := V.2 i x kd _ L.at.1 L.at.2
  obtain ⟨rfl, hba, hw, vs, n, e, hr⟩ := hv2
  refine ⟨ad i, vs, n, hba.2, hw, e, hr, fun Q E q => R.load L.at.1 hv1 q, fun h' tk l' vs' n' Γ' p kp sz ht e' hr' => ⟨?_, fun _ h => .inl h, fun b o eb nb nt => kp b o eb (fun q => nb (q ▸ hw)) nt, sz⟩⟩
  have nl : ∀ {c : Addr} {ob : Obj}, s.heap.get? c = some ob → (∀ us m, ob ≠ LObj us m) → c ≠ ad i := fun {c ob} ec hc q => by rw [q, e] at ec; exact hc _ _ (Option.some.inj ec).symm
  have kw : ∀ b o, Kp X W b → s.heap.get? b = some o → b ≠ ad i → h'.get? b = some o := fun b o hb eb ne => kp b o eb ne (R.Kt hb)
  have ch : ∀ b o, s.heap.get? b = some o → ¬ (UW U W) b → h'.get? b = some o ∧ ¬ (UW U W) b := fun b o e n => ⟨kp b o e (fun q => n (.inr (q ▸ hw))) (fun q => n (.inl (R.Ut b q))), n⟩
  have var : ∀ {y : Str} {u : Value} {kd' : NameKind}, VarAt env s.heap y u kd' → VarAt env h' y u kd' := by
    intro y u kd' q
    cases kd' with
    | «local» =>
      obtain ⟨m, ⟨o, es, ep, eo, hd, rr⟩, hm⟩ := q
      exact ⟨m, ⟨o, es, ep, kw _ _ (.inl R.loc.1) eo (nl eo fun us m q => by subst q; cases hd), hd, rr⟩, hm⟩
    | cell =>
      obtain ⟨c, hc, o, eo, hd⟩ := q
      exact ⟨c, hc, o, kw _ _ (R.cel _ _ hc).1 eo (nl eo fun us m q => by subst q; cases hd), hd⟩
    | free =>
      obtain ⟨c, hc, o, eo, hd⟩ := q
      exact ⟨c, hc, o, kw _ _ (R.cel _ _ hc).1 eo (nl eo fun us m q => by subst q; cases hd), hd⟩
    | _ => exact q.elim
  refine { am := R.am, scp := R.scp, cod := R.cod, kind := R.kind, nod := R.nod, ndb := R.ndb, glob := R.glob, blt := R.blt, base := fun b o eb => kp b o (R.base b o eb) (fun q => (R.bW b o eb).1 (q ▸ hw)) (R.bW b o eb).2, bW := R.bW, bU := R.bU, tab := ht, Ult := fun b hb => Nat.lt_of_lt_of_le (R.Ult b hb) sz, Wlt := fun b hb => Nat.lt_of_lt_of_le (R.Wlt b hb) sz, dis := R.dis, Ut := R.Ut, Us := R.Us, loc := ⟨R.loc.1, ?_⟩, cel := ?_, cinj := R.cinj, chas := R.chas, vars := ⟨ad, bd, ?_, ?_⟩ }
  · obtain ⟨m, o, es, ep, eo, hd, rr⟩ := R.loc.2
    exact ⟨m, o, es, ep, kw _ _ (.inl R.loc.1) eo (nl eo fun us m q => by subst q; cases hd), hd, rr⟩
  · intro y c hc
    obtain ⟨h1, v, o, eo, hd⟩ := R.cel y c hc
    exact ⟨h1, v, o, kw _ _ h1 eo (nl eo fun us m q => by subst q; cases hd), hd⟩
  · intro j j' p₁ p₂ sl sl' n1 n2 e1 e2 o1 o2 hne
    have back : ∀ {j : Nat} {sl : Slot}, Γ'[j]? = some (some sl) → sl.isOwn = true → ∃ sl', Γ[j]? = some (some sl') ∧ sl'.isOwn = true := by
      intro j sl e1 o1
      by_cases q : j = i
      · subst q; exact ⟨_, L.at.2, rfl⟩
      · exact ⟨sl, p.at.2.2 j sl q e1, o1⟩
    obtain ⟨t1, g1, p1⟩ := back e1 o1
    obtain ⟨t2, g2, p2⟩ := back e2 o2
    exact V.1 j j' p₁ p₂ t1 t2 n1 n2 g1 g2 p1 p2 hne
  · intro j y kd' sl e1 e2
    by_cases q : j = i
    · subst q
      have e2' := p.at.2.1
      rw [e2] at e2'; cases e2'
      have e1' := p.at.1
      rw [e1] at e1'; cases e1'
      exact ⟨_, var hv1, rfl, hba, hw, vs', n', e', hr'⟩
    · have g := p.at.2.2 j sl q e2
      obtain ⟨u, hu, hsl⟩ := V.2 j y kd' sl e1 g
      refine ⟨u, var hu, ?_⟩
      cases sl with
      | val av => exact VR.change ch hsl
      | own l₂ o₂ =>
        have z := V.1 i j _ _ _ _ L.at.1 e1 L.at.2 g rfl rfl (Ne.symm q)
        obtain ⟨rfl, hba₂, hw₂, us, m, e₂, r₂⟩ := hsl
        exact ⟨rfl, hba₂, hw₂, us, m, kw _ _ (.inl hw₂) e₂ (Ne.symm z.1), r₂.change ch⟩
      | own2 l₂ last =>
        have z := V.1 i j _ _ _ _ L.at.1 e1 L.at.2 g rfl rfl (Ne.symm q)
        obtain ⟨rfl, hw1, hw2, ne, us, m, ws, m2, e₂, e₃, r₂, r₃⟩ := hsl
        exact ⟨rfl, hw1, hw2, ne, us, m, ws, m2, kw _ _ (.inl hw1) e₂ (Ne.symm z.1), kw _ _ (.inl hw2) e₃ (Ne.symm z.2.1), r₂.change ch, r₃.change ch⟩

/-- a method that changes a list in place -/
noncomputable def MutV (X : Cx) (k : Nat) (b : Bool) (id : String) (l : List AV) (as : List AV) (l' : List AV) : Prop :=
  ∀ ⦃sc U W Γ A env s Q E a vs n us⦄, Rel X k sc U W Γ A env s → W a → s.heap.get? a = some (LObj vs n) → VRs X.prog X.w (UW U W) s.heap vs l → VBs b X.prog X.w U W s.heap us as →
    (∀ h' tk vs' n', (∀ b o, s.heap.get? b = some o → b ≠ a → h'.get? b = some o) → s.heap.objs.size ≤ h'.objs.size → h'.get? a = some (LObj vs' n') → VRs X.prog X.w (UW U W) h' vs' l' → Q .none { s with heap := h', toks := tk }) →
    wpAny (model X.prog X.w) A (call (.builtin id) (.ref a :: us)) Q E s
noncomputable def GetM (X : Cx) (name : Str) (id : String) : Prop :=
  ∀ ⦃A : Around⦄ ⦃s : Shared⦄ ⦃a : Addr⦄ ⦃vs n pl Q E⦄, s.heap.get? a = some (LObj vs n) → Q (.builtin id, [.ref a]) s → wpAny (model X.prog X.w) A (getMethod (.ref a) name pl) Q E s
theorem GetM.of {name : Str} {id : String} (slot : PySem.Slot "list" name id) (hty : typeOf (.builtin id) = pure (.type "method_descriptor")) : GetM X name id :=
  fun _ _ _ _ _ _ _ _ e q => getMethod_list_of slot hty (LObj.isList e) ⟨_, e, rfl⟩ q

theorem interactive_fn (h : env.scope.kind = .function) : interactive env = false := by
  unfold interactive; rw [h]; rfl

theorem S_meth {i : Nat} {x : Str} {kd : NameKind} {l l' : List AV} {o : Option Addr} {name : Str} {id : String} {e : Expr} {rest : List Expr} {as : List AV} {np apos pos spos : Pos} {b' : Bool} {pl : Env → Sem Bool}
    (L : Look sc.names Γ i x kd (.own l o)) (ha : EvalsL X b' k sc Γ (e :: rest) as) (hg : GetM X name id) (hm : MutV X k b' id l as l') (p : Put sc.names Γ i x kd (.own l' o) Γ')
    (he : ∀ env, eval (.Call (.Attribute (.Name x np) name apos) (e :: rest) [] pos) env = (do
      let ov ← eval (.Name x np) env
      standAt apos.atName
      let (f, first) ← holding [ov] (getMethod ov name (pl env))
      callWith pos f first (backTo pos (starEach (e :: rest) env)) (backToKw pos (keywordEach [] env))) := by intro _; rfl)
    (hns : ∀ env, (backTo pos (starEach (e :: rest) env)).any (·.1) = false := by intro _; rfl) (hst : ∀ env, starEach (e :: rest) env = (false, eval e env) :: starEach rest env := by intro _; rfl)
    (hs : ∀ env, swapsWith (.Call (.Attribute (.Name x np) name apos) (e :: rest) [] pos) none spos.line env = pure false := by intro _; rfl) :
    Exec X k sc Γ (.Expr (.Call (.Attribute (.Name x np) name apos) (e :: rest) [] pos) spos) (.next Γ') := by
  intro U W A env s Q E R q
  obtain ⟨a, vs, n, _, hw, e0, hr, ld, mt⟩ := R.own_at L
  refine wpAny_Expr ?_ (interactive_fn R.isFn) (hs env)
  refine methodCall_KW (pl := pl env) (wpAny_Name (ld _ _ ?_) (R.dbg L.at.1).1) (he env)
  refine hg e0 ?_
  refine callWith_builtin (hns env) ?_
  rw [hst]
  refine evalArgs_plain ?_
  have h1 := ha pos (Q := fun us s₁ => wpAny (model X.prog X.w) A (call (.builtin id) ([.ref a] ++ us) []) (fun v s' => match v with | .ref _ => False | _ => Q .next s') (fun e s => E e s) s₁) (E := fun e s => E e s) R ?_
  · rw [hst] at h1; exact h1
  · intro us h₁ tk₁ a₁ hus
    have R₁ := R.after (tk := tk₁) a₁
    have e1 := a₁.keep _ _ e0 (R.Wt hw)
    have hr1 : VRs X.prog X.w (UW U W) h₁ vs l := hr.change fun b o e nb => ⟨a₁.keep b o e fun q => nb (.inl (R.Ut b q)), nb⟩
    refine hm R₁ hw e1 hr1 hus fun h₂ tk₂ vs' n' kp sz e2 hr2 => ?_
    obtain ⟨R₂, c⟩ := mt h₂ tk₂ l' vs' n' Γ' p (fun b o eb ne nt => kp b o (a₁.keep b o eb nt) ne) (Nat.le_trans a₁.size sz) (TabOk.but R₁ a₁.tab e1 (R.Wt hw) kp) e2 hr2
    exact q W h₂ tk₂ R₂ c
theorem S_meth0 {i : Nat} {x : Str} {kd : NameKind} {l l' : List AV} {o : Option Addr} {name : Str} {id : String} {np apos pos spos : Pos} {pl : Env → Sem Bool}
    (L : Look sc.names Γ i x kd (.own l o)) (hg : GetM X name id) (hm : MutV X k true id l [] l') (p : Put sc.names Γ i x kd (.own l' o) Γ')
    (he : ∀ env, eval (.Call (.Attribute (.Name x np) name apos) [] [] pos) env = (do
      let ov ← eval (.Name x np) env
      standAt apos.atName
      let (f, first) ← holding [ov] (getMethod ov name (pl env))
      callWith pos f first (backTo pos (starEach [] env)) (backToKw pos (keywordEach [] env))) := by intro _; rfl)
    (hs : ∀ env, swapsWith (.Call (.Attribute (.Name x np) name apos) [] [] pos) none spos.line env = pure false := by intro _; rfl) :
    Exec X k sc Γ (.Expr (.Call (.Attribute (.Name x np) name apos) [] [] pos) spos) (.next Γ') := by
  intro U W A env s Q E R q
  obtain ⟨a, vs, n, _, hw, e0, hr, ld, mt⟩ := R.own_at L
  refine wpAny_Expr ?_ (interactive_fn R.isFn) (hs env)
  refine methodCall_KW (pl := pl env) (wpAny_Name (ld _ _ ?_) (R.dbg L.at.1).1) (he env)
  refine hg e0 ?_
  refine callWith_builtin rfl ?_
  refine evalArgs_kw2_nil (kws := []) rfl (kwAll_nil ?_)
  refine hm R hw e0 hr .nil fun h₂ tk₂ vs' n' kp sz e2 hr2 => ?_
  obtain ⟨R₂, c⟩ := mt h₂ tk₂ l' vs' n' Γ' p (fun b o eb ne nt => kp b o eb ne) sz (TabOk.but R R.tab e0 (R.Wt hw) kp) e2 hr2
  exact q W h₂ tk₂ R₂ c

theorem VRs.mutated {h : Heap} {vs : List Value} {l : List AV} {a : Addr} {f : Obj → Obj} {us : List Value} {n : Nat} (hw : W a) (_ : h.get? a = some (LObj us n)) (hr : VRs X.prog X.w (UW U W) h vs l) : VRs X.prog X.w (UW U W) (h.update a f) vs l :=
  hr.change fun b o e nb => ⟨by rw [Heap.get?_update_other h f (fun (q : a = b) => nb (.inr (q ▸ hw)))]; exact e, nb⟩

theorem M_append {l : List AV} {av : AV} (hsz : l.length ≤ sizeLine) : MutV X k true "list.append" l [av] (l ++ [av]) := by
  intro sc U W Γ A env s Q E a vs n us R hw e hr hus q
  cases hus with
  | @cons v _ _ _ h1 h2 =>
    cases h2
    have hlen := hr.length
    obtain ⟨n', e'⟩ := upd_list (vs' := vs ++ [v]) e (fun x => x.push v) (by simp)
    refine call_meets slot_list_append ⟨_, e, rfl⟩ entry_list_append (args_list_append _ _) (PySem.list_append a vs.toArray n v (by simpa [hlen] using hsz)) ⟨e, q _ _ _ n' (fun b o eb ne => by rw [Heap.get?_update_other _ _ (Ne.symm ne)]; exact eb) ?_ e' ?_⟩
    · rw [Heap.size_after_update]; exact Nat.le_refl _
    · exact (hr.append (.cons h1.vr .nil)).mutated hw e
theorem M_extend {l l₂ : List AV} (hsz : l.length + l₂.length ≤ sizeLine) : MutV X k true "list.extend" l [.list l₂] (l ++ l₂) := by
  intro sc U W Γ A env s Q E a vs n us R hw e hr hus q
  cases hus with
  | cons h1 h2 =>
    cases h2
    have hlen := hr.length
    obtain ⟨c, ws, m, rfl, e2, hr2⟩ := h1.list
    have hlen2 := hr2.length
    obtain ⟨n', e'⟩ := upd_list (vs' := vs ++ ws) e (fun x => x ++ ws.toArray) (by simp)
    refine call_meets PySem.F.slot_list_extend ⟨_, e, rfl⟩ PySem.F.entry_list_extend (PySem.F.args_list_extend_2 _ _) (PySem.AutoSeq1.list_extend_list_list_0 a vs.toArray n c ws.toArray m ?_ (by simp [hlen]; omega) (by simp [hlen, hlen2]; omega)) ⟨e, e2, q _ _ _ n' (fun b o eb ne => by rw [Heap.get?_update_other _ _ (Ne.symm ne)]; exact eb) ?_ e' ?_⟩
    · have : Builtin.List.listTooLong (vs.toArray.size + ws.toArray.size) = false := by
        unfold Builtin.List.listTooLong sizeLine at *
        simp [hlen, hlen2]; omega
      rw [this, Bool.and_false]; decide
    · rw [Heap.size_after_update]; exact Nat.le_refl _
    · exact (hr.append hr2).mutated hw e
theorem VRs.ins {prog : Program} {w : World} {V : Addr → Prop} {h : Heap} {vs : List Value} {l : List AV} {v : Value} {av : AV} {i : Nat} (hr : VRs prog w V h vs l) (hv : VR prog w V h v av) : VRs prog w V h (vs.take i ++ v :: vs.drop i) (l.take i ++ av :: l.drop i) :=
  (hr.take i).append (.cons hv (hr.drop i))
theorem M_insert {l : List AV} {av : AV} {i : Nat} (hi : i ≤ l.length) (hsz : l.length ≤ sizeLine) : MutV X k true "list.insert" l [.int i, av] (l.take i ++ av :: l.drop i) := by
  intro sc U W Γ A env s Q E a vs n us R hw e hr hus q
  cases hus with
  | cons h1 h2 =>
    cases h2 with
    | @cons v _ _ _ h2 h3 =>
      cases h3
      have hlen := hr.length
      have hsz' : l.length ≤ 2 ^ 24 := hsz
      obtain ⟨t, rfl⟩ := h1.int
      generalize hx : (i : Int) = x
      obtain ⟨n', e'⟩ := upd_list (vs' := vs.take i ++ v :: vs.drop i) e (fun xs => have k := if x < 0 then (x + (xs.size : Int)).toNat else min x.toNat xs.size; (xs.extract 0 k).push v ++ xs.extract k) (by
        have h0 : ¬ (x < 0) := by omega
        have h1 : x.toNat = i := by omega
        simp only [if_neg h0, h1, List.size_toArray, hlen, Nat.min_eq_left hi]
        rw [← kl_ins_eq, List.size_toArray, hlen])
      refine call_meets PySem.F.slot_list_insert ⟨_, e, rfl⟩ PySem.F.entry_list_insert (PySem.F.args_list_insert_3 _ _ _) (PySem.AutoSeq1.list_insert_list_int_val_1 a vs.toArray n x t v ?_ (by rw [List.size_toArray, hlen]; exact hsz)) ⟨e, q _ _ _ n' (fun b o eb ne => by rw [Heap.get?_update_other _ _ (Ne.symm ne)]; exact eb) ?_ e' ?_⟩
      · rw [fitsIndex_of (by omega) (by omega)]; decide
      · rw [Heap.size_after_update]; exact Nat.le_refl _
      · exact (hr.ins h2.vr).mutated hw e
theorem VRs.reverse {prog : Program} {w : World} {V : Addr → Prop} {h : Heap} : ∀ {vs : List Value} {l : List AV}, VRs prog w V h vs l → VRs prog w V h vs.reverse l.reverse := by
  intro vs l r
  induction l generalizing vs with
  | nil => rw [r.inv0]; exact .nil
  | cons a as ih =>
    obtain ⟨v, vs', rfl, h1, h2⟩ := r.inv
    rw [List.reverse_cons, List.reverse_cons]; exact (ih h2).append (.cons h1 .nil)
theorem M_reverse {l : List AV} (hsz : l.length ≤ sizeLine) : MutV X k true "list.reverse" l [] l.reverse := by
  intro sc U W Γ A env s Q E a vs n us R hw e hr hus q
  cases hus
  have hlen := hr.length
  obtain ⟨n', e'⟩ := upd_list (vs' := vs.reverse) e (fun x => x.reverse) (by simp)
  refine call_meets PySem.F.slot_list_reverse ⟨_, e, rfl⟩ PySem.F.entry_list_reverse (PySem.F.args_list_reverse_1 _) (PySem.AutoSeq1.list_reverse_list_0 a vs.toArray n (by simpa [hlen] using hsz)) ⟨e, q _ _ _ n' (fun b o eb ne => by rw [Heap.get?_update_other _ _ (Ne.symm ne)]; exact eb) ?_ e' ?_⟩
  · rw [Heap.size_after_update]; exact Nat.le_refl _
  · exact hr.reverse.mutated hw e
theorem VRs.set {prog : Program} {w : World} {V : Addr → Prop} {h : Heap} {v : Value} {av : AV} (hv : VR prog w V h v av) : ∀ {vs : List Value} {l : List AV}, VRs prog w V h vs l → ∀ i, VRs prog w V h (vs.set i v) (l.set i av)
 := by
  intro vs l r
  induction l generalizing vs with
  | nil => rw [r.inv0]; exact fun _ => .nil
  | cons a as ih =>
    obtain ⟨v, vs', rfl, h1, h2⟩ := r.inv
    intro i
    cases i with
    | zero => exact .cons hv h2
    | succ i => exact .cons h1 (ih h2 i)

/-- x[i] = e, on a list of the frame's own -/
theorem S_setItem {i j : Nat} {x : Str} {kd : NameKind} {l : List AV} {av : AV} {o : Option Addr} {ei e : Expr} {np pos spos : Pos}
    (h1 : Evals X true k sc Γ e av) (L : Look sc.names Γ i x kd (.own l o)) (h2 : Evals X false k sc Γ ei (.int j)) (hj : j < l.length) (hsz : l.length ≤ sizeLine) (p : Put sc.names Γ i x kd (.own (l.set j av) o) Γ')
    (hs : ∀ env, swapsWith e (some (.Subscript (.Name x np) ei pos)) spos.line env = pure false := by intro _; rfl) :
    Exec X k sc Γ (.Assign [.Subscript (.Name x np) ei pos] e spos) (.next Γ') := by
  intro U W A env s Q E R q
  obtain ⟨a, vs, n, _, hw, e0, hr, ld, mt⟩ := R.own_at L
  refine wpAny_Assign_Subscript (h1 R fun v h₁ t₁ a₁ q₁ => ?_) (hs env)
  have R₁ := R.after (tk := t₁) a₁
  obtain ⟨a', vs', n', hoa, hw', e0', hr', ld', mt'⟩ := R₁.own_at L
  refine wpAny_Name (ld' _ _ ?_) (R.dbg L.at.1).1
  refine h2 R₁ fun u h₂ t₂ a₂ q₂ => ?_
  obtain ⟨t, rfl⟩ := q₂.int
  have R₂ := R₁.after (tk := t₂) a₂
  have hlen := hr'.length
  have e2 := a₂.keep _ _ e0' (R.Wt hw')
  have hsz' : l.length ≤ 2 ^ 24 := hsz
  have hr2 : VRs X.prog X.w (UW U W) h₂ vs' l := hr'.change fun b o e nb => ⟨a₂.keep b o e fun q => nb (.inl (R.Ut b q)), nb⟩
  obtain ⟨m, e3⟩ := upd_list (vs' := vs'.set j v) e2 (fun x => x.setIfInBounds j v) (by simp)
  refine ki_setAt e2 (Int.natCast_nonneg j) (by omega) (by simp [hlen]; exact hj) ?_
  rw [Int.toNat_natCast]
  obtain ⟨R₃, c⟩ := mt' (h₂.update a' (Obj.mapSeq fun x => x.setIfInBounds j v)) t₂ (l.set j av) (vs'.set j v) m Γ' p (fun b o eb ne nt => by rw [Heap.get?_update_other _ _ (Ne.symm ne)]; exact a₂.keep b o eb nt) (by rw [Heap.size_after_update]; exact a₂.size)
    (TabOk.but R₂ a₂.tab e2 (R.Wt hw') fun b o eb ne => by rw [Heap.get?_update_other _ _ (Ne.symm ne)]; exact eb) e3 (((hr2.set (q₁.after R₁ a₂).vr j)).mutated hw' e2)
  exact q W _ _ R₃ ((Chg.of_aft a₁).trans c)

theorem S_aug {x : Str} {pos pos' : Pos} {op : Operator} {e : Expr} {av bv cv : AV} {i : Nat} {kd : NameKind} (L : Look sc.names Γ i x kd (.val av)) (h1 : Evals X false k sc Γ e bv) (h2 : AugV X k op av bv cv) (p : Put sc.names Γ i x kd (.val cv) Γ')
    (hkd : kd = .local ∨ kd = .cell := by decide) : Exec X k sc Γ (.AugAssign (.Name x pos) op e pos') (.next Γ') := by
  intro U W A env s Q E R q
  obtain ⟨ad, bd, _, hv⟩ := R.vars
  obtain ⟨v, hv1, hv2⟩ := hv i x kd _ L.at.1 L.at.2
  refine wpAny_AugAssign_Name (R.load L.at.1 hv1 (h1 R fun u h₁ t₁ a₁ q₁ => ?_))
  have R₁ := R.after (tk := t₁) a₁
  refine h2 R₁ (VB.after R a₁ (.inl hv2)) q₁ fun r h₂ t₂ a₂ q₂ => ?_
  have R₂ := R₁.after (tk := t₂) a₂
  obtain ⟨ad, bd, V⟩ := R₂.vars
  refine R₂.store (a := 0) (c := 0) V p hkd q₂.vr (fun o => by cases o) fun h₃ t₃ R₃ kp sz => ?_
  exact q W h₃ t₃ R₃ ⟨fun _ h => .inl h, fun b o e nW nt => kp b o (a₂.keep b o (a₁.keep b o e nt) nt) nW, Nat.le_trans (a₁.trans a₂).size sz⟩

/-- x, y = a pair of ints -/
theorem S_pair {x y : Str} {px py tpos pos : Pos} {n : Nat} {e : Expr} {i j : Int} {ix iy : Nat} {kx ky : NameKind} (h1 : Evals X true k sc Γ e (.tup [i, j])) (p1 : Put sc.names Γ ix x kx (.val (.int i)) Γ₁) (p2 : Put sc.names Γ₁ iy y ky (.val (.int j)) Γ')
    (hx : kx = .local ∨ kx = .cell := by decide) (hy : ky = .local ∨ ky = .cell := by decide)
    (hs : ∀ env, swapsWithSole [.Tuple [.Name x px, .Name y py] n tpos] e pos.line env = pure false := by intro _; rfl) (hw : ∀ env, swappedStores [.Tuple [.Name x px, .Name y py] n tpos] e env = pure none := by intro _; rfl)
    :
    Exec X k sc Γ (.Assign [.Tuple [.Name x px, .Name y py] n tpos] e pos) (.next Γ') := by
  intro U W A env s Q E R q
  refine Assign_Tuple (h1 R fun v h₁ t₁ a₁ q₁ => ?_) (hs env) (hw env)
  have R₁ := R.after (tk := t₁) a₁
  obtain ⟨a, vs, m, rfl, e0, hi⟩ := q₁.tup
  have hT : IsTup h₁ a vs.toArray := ⟨_, e0, rfl, m, rfl⟩
  have hlen : vs.length = 2 := by rw [hi.length]; rfl
  rw [PyProof.Rows.assign_Tuple]
  refine wpAny_bind (wpAny_standAt ?_)
  unfold unpack
  have e1 : (assignEach [.Name x px, .Name y py] env).length = vs.toArray.size := by rw [List.size_toArray, hlen]; rfl
  rw [e1, show (assignEach [.Name x px, .Name y py] env).findIdx? (·.1) = none from rfl]
  refine wpAny_bind (wpAny_holding (wpAny_with_size (unpackItems_tuple R.am.handled hT fun h₂ hx₂ sz₂ => ?_)))
  have a₂ : Aft X.T (UW U W) h₁ h₂ := .ext a₁.tab (fun b o eb => hx₂ b o (Nat.ne_of_lt (Heap.lt_size eb)) eb) sz₂
  have R₂ := R₁.after (tk := t₁) a₂
  cases hi with
  | cons _ ti hi =>
    cases hi with
    | cons _ tj hi =>
      cases hi
      obtain ⟨ad, bd, V⟩ := R₂.vars
      refine assignInOrder_cons (wpAny_assign_Name (R₂.store (a := 0) (c := 0) V p1 hx (.int _ _) (fun o => by cases o) fun h₃ t₃ R₃ kp₃ sz₃ => ?_))
      obtain ⟨ad, bd, V⟩ := R₃.vars
      refine assignInOrder_cons (wpAny_assign_Name (R₃.store (a := 0) (c := 0) V p2 hy (.int _ _) (fun o => by cases o) fun h₄ t₄ R₄ kp₄ sz₄ => assignInOrder_nil ?_))
      have a₀ := a₁.trans a₂
      exact q W h₄ t₄ R₄ ⟨fun _ h => .inl h, fun b o e nW nt => kp₄ b o (kp₃ b o (a₀.keep b o e nt) nW) nW, Nat.le_trans a₀.size (Nat.le_trans sz₃ sz₄)⟩
end
end Mine
namespace Mine

noncomputable def atL {β : Type} (l : List (Int × β)) (k : Int) : Option β := (l.find? fun kv => kv.1 = k).map (·.2)
theorem KI.at {kvs : List (Int × Value)} {l : List (Int × Int)} (h : KI kvs l) (k : Int) : (valueAt kvs k = none ∧ atL l k = none) ∨ ∃ i t, valueAt kvs k = some (.int i t) ∧ atL l k = some i := by
  induction h with
  | nil => exact .inl ⟨rfl, rfl⟩
  | cons k' i t _ ih =>
    by_cases q : k' = k
    · exact .inr ⟨i, t, by simp [valueAt, q], by simp [atL, q]⟩
    · have e1 : ∀ (kvs : List (Int × Value)) v, valueAt ((k', v) :: kvs) k = valueAt kvs k := fun kvs v => by simp [valueAt, q]
      have e2 : ∀ (l : List (Int × Int)) v, atL ((k', v) :: l) k = atL l k := fun l v => by simp [atL, q]
      rw [e1, e2]; exact ih
theorem KS.at {kvs : List (Int × Value)} {l : List (Int × Str)} (h : KS kvs l) (k : Int) : (valueAt kvs k = none ∧ atL l k = none) ∨ ∃ i t, valueAt kvs k = some (.str i t) ∧ atL l k = some i := by
  induction h with
  | nil => exact .inl ⟨rfl, rfl⟩
  | cons k' i t _ ih =>
    by_cases q : k' = k
    · exact .inr ⟨i, t, by simp [valueAt, q], by simp [atL, q]⟩
    · have e1 : ∀ (kvs : List (Int × Value)) v, valueAt ((k', v) :: kvs) k = valueAt kvs k := fun kvs v => by simp [valueAt, q]
      have e2 : ∀ (l : List (Int × Str)) v, atL ((k', v) :: l) k = atL l k := fun l v => by simp [atL, q]
      rw [e1, e2]; exact ih
theorem KI.length {kvs : List (Int × Value)} {l : List (Int × Int)} (h : KI kvs l) : kvs.length = l.length := by
  induction h with
  | nil => rfl
  | cons _ _ _ _ ih => simp [ih]
theorem KI.key {kvs : List (Int × Value)} {l : List (Int × Int)} (h : KI kvs l) : ∀ {j : Nat} {k : Int} {x : Value}, kvs[j]? = some (k, x) → (l.map (·.1))[j]? = some k := by
  induction h with
  | nil => intro j k x e; simp at e
  | cons k' i t _ ih =>
    intro j k x e
    cases j with
    | zero => simp at e; simp [e.1]
    | succ j => simpa using ih (by simpa using e)

section
variable {X : Cx} {b : Bool} {k : Nat} {sc : Scope} {U W : Addr → Prop} {Γ Γ' Γ₁ : List (Option Slot)} {A : Around} {env : Env} {s : Shared} {r : Fl}

theorem VB.dictI {v : Value} {l : List (Int × Int)} (R : Rel X k sc U W Γ A env s) (q : VB b X.prog X.w U W s.heap v (.dictI l)) : ∃ a kvs, v = .ref a ∧ s.heap.DictOf (intKind X.prog X.w) a kvs ∧ KI kvs l ∧ (a == sysModules) = false ∧ ¬ UW U W a := by
  rcases q with q | ⟨_, x, vs, n, l', h1, h2, h3, h4, h5⟩
  · cases q with
    | dictI h1 h2 h3 => exact ⟨_, _, rfl, h2, h3, by rw [beq_eq_false_iff_ne]; rintro rfl; exact h1 (.inl R.Us), h1⟩
  · cases h2
theorem VB.dictS {v : Value} {l : List (Int × Str)} (R : Rel X k sc U W Γ A env s) (q : VB b X.prog X.w U W s.heap v (.dictS l)) : ∃ a kvs, v = .ref a ∧ s.heap.DictOf (intKind X.prog X.w) a kvs ∧ KS kvs l ∧ (a == sysModules) = false := by
  rcases q with q | ⟨_, x, vs, n, l', h1, h2, h3, h4, h5⟩
  · cases q with
    | dictS h1 h2 h3 => exact ⟨_, _, rfl, h2, h3, by rw [beq_eq_false_iff_ne]; rintro rfl; exact h1 (.inl R.Us)⟩
  · cases h2

theorem keepF_nr {f : Value} (h : ∀ a, f ≠ .ref a) : KeepF X f := .inr h

theorem VBs.one {prog : Program} {w : World} {h : Heap} {vs : List Value} {a : AV} (q : VBs b prog w U W h vs [a]) : ∃ v, vs = [v] ∧ VB b prog w U W h v a := by
  cases q with
  | cons h1 h2 => cases h2; exact ⟨_, rfl, h1⟩
theorem VBs.two {prog : Program} {w : World} {h : Heap} {vs : List Value} {a c : AV} (q : VBs b prog w U W h vs [a, c]) : ∃ v u, vs = [v, u] ∧ VB b prog w U W h v a ∧ VB b prog w U W h u c := by
  cases q with
  | cons h1 h2 =>
    obtain ⟨u, rfl, h3⟩ := h2.one
    exact ⟨_, u, rfl, h1, h3⟩

/- built-in functions -/
theorem C_len_list {l : List AV} (hsz : l.length < 2 ^ 63) : CallV X k false (.builtin "len") [.list l] [] (.int l.length) := by
  intro sc U W Γ A env s Q E vs ks R hv hk q
  cases hk
  obtain ⟨v, rfl, hv1⟩ := hv.one
  obtain ⟨a, ws, n, rfl, e, hr⟩ := hv1.list
  have hlen := hr.length
  refine call_len_list (LObj.isList e) (by rw [List.size_toArray, hlen]; omega) ?_
  rw [List.size_toArray, hlen]
  exact q _ _ _ (Aft.refl R) (.inl (.int _ _))
theorem C_len_str {x : Str} (hsz : x.length < 2 ^ 63) : CallV X k false (.builtin "len") [.str x] [] (.int x.length) := by
  intro sc U W Γ A env s Q E vs ks R hv hk q
  cases hk
  obtain ⟨v, rfl, hv1⟩ := hv.one
  obtain ⟨t, rfl⟩ := hv1.str
  exact P.len_str (by omega) (q _ _ _ (Aft.refl R) (.inl (.int _ _)))
theorem C_len_dict {l : List (Int × Int)} (hsz : l.length < 2 ^ 63) : CallV X k false (.builtin "len") [.dictI l] [] (.int l.length) := by
  intro sc U W Γ A env s Q E vs ks R hv hk q
  cases hk
  obtain ⟨v, rfl, hv1⟩ := hv.one
  obtain ⟨a, kvs, rfl, hd, hi, hs, _⟩ := hv1.dictI R
  have hlen := hi.length
  refine call_len_dict hs hd (by rw [hlen]; omega) ?_
  rw [hlen]
  exact q _ _ _ (Aft.refl R) (.inl (.int _ _))
theorem C_sum {l : List Int} : CallV X k false (.builtin "sum") [.list (nums l)] [] (.int l.sum) := by
  intro sc U W Γ A env s Q E vs ks R hv hk q
  cases hk
  obtain ⟨v, rfl, hv1⟩ := hv.one
  obtain ⟨a, ws, n, rfl, e, hr⟩ := hv1.list
  have hi := hr.areInts
  obtain ⟨xs, hx⟩ := hi.allInts.items
  have hl' : s.heap.IsList a (intItems xs) := hx ▸ LObj.isList e
  refine wpAny_with_size (sum_intListG R.am.handled hl' fun h' tk t' hk sz => ?_)
  have e1 : l = xs.toList.map (·.1) := by
    rw [← nums_intItems, ← hx]
    exact (show numsOf ws.toArray.toList = l from hi.numsOf).symm
  have e2 : preSum (numAt xs) xs.size = l.sum := by
    rw [preSum_eq, List.take_of_length_le (by simp), e1]
  rw [e2]
  exact q _ _ _ (.ext R.tab hk sz) (.inl (.int _ _))
theorem C_divmod {i j : Int} (hj : j ≠ 0) (hp : Builtin.divisionGoesByPylong i j = false) : CallV X k false (.builtin "divmod") [.int i, .int j] [] (.tup [i.fdiv j, i.fmod j]) := by
  intro sc U W Γ A env s Q E vs ks R hv hk q
  cases hk
  obtain ⟨v, u, rfl, hv1, hu⟩ := hv.two
  obtain ⟨t, rfl⟩ := hv1.int
  obtain ⟨t', rfl⟩ := hu.int
  refine divmod_int hj (q _ _ _ (.push R.tab _) (.inl (.tup (n := 0) (R.fresh (Nat.le_refl _)) (Heap.get?_push_size _ rfl) (.cons _ _ (.cons _ _ .nil))))) (.inl hp)

/- what is iterated -/
theorem I_range {np pos : Pos} {e : Expr} {i : Nat} {n : Nat} (L : Nm sc.names i ("range" : Str) .globalImplicit) (g : GlobIs X ("range" : Str) (.type "range")) (h1 : Evals X false k sc Γ e (.int n)) (hn : n < 2 ^ 62)
    (hst : ∀ env, starEach [e] env = [(false, eval e env)] := by intro _; rfl) (he : ∀ env, eval (.Call (.Name ("range" : Str) np) [e] [] pos) env = (do callWith pos (← eval (.Name ("range" : Str) np) env) [] (backTo pos (starEach [e] env)) (backToKw pos (keywordEach [] env))) := by intro _; rfl)
    (hbt : ∀ env, backTo pos [(false, eval e env)] = [(false, eval e env)] := by intro _; rfl) :
    Iters X b k sc Γ (.Call (.Name ("range" : Str) np) [e] [] pos) ((List.range n).map fun i => .int (i : Nat)) := by
  intro U W A env s Q E R q
  rw [he]
  refine wpAny_bind (E_glob (av := .val (.type "range")) L g (fun _ _ => .val _) (b := false) R fun v h₁ t₁ a₁ q₁ => ?_)
  cases q₁.val
  have R₁ := R.after (tk := t₁) a₁
  rw [hst, hbt]
  refine callWith_type1 (h1 R₁ fun v h₂ t₂ a₂ q₂ => ?_)
  obtain ⟨t, rfl⟩ := q₂.int
  have R₂ := R₁.after (tk := t₂) a₂
  refine call_range_1 ?_
  have kp : ∀ (o o' : Obj) b x, h₂.get? b = some x → ((h₂.push o).push o').get? b = some x := fun o o' b x e => Heap.get?_push_of_some _ (Heap.get?_push_of_some _ e)
  have sz1 : (h₂.push ({ cls := .type "range", data := .fields #[.int 0 t₂, .int n t, .int 1 (t₂ + 1)] } : Obj)).objs.size = h₂.objs.size + 1 := Heap.size_push ..
  have hr : IsRange (h₂.push ({ cls := .type "range", data := .fields #[.int 0 t₂, .int n t, .int 1 (t₂ + 1)] } : Obj)) h₂.objs.size 0 n 1 t₂ t (t₂ + 1) := IsRange.new h₂ 0 n 1 t₂ t (t₂ + 1)
  have hsize : Builtin.Range.rangeSize 0 (n : Int) 1 = (n : Int) := by rw [rangeSize_one]; split <;> omega
  refine wpAny_pyIter_range hr (small_one (by omega) (by omega) (by omega) (by omega)) ?_
  rw [hsize]
  have hit : ((h₂.push ({ cls := .type "range", data := .fields #[.int 0 t₂, .int n t, .int 1 (t₂ + 1)] } : Obj)).push ({ cls := .type "range_iterator", data := .fields #[rawInt 0, rawInt n, rawInt 1] } : Obj)).get? (h₂.objs.size + 1) = some { cls := .type "range_iterator", data := .fields #[rawInt 0, rawInt n, rawInt 1] } := by
    rw [← sz1]; exact Heap.get?_push_size _ rfl
  have szI : (Shared.heap { heap := h₂.push ({ cls := .type "range", data := .fields #[.int 0 t₂, .int n t, .int 1 (t₂ + 1)] } : Obj), gens := s.gens, drawn := s.drawn, toks := t₂ + 1 + 1, os := s.os }).objs.size = h₂.objs.size + 1 := sz1
  rw [szI]
  have a' := a₁.trans a₂
  refine q _ _ _ _ _ _ _ _ (a'.trans (.ext a₂.tab (kp _ _) (by rw [Heap.size_push, sz1]; omega))) (LCg.range_walks R.am.handled 0 n) ?_ (by simp) (fun b' hb' => ?_) (fun b' hb' => ?_) fun j av ej v hv => ?_
  · show IsRangeIter _ _ _ _ _
    simpa using hit
  · rw [List.mem_singleton.mp hb']
    refine ⟨by rw [Heap.size_push, sz1]; exact Nat.lt_succ_self _, fun q => ?_, fun _ q => ?_⟩
    · exact absurd (R₂.Ult _ (R.Ut _ q)) (Nat.not_lt.mpr (Nat.le_succ _))
    · exact absurd (R₂.Wlt _ q) (Nat.not_lt.mpr (Nat.le_succ _))
  · rw [List.mem_singleton.mp hb']
    exact ⟨Nat.le_succ_of_le a'.size, not_codeRec hit fun vs hd q t => by cases hd; simp [rawInt]⟩
  · obtain ⟨t, rfl⟩ := hv
    rw [List.getElem?_map] at ej
    obtain ⟨j', hj', rfl⟩ := Option.map_eq_some_iff.mp ej
    have : j' = j := by
      have := (List.getElem?_eq_some_iff.mp hj').2
      simpa using this.symm
    subst this
    rw [show (0 : Int) + (j' : Nat) = (j' : Nat) by omega]
    exact .int _ _

theorem I_dict {e : Expr} {l : List (Int × Int)} (h1 : Evals X b k sc Γ e (.dictI l)) : Iters X b k sc Γ e (nums (l.map (·.1))) := by
  intro U W A env s Q E R q
  refine h1 R fun v h₁ t₁ a₁ q₁ => ?_
  have R₁ := R.after (tk := t₁) a₁
  obtain ⟨a, kvs, rfl, hd, hi, hs, hV⟩ := q₁.dictI R₁
  obtain ⟨ep, hat⟩ := hd.dictAt
  have hlt : a < h₁.objs.size := by obtain ⟨o, _, _, eo, _⟩ := hd; exact Heap.lt_size eo
  refine wpAny_pyIter_dict hs hat ?_
  have hnew := Heap.get?_push_size h₁ (o := { cls := .type "dict_keyiterator", data := .fields #[.ref a, .int 0 0, .int kvs.length 0, .int ep 0] }) rfl
  refine q _ _ _ _ _ _ (h₁.push _) t₁ (a₁.trans (.push a₁.tab _)) (Walks.dictKeys (knd := intKind X.prog X.w) R.am.handled h₁.objs.size a (Nat.ne_of_lt hlt) kvs ep) ⟨⟨_, hnew, rfl, rfl⟩, ?_⟩ (by simpa using hi.length) (fun b' hb' => ?_) (fun b' hb' => ?_) fun j av ej v hv => ?_
  · obtain ⟨o, es, ho, r⟩ := hat
    exact ⟨o, es, Heap.get?_push_of_some _ ho, r⟩
  · rcases List.mem_cons.mp hb' with rfl | hb'
    · refine ⟨by rw [Heap.size_push]; exact Nat.lt_succ_self _, fun q => ?_, fun _ q => ?_⟩
      · exact absurd (R₁.Ult _ (R.Ut _ q)) (Nat.lt_irrefl _)
      · exact absurd (R₁.Wlt _ q) (Nat.lt_irrefl _)
    · rw [List.mem_singleton.mp hb']
      exact ⟨by rw [Heap.size_push]; exact Nat.lt_succ_of_lt hlt, fun q => hV (.inl (R.Ut _ q)), fun _ q => hV (.inr q)⟩
  · rw [List.mem_singleton.mp hb']
    exact ⟨a₁.size, not_codeRec hnew fun vs hd q t => by cases hd; simp⟩
  · obtain ⟨k', x, e1, e2⟩ := hv
    obtain ⟨t, rfl⟩ := Value.isInt_shape e2
    have e3 := hi.key e1
    rw [nums, List.getElem?_map, e3] at ej
    cases ej
    exact .int _ _

theorem I_rev {np pos : Pos} {e : Expr} {i : Nat} {l : List AV} (L : Nm sc.names i ("reversed" : Str) .globalImplicit) (g : GlobIs X ("reversed" : Str) (.type "reversed")) (h1 : Evals X b k sc Γ e (.list l))
    (hst : ∀ env, starEach [e] env = [(false, eval e env)] := by intro _; rfl) (he : ∀ env, eval (.Call (.Name ("reversed" : Str) np) [e] [] pos) env = (do callWith pos (← eval (.Name ("reversed" : Str) np) env) [] (backTo pos (starEach [e] env)) (backToKw pos (keywordEach [] env))) := by intro _; rfl)
    (hbt : ∀ env, backTo pos [(false, eval e env)] = [(false, eval e env)] := by intro _; rfl) :
    Iters X b k sc Γ (.Call (.Name ("reversed" : Str) np) [e] [] pos) l.reverse := by
  intro U W A env s Q E R q
  rw [he]
  refine wpAny_bind (E_glob (av := .val (.type "reversed")) L g (fun _ _ => .val _) (b := false) R fun v h₁ t₁ a₁ q₁ => ?_)
  cases q₁.val
  have R₁ := R.after (tk := t₁) a₁
  rw [hst, hbt]
  refine callWith_type1 (h1 R₁ fun v h₂ t₂ a₂ q₂ => ?_)
  have R₂ := R₁.after (tk := t₂) a₂
  obtain ⟨a, vs, n, rfl, e0, hr, ht, hw⟩ := q₂.listAt R₂
  have e' : h₂.get? a = some (LObj vs n) := e0
  have hlt : a < h₂.objs.size := Heap.lt_size e'
  have hlen := hr.length
  refine call_reversed_list (LObj.isList e0) ?_
  have hnew := Heap.get?_push_size h₂ (o := revObj a ((vs.toArray.size : Int) - 1)) rfl
  have W' : Walks X.prog X.w A h₂.objs.size [h₂.objs.size, a] [h₂.objs.size] vs.toArray.size _ _ := Walks.listRev R.am.handled h₂.objs.size a (Nat.ne_of_lt hlt) vs.toArray
  have hst0 : (fun i h => i ≤ vs.toArray.size ∧ Heap.IsRevIter h h₂.objs.size a ((vs.toArray.size : Int) - 1 - (i : Int)) ∧ Heap.IsList h a vs.toArray) 0 (h₂.push (revObj a ((vs.toArray.size : Int) - 1))) :=
    ⟨Nat.zero_le _, ⟨_, hnew, rfl, by simp [revObj]⟩, (LObj.isList e').push _⟩
  refine W'.self 0 _ _ _ hst0 ?_
  refine q _ _ _ _ _ _ (h₂.push _) t₂ ((a₁.trans a₂).trans (.push a₂.tab _)) W' hst0 (by simpa using hlen) (fun b' hb' => ?_) (fun b' hb' => ?_) fun j av ej v hv => ?_
  · rcases List.mem_cons.mp hb' with rfl | hb'
    · refine ⟨by rw [Heap.size_push]; exact Nat.lt_succ_self _, fun q => ?_, fun _ q => ?_⟩
      · exact absurd (R₂.Ult _ (R.Ut _ q)) (Nat.lt_irrefl _)
      · exact absurd (R₂.Wlt _ q) (Nat.lt_irrefl _)
    · rw [List.mem_singleton.mp hb']
      exact ⟨by rw [Heap.size_push]; exact Nat.lt_succ_of_lt hlt, ht, hw⟩
  · rw [List.mem_singleton.mp hb']
    exact ⟨(a₁.trans a₂).size, not_codeRec hnew fun vs hd q t => by simp only [revObj] at hd; cases hd; simp [rawInt]⟩
  · have hjl : j < l.length := by have := (List.getElem?_eq_some_iff.mp ej).1; simpa using this
    rw [List.getElem?_reverse hjl] at ej
    obtain ⟨v', hv', hvr⟩ := hr.get ej
    have : v = v' := by
      have hv2 : vs[vs.toArray.size - 1 - j]? = some v := by simpa using hv
      rw [List.size_toArray, hlen, hv'] at hv2
      exact (Option.some.inj hv2).symm
    subst this
    refine hvr.change fun b o e nb => ⟨Heap.get?_push_of_some _ e, ?_⟩
    rintro ((z | z) | z)
    · exact nb (.inl z)
    · rw [List.mem_singleton.mp z] at e
      exact absurd (Heap.lt_size e) (Nat.lt_irrefl _)
    · exact nb (.inr z)

/- is None -/
theorem C_isNone {v : AV} {t : Bool} (h : ∀ {u : Value} {V : Addr → Prop} {hp : Heap}, VR X.prog X.w V hp u v → (u == Value.none) = t) : CmpV X k .Is v (.val .none) t := by
  intro sc U W Γ A env s Q E u u' R hv hu q
  cases hu.val
  have : (u == Value.none) = t := by
    rcases hv with hv | ⟨_, x, vs, n, l', h1, h2, h3, h4, h5⟩
    · exact h hv
    · subst h1 h2
      have hV : VR X.prog X.w (fun _ => False) s.heap (.ref x) (.list l') := .list id h4 (h5.change fun b o e _ => ⟨e, id⟩)
      exact h hV
  exact is_none_gen (by rw [this]; exact q _ _ (Aft.refl R))
theorem C_noneIs : CmpV X k .Is (.val .none) (.val .none) true := C_isNone fun h => by cases h; rfl
theorem C_refIs {a : Addr} : CmpV X k .Is (.val (.ref a)) (.val .none) false := C_isNone fun h => by cases h; rfl
theorem C_dictIs {l : List (Int × Int)} : CmpV X k .Is (.dictI l) (.val .none) false := C_isNone fun h => by cases h; rfl

/- items of dicts -/
theorem I_dictI {l : List (Int × Int)} {i c : Int} (h : atL l i = some c) : ItemV X k (.dictI l) (.int i) (.int c) := by
  intro sc U W Γ A env s Q E v u R hv hu q
  obtain ⟨a, kvs, rfl, hd, hi, hs, _⟩ := hv.dictI R
  obtain ⟨t, rfl⟩ := hu.int
  rcases hi.at i with ⟨_, e⟩ | ⟨j, t', e1, e2⟩
  · rw [h] at e; cases e
  · rw [h] at e2; cases e2
    exact ⟨_, _, hd.typeIs, slot_dict_getitem.lookup, wpAny_getItem_of (knd := intKind X.prog X.w) (k := i) (by simp [intKind, Value.isInt]) hd.mapOf e1 (q _ s.heap _ (Aft.refl R) (.inl (.int _ _)))⟩
theorem I_dictS {l : List (Int × Str)} {i : Int} {c : Str} (h : atL l i = some c) : ItemV X k (.dictS l) (.int i) (.str c) := by
  intro sc U W Γ A env s Q E v u R hv hu q
  obtain ⟨a, kvs, rfl, hd, hi, hs⟩ := hv.dictS R
  obtain ⟨t, rfl⟩ := hu.int
  rcases hi.at i with ⟨_, e⟩ | ⟨j, t', e1, e2⟩
  · rw [h] at e; cases e
  · rw [h] at e2; cases e2
    exact ⟨_, _, hd.typeIs, slot_dict_getitem.lookup, wpAny_getItem_of (knd := intKind X.prog X.w) (k := i) (by simp [intKind, Value.isInt]) hd.mapOf e1 (q _ s.heap _ (Aft.refl R) (.inl (.str _ _)))⟩
end
end Mine
namespace Mine

/-- a part of a text -/
noncomputable def cutS (x : Str) (a b : Nat) : Str := ⟨((x.cps.toList.drop a).take (b - a)).toArray⟩

theorem max_min (a len : Nat) : max (0 : Int) (min (a : Int) (len : Int)) = ((min a len : Nat) : Int) := by
  rcases Nat.le_total a len with h | h
  · rw [Nat.min_eq_left h, Int.min_eq_left (Int.ofNat_le.mpr h)]; exact Int.max_eq_right (Int.natCast_nonneg _)
  · rw [Nat.min_eq_right h, Int.min_eq_right (Int.ofNat_le.mpr h)]; exact Int.max_eq_right (Int.natCast_nonneg _)
theorem min_mono {a b : Nat} (h : a ≤ b) (n : Nat) : min a n ≤ min b n := Nat.le_min.mpr ⟨Nat.le_trans (Nat.min_le_left _ _) h, Nat.min_le_right _ _⟩
theorem idx_clip (a b len : Nat) : Builtin.Str.strSliceIndices (some (a : Int)) (some (b : Int)) 1 len = Builtin.Str.strSliceIndices (some ((min a len : Nat) : Int)) (some ((min b len : Nat) : Int)) 1 len := by
  have nn (n : Nat) : ¬ ((n : Int) < 0) := Int.not_lt.mpr (Int.natCast_nonneg n)
  have e3 : min (min a len) len = min a len := Nat.min_eq_left (Nat.min_le_right _ _)
  have e4 : min (min b len) len = min b len := Nat.min_eq_left (Nat.min_le_right _ _)
  simp only [Builtin.Str.strSliceIndices, nn, if_false, max_min, e3, e4, show ((1 : Int) > 0) = True from by simp, if_true]
theorem idx_picks (x : Str) {a b : Nat} (hab : a ≤ b) : (Builtin.Str.strSliceIndices (some (a : Int)) (some (b : Int)) 1 x.length).filterMap (x.cps[·]?) = (x.cps.toList.drop a).take (b - a) := by
  rw [idx_clip, PySem.StrLaws.sliced_plain x (min_mono hab _) (Nat.min_le_right _ _)]
  have hl : x.length = x.cps.toList.length := by simp [Str.length]
  generalize x.cps.toList = l at hl
  rw [hl, kmk_drop_min]
  by_cases h : b ≤ l.length
  · rw [Nat.min_eq_left h, Nat.min_eq_left (Nat.le_trans hab h)]
  · rw [Nat.min_eq_right (by omega), List.take_of_length_le (by rw [List.length_drop]; omega), List.take_of_length_le (by rw [List.length_drop]; omega)]

theorem VRs.strs {prog : Program} {w : World} {V : Addr → Prop} {h : Heap} : ∀ {vs : List Value} {l : List Str}, VRs prog w V h vs (l.map AV.str) → ∃ ps : List (Str × Tok), vs = PySem.strValues ps ∧ ps.map (·.1) = l := by
  intro vs l
  induction l generalizing vs with
  | nil => intro r; rw [r.inv0]; exact ⟨[], rfl, rfl⟩
  | cons x l ih =>
    intro r
    obtain ⟨v, vs', rfl, h1, h2⟩ := r.inv
    cases h1 with
    | str _ t =>
      obtain ⟨ps, rfl, e⟩ := ih h2
      exact ⟨(x, t) :: ps, rfl, congrArg (x :: ·) e⟩
noncomputable def glueAll (l : List Str) : Str := Builtin.Str.glued Str.empty l

section
variable {X : Cx} {b : Bool} {k : Nat} {sc : Scope} {U W : Addr → Prop} {Γ Γ' Γ₁ : List (Option Slot)} {A : Around} {env : Env} {s : Shared} {r : Fl}

theorem E_strCut {value lo hi : Expr} {p pos : Pos} {x : Str} {i j : Nat} (h1 : Evals X false k sc Γ value (.str x)) (h2 : Evals X false k sc Γ lo (.int i)) (h3 : Evals X false k sc Γ hi (.int j)) (hij : i ≤ j) (hsz : x.length ≤ sizeLine) :
    Evals X b k sc Γ (.Subscript value (.Slice (some lo) (some hi) none p) pos) (.str (cutS x i j)) := by
  intro U W A env s Q E R q
  refine Subscript_ (h1 R fun v h₁ t₁ a₁ q₁ => wpAny_Slice (part_step (.some h2) (R.after a₁) fun u h₂ t₂ a₂ q₂ => part_step (.some h3) ((R.after a₁).after a₂) fun u' h₃ t₃ a₃ q₃ => ?_))
  rw [evalPart_none]
  refine wpAny_pure ?_
  obtain ⟨t, rfl⟩ := q₁.str
  cases q₂ with
  | int _ ti =>
    cases q₃ with
    | int _ tj =>
      have a' := ((a₁.trans a₂).trans a₃).trans (.push a₃.tab { cls := .type "slice", data := .fields #[.int i ti, .int j tj, .none] })
      have hn : (h₃.push ({ cls := .type "slice", data := .fields #[.int i ti, .int j tj, .none] } : Obj)).IsSlice h₃.objs.size (some (i, ti)) (some (j, tj)) none := ⟨_, Heap.get?_push_size _ rfl, rfl, rfl⟩
      refine tail_any (typeIs_str _ x t) F.slot_str_getitem.lookup (ops := [.ref h₃.objs.size, .str x t]) (PySem.wpAny_getItem_str_slice hn rfl ?_) (by with_unfolding_all rfl)
      unfold PySem.sliceMade PySem.slicePicked
      have hp := idx_picks x hij
      simp only [Option.map_some, Option.map_none, Option.getD_none] at hp ⊢
      split
      · rename_i hc
        have hl : (Builtin.Str.strSliceIndices (some (i : Int)) (some (j : Int)) 1 x.length).length = x.length := by simpa using hc
        have e : cutS x i j = x := by
          have h5 : ((x.cps.toList.drop i).take (j - i)).length = x.length := by
            rw [← hp]
            refine Eq.trans ?_ hl
            have : ∀ l : List Nat, (∀ k ∈ l, k < x.length) → (l.filterMap (x.cps[·]?)).length = l.length := by
              intro l hl
              induction l with
              | nil => rfl
              | cons a l ih =>
                have ha : a < x.cps.size := hl a (List.mem_cons_self ..)
                rw [List.filterMap_cons, Array.getElem?_eq_getElem ha]
                simp only [List.length_cons, ih fun k hk => hl k (List.mem_cons_of_mem _ hk)]
            refine this _ fun k hk => ?_
            rw [idx_clip, PySem.StrLaws.strSliceIndices_plain (min_mono hij _) (Nat.min_le_right _ _)] at hk
            obtain ⟨m, hm, rfl⟩ := List.mem_map.mp hk
            rw [List.mem_range] at hm
            omega
          have h6 : ((x.cps.toList.drop i).take (j - i)) = x.cps.toList := by
            have hxl : x.length = x.cps.toList.length := by simp [Str.length]
            rw [List.length_take, List.length_drop, hxl] at h5
            by_cases h0 : x.cps.toList.length = 0
            · have : x.cps.toList = [] := List.length_eq_zero_iff.mp h0
              rw [this]; simp
            · have hi0 : i = 0 := by omega
              subst hi0
              rw [List.drop_zero]
              exact List.take_of_length_le (by omega)
          unfold cutS
          rw [h6]
        rw [e] at q
        exact q _ _ _ a' (.inl (.str _ _))
      · rw [hp]
        refine ⟨?_, q _ _ _ a' (.inl (.str _ _))⟩
        show ((x.cps.toList.drop i).take (j - i)).toArray.size ≤ sizeLine
        have hxl : x.length = x.cps.toList.length := by simp [Str.length]
        rw [List.size_toArray, List.length_take, List.length_drop]; omega

/- the token table -/
theorem C_notTab {a : Addr} {D : List (Str × KTD.Dat)} {x : Str} (T : KTD.TextTab X.hb a D) : CmpV X k .NotIn (.str x) (.val (.ref a)) (!KTD.inKeys x D) := by
  intro sc U W Γ A env s Q E u u' R hv hu q
  obtain ⟨t, rfl⟩ := hv.str
  cases hu.val
  exact KTD.notin_text (h₀ := X.hb) ⟨T, R.base⟩ (q _ _ (Aft.refl R))
theorem I_tab {a : Addr} {D : List (Str × KTD.Dat)} {x : Str} {i : Int} (T : KTD.TextTab X.hb a D) (hx : KTD.datumAt x D = some (.flat (.int i))) : ItemV X k (.val (.ref a)) (.str x) (.int i) := by
  intro sc U W Γ A env s Q E v u R hv hu q
  cases hv.val
  obtain ⟨t, rfl⟩ := hu.str
  have H : KTD.Here X.hb s.heap a D := ⟨T, R.base⟩
  refine ⟨_, _, H.typeIs, slot_dict_getitem.lookup, ?_⟩
  unfold getItem
  try with_reducible refine wpAny_holding ?_
  refine wpAny_bind (wpAny_sequenceKey H.typeIs (by decide) ?_)
  refine wpAny_bind (wpAny_callSpecial?_slot (name := Str.ofString "__getitem__") H.typeIs slot_dict_getitem
    (wpAny_call_entry slot_dict_getitem H.typeIs entry_dict_getitem ?_ (args_dict_getitem _ _)))
  show wpAny _ _ (dictGet a (.str x t) >>= _) _ _ s
  refine wpAny_bind (KTD.dictGet_text H (fun d v ha hv => ?_) fun hn => ?_)
  · rw [hx] at ha; cases ha
    obtain ⟨as, p⟩ : ∃ as, Reads {} v (.int i) as := ⟨_, hv {}⟩
    cases p with
    | int _ t => exact wpAny_pure ⟨_, rfl, wpAny_pure (q _ s.heap _ (Aft.refl R) (.inl (.int _ _)))⟩
  · rw [hx] at hn; cases hn

/- methods of values -/
noncomputable def GetV (X : Cx) (k : Nat) (name : Str) (a : AV) (id : String) : Prop :=
  ∀ ⦃sc U W Γ A env s Q E v pl⦄, Rel X k sc U W Γ A env s → VB false X.prog X.w U W s.heap v a → Q (.builtin id, [v]) s → wpAny (model X.prog X.w) A (getMethod v name pl) Q E s

theorem E_meth {o e : Expr} {rest : List Expr} {name : Str} {apos pos : Pos} {a c : AV} {as : List AV} {id : String} {pl : Env → Sem Bool} (h1 : Evals X false k sc Γ o a) (hg : GetV X k name a id) (ha : EvalsL X false k sc Γ (e :: rest) as) (hc : CallV X k false (.builtin id) (a :: as) [] c)
    (he : ∀ env, eval (.Call (.Attribute o name apos) (e :: rest) [] pos) env = (do
      let ov ← eval o env
      standAt apos.atName
      let (f, first) ← holding [ov] (getMethod ov name (pl env))
      callWith pos f first (backTo pos (starEach (e :: rest) env)) (backToKw pos (keywordEach [] env))) := by intro _; rfl)
    (hns : ∀ env, (backTo pos (starEach (e :: rest) env)).any (·.1) = false := by intro _; rfl) (hst : ∀ env, starEach (e :: rest) env = (false, eval e env) :: starEach rest env := by intro _; rfl) :
    Evals X b k sc Γ (.Call (.Attribute o name apos) (e :: rest) [] pos) c := by
  intro U W A env s Q E R q
  refine methodCall_KW (pl := pl env) (h1 R fun v h₁ t₁ a₁ q₁ => ?_) (he env)
  have R₁ := R.after (tk := t₁) a₁
  refine hg R₁ q₁ ?_
  refine callWith_builtin (hns env) ?_
  rw [hst]
  refine evalArgs_plain ?_
  have h2 := ha pos (Q := fun us s₁ => wpAny (model X.prog X.w) A (call (.builtin id) ([v] ++ us) []) Q (fun e s => E e s) s₁) (E := fun e s => E e s) R₁ ?_
  · rw [hst] at h2; exact h2
  · intro us h₂ tk₂ a₂ hus
    exact hc (R₁.after a₂) (.cons (q₁.after R a₂) hus) .nil fun r h₃ t₃ a₃ q₃ => q _ _ _ ((a₁.trans a₂).trans a₃) q₃.weak
theorem E_meth0 {o : Expr} {name : Str} {apos pos : Pos} {a c : AV} {id : String} {pl : Env → Sem Bool} (h1 : Evals X false k sc Γ o a) (hg : GetV X k name a id) (hc : CallV X k false (.builtin id) [a] [] c)
    (he : ∀ env, eval (.Call (.Attribute o name apos) [] [] pos) env = (do
      let ov ← eval o env
      standAt apos.atName
      let (f, first) ← holding [ov] (getMethod ov name (pl env))
      callWith pos f first (backTo pos (starEach [] env)) (backToKw pos (keywordEach [] env))) := by intro _; rfl) :
    Evals X b k sc Γ (.Call (.Attribute o name apos) [] [] pos) c := by
  intro U W A env s Q E R q
  refine methodCall_KW (pl := pl env) (h1 R fun v h₁ t₁ a₁ q₁ => ?_) (he env)
  have R₁ := R.after (tk := t₁) a₁
  refine hg R₁ q₁ ?_
  refine callWith_builtin rfl ?_
  refine evalArgs_kw2_nil (kws := []) rfl (kwAll_nil ?_)
  exact hc R₁ (.cons q₁ .nil) .nil fun r h₂ t₂ a₂ q₂ => q _ _ _ (a₁.trans a₂) q₂.weak

theorem V_bits {i : Int} : GetV X k (Str.ofString "bit_length") (.int i) "int.bit_length" := by
  intro sc U W Γ A env s Q E v pl R hv q
  obtain ⟨t, rfl⟩ := hv.int
  exact getMethod_int_bit_length q
theorem C_bits {i : Int} : CallV X k false (.builtin "int.bit_length") [.int i] [] (.int (Builtin.Int.intBits i : Nat)) := by
  intro sc U W Γ A env s Q E vs ks R hv hk q
  cases hk
  obtain ⟨v, rfl, hv1⟩ := hv.one
  obtain ⟨t, rfl⟩ := hv1.int
  exact call_int_bit_length (q _ _ _ (Aft.refl R) (.inl (.int _ _)))
theorem V_join {x : Str} : GetV X k ("join" : Str) (.str x) "str.join" := by
  intro sc U W Γ A env s Q E v pl R hv q
  obtain ⟨t, rfl⟩ := hv.str
  exact getMethod_builtin (typeIs_str _ _ _) F.plainAttrs_str F.slot_str_join F.type_str_join (fun _ e => nomatch e) q
theorem V_count {l : List AV} : GetV X k ("count" : Str) (.list l) "list.count" := by
  intro sc U W Γ A env s Q E v pl R hv q
  obtain ⟨a, vs, n, rfl, e, hr⟩ := hv.list
  exact getMethod_list_of F.slot_list_count F.type_list_count (LObj.isList e) ⟨_, e, rfl⟩ q
theorem C_count {l : List Int} {i : Int} : CallV X k false (.builtin "list.count") [.list (nums l), .int i] [] (.int (l.count i : Nat)) := by
  intro sc U W Γ A env s Q E vs ks R hv hk q
  cases hk
  obtain ⟨v, u, rfl, hv1, hu⟩ := hv.two
  obtain ⟨a, ws, n, rfl, e, hr⟩ := hv1.list
  obtain ⟨t, rfl⟩ := hu.int
  exact count_list_ints (LObj.isList e) hr.areInts (q _ _ _ (Aft.refl R) (.inl (.int _ _)))
theorem V_dget {l : List (Int × Int)} : GetV X k ("get" : Str) (.dictI l) "dict.get" := by
  intro sc U W Γ A env s Q E v pl R hv q
  obtain ⟨a, kvs, rfl, hd, hi, hs, _⟩ := hv.dictI R
  exact getMethod_builtin hd.typeIs F.plainAttrs_dict F.slot_dict_get F.type_dict_get (fun b e => by cases e; exact hd.mapOf.noDict _ rfl) q
theorem C_dget {l : List (Int × Int)} {i j : Int} : CallV X k false (.builtin "dict.get") [.dictI l, .int i, .int j] [] (.int ((atL l i).getD j)) := by
  intro sc U W Γ A env s Q E vs ks R hv hk q
  cases hk
  cases hv with
  | cons hv1 hv =>
    obtain ⟨v, u, rfl, hv2, hu⟩ := hv.two
    obtain ⟨a, kvs, rfl, hd, hi, hs, _⟩ := hv1.dictI R
    obtain ⟨t, rfl⟩ := hv2.int
    obtain ⟨t', rfl⟩ := hu.int
    refine call_meetsIn F.slot_dict_get hd.typeIs F.entry_dict_get (F.args_dict_get_3 _ _ _) (meets_dict_get_default (intKind X.prog X.w) a (k := i) (by simp [intKind, Value.isInt]) hs _) ⟨_, hd.mapOf, ?_⟩
    rcases hi.at i with ⟨e1, e2⟩ | ⟨j', t'', e1, e2⟩
    · rw [e1]; rw [e2] at q; exact q _ _ _ (Aft.refl R) (.inl (.int _ _))
    · rw [e1]; rw [e2] at q; exact q _ _ _ (Aft.refl R) (.inl (.int _ _))
theorem C_join {l : List Str} (hsz : Builtin.Str.tooLong (l.toArray.foldl (fun n x => n + x.length + Str.empty.length) 0) = false) (hg : (glueAll l).length ≤ sizeLine) : CallV X k false (.builtin "str.join") [.str Str.empty, .list (l.map AV.str)] [] (.str (glueAll l)) := by
  intro sc U W Γ A env s Q E vs ks R hv hk q
  cases hk
  obtain ⟨v, u, rfl, hv1, hu⟩ := hv.two
  obtain ⟨t, rfl⟩ := hv1.str
  obtain ⟨a, ws, n, rfl, e, hr⟩ := hu.list
  obtain ⟨ps, rfl, hl⟩ := hr.strs
  refine call_meets F.slot_str_join (typeIs_str s _ t) F.entry_str_join (F.args_str_join_2 _ _) (PySem.meets_str_join_list Str.empty t a ps (by rw [hl]; exact hsz)) ⟨LObj.isList e, ?_⟩
  subst hl
  have q' : ∀ (x : Str) t h' tk, x = glueAll (ps.map (·.1)) → Aft X.T (UW U W) s.heap h' → Q (.str x t) { s with heap := h', toks := tk } := fun x t h' tk hx a => by subst hx; exact q _ _ _ a (.inl (.str _ _))
  cases ps with
  | nil => exact ⟨hg, q' _ _ s.heap _ rfl (Aft.refl R)⟩
  | cons p ps =>
    cases ps with
    | nil => exact q' _ _ s.heap s.toks (by simp [glueAll, Builtin.Str.glued]) (Aft.refl R)
    | cons p' ps => exact ⟨hg, q' _ _ s.heap _ rfl (Aft.refl R)⟩

theorem B_strAdd {x y : Str} (hsz : (x ++ y).length ≤ sizeLine) : BinV X k .Add (.str x) (.str y) (.str (x ++ y)) := by
  intro sc U W Γ A env s Q E v u R hv hu q
  obtain ⟨t, rfl⟩ := hv.str
  obtain ⟨t', rfl⟩ := hu.str
  refine P.add_str ?_
  have q' : ∀ (z : Str) t h' tk, z = x ++ y → Aft X.T (UW U W) s.heap h' → Q (.str z t) { s with heap := h', toks := tk } := fun z t h' tk hx a => by subst hx; exact q _ _ _ a (.inl (.str _ _))
  split
  · rename_i h
    refine q' _ _ s.heap s.toks ?_ (Aft.refl R)
    have : x.cps = #[] := by simpa [Str.length] using h
    cases x; cases y
    simp only at this
    subst this
    show _ = Str.mk _
    simp
  · split
    · rename_i h
      refine q' _ _ s.heap s.toks ?_ (Aft.refl R)
      have : y.cps = #[] := by simpa [Str.length] using h
      cases x; cases y
      simp only at this
      subst this
      show _ = Str.mk _
      simp
    · exact ⟨hsz, q' _ _ s.heap _ rfl (Aft.refl R)⟩

/- list(a dict) -/
theorem N_listDict {np pos : Pos} {e : Expr} {i : Nat} {l : List (Int × Int)} (L : Nm sc.names i ("list" : Str) .globalImplicit) (g : GlobIs X ("list" : Str) (.type "list")) (h1 : Evals X false k sc Γ e (.dictI l)) (hsz : l.length ≤ sizeLine)
    (hst : ∀ env, starEach [e] env = [(false, eval e env)] := by intro _; rfl) (he : ∀ env, eval (.Call (.Name ("list" : Str) np) [e] [] pos) env = (do callWith pos (← eval (.Name ("list" : Str) np) env) [] (backTo pos (starEach [e] env)) (backToKw pos (keywordEach [] env))) := by intro _; rfl)
    (hbt : ∀ env, backTo pos [(false, eval e env)] = [(false, eval e env)] := by intro _; rfl) :
    EvalsN X k sc Γ (.Call (.Name ("list" : Str) np) [e] [] pos) (nums (l.map (·.1))) := by
  intro U W A env s Q E R q
  rw [he]
  refine wpAny_bind (E_glob (av := .val (.type "list")) L g (fun _ _ => .val _) (b := false) R fun v h₁ t₁ a₁ q₁ => ?_)
  cases q₁.val
  have R₁ := R.after (tk := t₁) a₁
  rw [hst, hbt]
  refine callWith_type1 (h1 R₁ fun v h₂ t₂ a₂ q₂ => ?_)
  have R₂ := R₁.after (tk := t₂) a₂
  obtain ⟨a, kvs, rfl, hd, hi, hs, hV⟩ := q₂.dictI R₂
  obtain ⟨ep, hat⟩ := hd.dictAt
  have hlen := hi.length
  refine wpAny_with_size (kdl_call (kdl_dict (knd := intKind X.prog X.w) (kvs := kvs) (ep := ep) hs) R.am.handled hat (by rw [hlen]; exact hsz) fun h₃ t₃ acc c kp hD hacc sz => ?_)
  have a' := (a₁.trans a₂).trans (.ext a₂.tab kp sz)
  refine q _ acc.toList c _ _ a' ((a₁.trans a₂).size) hD ?_
  have hints : IntsAre acc.toList (l.map (·.1)) := by
    have hl2 : acc.toList.length = (l.map (·.1)).length := by rw [Array.length_toList, hacc.1, hlen, List.length_map]
    have key : ∀ (vs : List Value) (ns : List Int), vs.length = ns.length → (∀ (j : Nat) (v : Value), vs[j]? = some v → ∃ n t, ns[j]? = some n ∧ v = Value.int n t) → IntsAre vs ns := by
      intro vs
      induction vs with
      | nil => intro ns h _; cases ns with | nil => exact .nil | cons => simp at h
      | cons v vs ih =>
        intro ns h hh
        cases ns with
        | nil => simp at h
        | cons n ns =>
          obtain ⟨n', t, e1, e2⟩ := hh 0 v rfl
          simp at e1; subst e1 e2
          exact .cons _ _ (ih ns (by simpa using h) fun j v e => by simpa using hh (j + 1) v (by simpa using e))
    refine key _ _ hl2 fun j v e => ?_
    obtain ⟨k', x, e1, e2⟩ := hacc.2 j v (by rw [← Array.getElem?_toList]; exact e)
    obtain ⟨t, rfl⟩ := Value.isInt_shape e2
    exact ⟨k', t, hi.key e1, rfl⟩
  have : VRs X.prog X.w (UW U fun x => W x ∨ x = h₂.objs.size) h₃ acc.toList (nums (l.map (·.1))) := VRs.of_ints hints
  exact this

/- equality of lists and dicts -/
theorem units64 {A : Around} (h : Am (k + 6) A) : A.units + 64 < cLine := by have := h.3; show A.units + 64 < 9900; omega
theorem C_neInts {l l' : List Int} (hk : 6 ≤ k) : CmpV X k .NotEq (.list (nums l)) (.list (nums l')) (!decide (l = l')) := by
  intro sc U W Γ A env s Q E v u R hv hu q
  obtain ⟨k', rfl⟩ : ∃ k', k = k' + 6 := ⟨k - 6, by omega⟩
  obtain ⟨a, vs, n, rfl, e, hr⟩ := hv.list
  obtain ⟨a', vs', n', rfl, e', hr'⟩ := hu.list
  exact ke_ne_ints (LObj.isList e) (LObj.isList e') hr.areInts hr'.areInts (units64 R.am) (q _ _ (Aft.refl R))
theorem KI.hits {A : Around} {s : Shared} {ka kb : List (Int × Value)} {la lb : List (Int × Int)} (ha : KI ka la) (hb : KI kb lb) : KeqHits A s kb ka (la.all fun p => atL lb p.1 == some p.2) := by
  induction ha with
  | nil => exact .nil
  | cons k' i t _ ih =>
    rw [List.all_cons]
    rcases hb.at k' with ⟨e1, e2⟩ | ⟨j, t', e1, e2⟩
    · rw [e2]; exact .miss e1
    · rw [e2]
      have : ((some j : Option Int) == some i) = (i == j) := by
        show (j == i) = (i == j)
        exact Bool.beq_comm
      rw [this]
      exact .hit e1 (SeqAt.EqAt.int_int i t j t') ih
theorem C_neDict {l l' : List (Int × Int)} : CmpV X k .NotEq (.dictI l) (.dictI l') (!(l.length == l'.length && l.all fun p => atL l' p.1 == some p.2)) := by
  intro sc U W Γ A env s Q E v u R hv hu q
  obtain ⟨a, ka, rfl, hd, hi, hs, _⟩ := hv.dictI R
  obtain ⟨a', kb, rfl, hd', hi', hs', _⟩ := hu.dictI R
  have h1 := hi.length
  have h2 := hi'.length
  refine keq_ne (knd := intKind X.prog X.w) hs hs' hd hd' R.am.croom (fun _ => hi.hits hi') ?_
  rw [h1, h2]
  exact q _ _ (Aft.refl R)
end
end Mine
namespace Mine

/-- a run's ground, without a frame -/
structure Gr (X : Cx) (k : Nat) (U W : Addr → Prop) (A : Around) (s : Shared) : Prop where
  am : Am k A
  base : ∀ b o, X.hb.get? b = some o → s.heap.get? b = some o
  bW : ∀ b o, X.hb.get? b = some o → ¬ W b ∧ b ∉ tabs
  bU : ∀ b o, X.hb.get? b = some o → ¬ U b
  tab : TabOk X.T (UW U W) s.heap
  Ult : ∀ a, U a → a < s.heap.objs.size
  Wlt : ∀ a, W a → a < s.heap.objs.size
  dis : ∀ a, W a → ¬ U a
  Ut : ∀ a ∈ tabs, U a
  Us : U sysModules


section
variable {X : Cx} {b : Bool} {k : Nat} {sc : Scope} {U W : Addr → Prop} {Γ Γ' Γ₁ : List (Option Slot)} {A : Around} {env : Env} {s : Shared} {r : Fl}

theorem Rel.gr (R : Rel X k sc U W Γ A env s) : Gr X k U W A s := ⟨R.am, R.base, R.bW, R.bU, R.tab, R.Ult, R.Wlt, R.dis, R.Ut, R.Us⟩

theorem Gr.enter {h₁ : Heap} {tk₁ : Nat} {A' : Around} {env' : Env} {sc' : Scope} {U' W' : Addr → Prop} {k' : Nat} (R : Gr X k U W A s)
    (keep : ∀ b o, s.heap.get? b = some o → h₁.get? b = some o) (sz : s.heap.objs.size ≤ h₁.objs.size) (am : Am k' A') (scp : env'.scope = sc') (cod : ∀ a q, codeFor sc' = some (a, q) → env'.code = .ref a ∧ env'.qual = q ++ (".<locals>." : Str)) (kind : sc'.kind = .function) (nod : (sc'.names.map (·.1)).Nodup)
    (ndb : ∀ p ∈ sc'.names, (p.1 == ("__debug__" : Str)) = false ∧ (p.1 == ("__classdict__" : Str)) = false) (glob : env'.globals = mainGlobals) (blt : env'.builtins = builtinsNs)
    (hU : ∀ y, U' y → UW U W y) (Ut : ∀ a ∈ tabs, U' a) (Us : U' sysModules) (hW : ∀ y, W' y → W y ∨ (s.heap.objs.size ≤ y ∧ y < h₁.objs.size)) (dis : ∀ y, W' y → ¬ U' y)
    (loc : W' env'.locals ∧ ∃ m, h₁.Ns env'.locals m) (cel : ∀ x c, env'.cells.lookup x = some c → Kp X W' c ∧ ∃ v, h₁.IsCell c v) (cinj : ∀ x y c, env'.cells.lookup x = some c → env'.cells.lookup y = some c → x = y)
    (chas : ∀ (i : Nat) (x : Str) (kd : NameKind), sc'.names[i]? = some (x, kd) → kd = .cell ∨ kd = .free → ∃ c, env'.cells.lookup x = some c ∧ (kd = .cell → W' c))
    (vars : ∃ ad bd : Nat → Addr, VarsOk X sc' U' W' Γ' env' h₁ ad bd) : Rel X k' sc' U' W' Γ' A' env' { s with heap := h₁, toks := tk₁ } where
  am := am
  scp := scp
  cod := cod
  kind := kind
  nod := nod
  ndb := ndb
  glob := glob
  blt := blt
  base := fun b o e => keep b o (R.base b o e)
  bW := fun b o e => ⟨fun z => by
    rcases hW b z with q | q
    · exact (R.bW b o e).1 q
    · exact absurd (Heap.lt_size (R.base b o e)) (Nat.not_lt.mpr q.1), (R.bW b o e).2⟩
  bU := fun b o e z => (hU b z).elim (R.bU b o e) (R.bW b o e).1
  tab := ⟨fun y hy => by
    rcases R.tab.at_ y hy with e | ⟨c', h1, h2, ⟨c2, oc, us, tq, hc, hoc, r⟩, e⟩
    · exact .inl (keep _ _ e)
    · refine .inr ⟨c', ?_, h2, ⟨c2, oc, us, tq, hc, keep _ _ hoc, r⟩, keep _ _ e⟩
      cases hc
      rintro (z | z)
      · exact h1 (hU _ z)
      · rcases hW _ z with q | q
        · exact h1 (.inr q)
        · exact absurd (Heap.lt_size hoc) (Nat.not_lt.mpr q.1)⟩
  Ult := fun y hy => by
    rcases hU y hy with q | q
    · exact Nat.lt_of_lt_of_le (R.Ult y q) sz
    · exact Nat.lt_of_lt_of_le (R.Wlt y q) sz
  Wlt := fun y hy => by
    rcases hW y hy with q | q
    · exact Nat.lt_of_lt_of_le (R.Wlt y q) sz
    · exact q.2
  dis := dis
  Ut := Ut
  Us := Us
  loc := loc
  cel := cel
  cinj := cinj
  chas := chas
  vars := vars

theorem Rel.enter {h₁ : Heap} {tk₁ : Nat} {A' : Around} {env' : Env} {sc' : Scope} {U' W' : Addr → Prop} {k' : Nat} (R : Rel X k sc U W Γ A env s)
    (keep : ∀ b o, s.heap.get? b = some o → h₁.get? b = some o) (sz : s.heap.objs.size ≤ h₁.objs.size) (am : Am k' A') (scp : env'.scope = sc') (cod : ∀ a q, codeFor sc' = some (a, q) → env'.code = .ref a ∧ env'.qual = q ++ (".<locals>." : Str)) (kind : sc'.kind = .function) (nod : (sc'.names.map (·.1)).Nodup)
    (ndb : ∀ p ∈ sc'.names, (p.1 == ("__debug__" : Str)) = false ∧ (p.1 == ("__classdict__" : Str)) = false) (glob : env'.globals = mainGlobals) (blt : env'.builtins = builtinsNs)
    (hU : ∀ y, U' y → UW U W y) (Ut : ∀ a ∈ tabs, U' a) (Us : U' sysModules) (hW : ∀ y, W' y → W y ∨ (s.heap.objs.size ≤ y ∧ y < h₁.objs.size)) (dis : ∀ y, W' y → ¬ U' y)
    (loc : W' env'.locals ∧ ∃ m, h₁.Ns env'.locals m) (cel : ∀ x c, env'.cells.lookup x = some c → Kp X W' c ∧ ∃ v, h₁.IsCell c v) (cinj : ∀ x y c, env'.cells.lookup x = some c → env'.cells.lookup y = some c → x = y)
    (chas : ∀ (i : Nat) (x : Str) (kd : NameKind), sc'.names[i]? = some (x, kd) → kd = .cell ∨ kd = .free → ∃ c, env'.cells.lookup x = some c ∧ (kd = .cell → W' c))
    (vars : ∃ ad bd : Nat → Addr, VarsOk X sc' U' W' Γ' env' h₁ ad bd) : Rel X k' sc' U' W' Γ' A' env' { s with heap := h₁, toks := tk₁ } :=
  R.gr.enter keep sz am scp cod kind nod ndb glob blt hU Ut Us hW dis loc cel cinj chas vars
noncomputable def GenPost (X : Cx) (k : Nat) (scope : Scope) (U' W0 : Addr → Prop) (s : Shared) (Q : Value → Shared → Prop) : Fl → Prop
  | .ret av => ∀ v h' tk, (∀ b o, s.heap.get? b = some o → ¬ W0 b → b ∉ tabs → h'.get? b = some o) → s.heap.objs.size ≤ h'.objs.size → TabOk X.T U' h' → VR X.prog X.w U' h' v av → Q v { s with heap := h', toks := tk }
  | .next Γ' => ∀ W' A' env' h' tk, Rel X k scope U' W' Γ' A' env' { s with heap := h', toks := tk } → (∀ y, W' y → W0 y ∨ s.heap.objs.size ≤ y) → (∀ b o, s.heap.get? b = some o → ¬ W0 b → b ∉ tabs → h'.get? b = some o) → s.heap.objs.size ≤ h'.objs.size → Q .none { s with heap := h', toks := tk }

/-- a call of a def, in full: some lists of the caller's own may be handed over to be changed (W0), others may be read (what U' leaves out) -/
theorem call_top {a : Addr} {name : Str} {params : Arguments} {body : List Stmt} {scope : Scope} {fd : FuncData} {vs bs : List Value} {ks : List (Str × Value)} {sls : List Slot} {U' W0 : Addr → Prop} {ad bd : Nat → Addr} {Q : Value → Shared → Prop} {E : Value → Shared → Prop}
    (F : FnAt X a name params body scope fd) (hlim : X.hb.NoLimit) (R : Gr X (k + 1) U W A s)
    (hB : BindsTo s fd ⟨vs, ks⟩ (((scope.names.take sls.length).map (·.1)).zip bs)) (hbl : bs.length = sls.length) (hkd : ∀ p ∈ scope.names.take sls.length, p.2 = .local ∨ p.2 = .cell) (hle : sls.length ≤ scope.names.length)
    (hsl : ∀ (i : Nat) v sl, bs[i]? = some v → sls[i]? = some sl → SlotR X.prog X.w U' W0 s.heap (ad i) (bd i) v sl)
    (hdj : ∀ (i j : Nat) sl sl', sls[i]? = some sl → sls[j]? = some sl' → sl.isOwn = true → sl'.isOwn = true → i ≠ j → ad i ≠ ad j ∧ ad i ≠ bd j ∧ bd i ≠ bd j)
    (hU' : ∀ y, U' y → UW U W y) (Ut : ∀ a ∈ tabs, U' a) (Us : U' sysModules) (hW0 : ∀ y, W0 y → W y) (hd0 : ∀ y, W0 y → ¬ U' y)
    (h : Execs X k scope (sls.map some) body r)
    (q : GenPost X k scope U' W0 s Q r) :
    wpAny (model X.prog X.w) A (call (.ref a) vs ks) Q E s := by
  obtain ⟨o, ho, hd⟩ := F.obj
  have hnl : (scope.names.take sls.length).length = sls.length := by rw [List.length_take, Nat.min_eq_left hle]
  have hk : fd.scope.kind = .function := by rw [F.escope]; exact F.kind
  refine wpAny_call (codeAny_call_function R.am.room (R.base _ _ ho) hd (by rw [F.escope]; exact F.nco) (by rw [F.escope]; exact F.ngen) F.ebody ?_ (hB _ _ _ _ ?_))
  · obtain ⟨c', oc, us, tq, hc, hoc, r⟩ := F.code
    exact ⟨c', oc, us, tq, hc, R.base _ _ hoc, r⟩
  have hbn : ∀ (j : Nat) (x : Str) (v : Value), (((scope.names.take sls.length).map (·.1)).zip bs)[j]? = some (x, v) ↔ (∃ kd, (scope.names.take sls.length)[j]? = some (x, kd)) ∧ bs[j]? = some v := by
    intro j x v
    rw [List.getElem?_zip_eq_some, List.getElem?_map]
    constructor
    · rintro ⟨h1, h2⟩
      obtain ⟨p, hp, he⟩ := Option.map_eq_some_iff.mp h1
      exact ⟨⟨p.2, by rw [hp]; exact congrArg (fun z => some (z, p.2)) he⟩, h2⟩
    · rintro ⟨⟨kd, h1⟩, h2⟩
      exact ⟨by rw [h1]; rfl, h2⟩
  have hmapfst : (((scope.names.take sls.length).map (·.1)).zip bs).map (·.1) = (scope.names.take sls.length).map (·.1) := List.map_fst_zip (by rw [List.length_map, hnl, hbl]; exact Nat.le_refl _)
  have hnod : ((((scope.names.take sls.length).map (·.1)).zip bs).map (·.1)).Nodup := by
    rw [hmapfst]
    exact (List.Sublist.map _ (List.take_sublist _ _)).nodup F.nod
  rw [F.closure]
  refine wpAny_newFunctionEnv_cells hk (fun x hx => ?_) fun env' he s' x => ?_
  · obtain ⟨j, hj⟩ := List.mem_iff_getElem?.mp hx
    obtain ⟨⟨kd, hkd1⟩, _⟩ := (hbn j x.1 x.2).mp hj
    have hn : scope.names[j]? = some (x.1, kd) := by
      have hlt : j < sls.length := by have := (List.getElem?_eq_some_iff.mp hkd1).1; rw [hnl] at this; exact this
      rw [List.getElem?_take, if_pos hlt] at hkd1; exact hkd1
    rw [F.escope]
    have hl := lookup_at F.nod hn
    rcases hkd (x.1, kd) (List.mem_of_getElem? hkd1) with e | e
    · left; rw [hl]; exact congrArg some e
    · right
      refine ⟨by rw [hl]; exact congrArg some e, cells_has _ _ _ (.inl (by rw [hn]; exact congrArg (fun z => some (x.1, z)) e))⟩
  subst he
  obtain ⟨h₁, tk₁, rfl⟩ := x.toInCall.same
  refine ⟨(hlim.keeps R.base).keeps x.toInCall.keep, codeAny_func ?_⟩
  generalize hcs : cellsFrom (s.heap.objs.size + 1) fd.scope.names [] = cs at x
  let env' : Env := newEnv fd.scope s.heap.objs.size fd.globals cs (fd.qualname ++ ".<locals>.") (some a) fd.code none fd.builtins
  have x' : InCallC s s.heap.objs.size (bindL env'.kindOf (((scope.names.take sls.length).map (·.1)).zip bs) fun _ => none) cs (bindC env'.kindOf (((scope.names.take sls.length).map (·.1)).zip bs) fun _ => none) { s with heap := h₁, toks := tk₁ } := x
  have hLlt : s.heap.objs.size < h₁.objs.size := x'.toInCall.ns.lt
  let W' : Addr → Prop := fun y => W0 y ∨ y = s.heap.objs.size ∨ ∃ n, cs.lookup n = some y
  have hWge : ∀ y, W' y → W0 y ∨ (s.heap.objs.size ≤ y ∧ y < h₁.objs.size) := by
    rintro y (h0 | rfl | ⟨n, hn⟩)
    · exact .inl h0
    · exact .inr ⟨Nat.le_refl _, hLlt⟩
    · refine .inr ⟨Nat.le_of_lt (x'.above n y (PySem.mem_of_lookup hn)), ?_⟩
      obtain ⟨oc, e, _⟩ := x'.cell n y hn
      exact Heap.lt_size e
  have keep := x'.toInCall.keep
  have ekind : ∀ {i : Nat} {y : Str} {kd : NameKind}, scope.names[i]? = some (y, kd) → env'.kindOf y = some kd := fun {i y kd} e => by
    show fd.scope.names.lookup y = some kd
    rw [F.escope]; exact lookup_at F.nod e
  have hUlt : ∀ y, UW U W y → y < s.heap.objs.size := by
    rintro y (hy | hy)
    · exact R.Ult y hy
    · exact R.Wlt y hy
  have hobj : ∀ b o', s.heap.get? b = some o' → ¬ UW U' W0 b → h₁.get? b = some o' ∧ ¬ UW U' W' b := fun b o' e n => ⟨keep b o' e, by
    rintro (z | z)
    · exact n (.inl z)
    · rcases hWge b z with z | z
      · exact n (.inr z)
      · exact absurd (Heap.lt_size e) (Nat.not_lt.mpr z.1)⟩
  have hRel : Rel X k scope U' W' (sls.map some) (A.deeper env') env' { s with heap := h₁, toks := tk₁ } := by
    refine R.enter keep (Nat.le_of_lt hLlt) R.am.deeper F.escope (fun a q h => ⟨(F.cod a q h).1, by show fd.qualname ++ _ = _; rw [(F.cod a q h).2]⟩) F.kind F.nod F.ndb F.globals F.builtins hU' Ut Us (fun y hy => (hWge y hy).imp (hW0 y) id) (fun y hy hu => ?_) ⟨.inr (.inl rfl), _, x'.toInCall.ns⟩ (fun y c hc => ⟨.inl (.inr (.inr ⟨y, hc⟩)), _, x'.cell y c hc⟩)
      (fun y z c hy hz => PySem.name_of_addr x'.apart (PySem.mem_of_lookup hy) (PySem.mem_of_lookup hz)) (fun i y kd e hq => ?_) ⟨ad, bd, ?_, ?_⟩
    · rcases hWge y hy with z | z
      · exact hd0 y z hu
      · exact absurd (hUlt y (hU' y hu)) (Nat.not_lt.mpr z.1)
    · rcases hq with rfl | rfl
      case inr => exact absurd rfl (F.nofr _ (List.mem_of_getElem? e))
      have := cells_has fd.scope.names (s.heap.objs.size + 1) [] (i := i) (x := y) (.inl (by rw [F.escope]; exact e))
      rw [hcs] at this
      exact (Option.isSome_iff_exists.mp this).imp fun c h => ⟨h, fun _ => .inr (.inr ⟨y, h⟩)⟩
    · intro i j p p' sl sl' _ _ e1 e2
      rw [List.getElem?_map] at e1 e2
      obtain ⟨z, hz1, hz2⟩ := Option.map_eq_some_iff.mp e1
      cases hz2
      obtain ⟨z', hz1', hz2'⟩ := Option.map_eq_some_iff.mp e2
      cases hz2'
      exact hdj i j _ _ hz1 hz1'
    · intro i y kd sl e1 e2
      rw [List.getElem?_map] at e2
      obtain ⟨z, hz1, hz2⟩ := Option.map_eq_some_iff.mp e2
      cases hz2
      have hlt : i < sls.length := (List.getElem?_eq_some_iff.mp hz1).1
      have hv1 : bs[i]? = some (bs[i]'(by rw [hbl]; exact hlt)) := List.getElem?_eq_getElem _
      have e1' : (scope.names.take sls.length)[i]? = some (y, kd) := by rw [List.getElem?_take, if_pos hlt]; exact e1
      have hb1 := (hbn i y _).mpr ⟨⟨kd, e1'⟩, hv1⟩
      refine ⟨bs[i]'(by rw [hbl]; exact hlt), ?_, ?_⟩
      · rcases hkd (y, kd) (List.mem_of_getElem? e1') with rfl | rfl
        · exact ⟨_, x'.toInCall.ns, bindL_at hnod hb1 (ekind e1)⟩
        · have := cells_has fd.scope.names (s.heap.objs.size + 1) [] (i := i) (x := y) (.inl (by rw [F.escope]; exact e1))
          rw [hcs] at this
          obtain ⟨c', hc'⟩ := Option.isSome_iff_exists.mp this
          refine ⟨c', hc', ?_⟩
          have hcell := x'.cell y c' hc'
          rw [bindC_at hnod hb1 (ekind e1)] at hcell
          exact hcell
      · have hs := hsl i _ _ hv1 hz1
        revert hs
        generalize bs[i]'(by rw [hbl]; exact hlt) = v
        intro hs
        cases sl with
        | val av => exact VR.change hobj hs
        | own l o =>
          obtain ⟨rfl, hba, hw, us, n, e, r⟩ := hs
          exact ⟨rfl, hba, .inl hw, us, n, keep _ _ e, r.change hobj⟩
        | own2 l last =>
          obtain ⟨rfl, hw, hw2, ne, us, n, ws, m, e, e2, r, r2⟩ := hs
          exact ⟨rfl, .inl hw, .inl hw2, ne, us, n, ws, m, keep _ _ e, keep _ _ e2, r.change hobj, r2.change hobj⟩
  have kp2 : ∀ {W'' : Addr → Prop} {h' : Heap}, Chg W' W'' h₁ h' → ∀ b o, s.heap.get? b = some o → ¬ W0 b → b ∉ tabs → h'.get? b = some o := fun ch b o e nb nt => ch.keep b o (keep b o e) (fun z => by
    rcases hWge b z with z | z
    · exact nb z
    · exact absurd (Heap.lt_size e) (Nat.not_lt.mpr z.1)) nt
  refine h hRel ?_
  cases r with
  | next Γ' =>
    intro W'' h' tk R' ch
    refine q W'' _ _ h' tk R' (fun y hy => ?_) (kp2 ch) (Nat.le_trans (Nat.le_of_lt hLlt) ch.size)
    rcases ch.new y hy with z | z
    · exact (hWge y z).imp id (·.1)
    · exact .inr (Nat.le_trans (Nat.le_of_lt hLlt) z)
  | ret av =>
    intro W'' v h' tk ch ht hr
    exact q v h' tk (kp2 ch) (Nat.le_trans (Nat.le_of_lt hLlt) ch.size) ht hr

/-- a call of a def, in full: some lists of the caller's own may be handed over to be changed (W0), others may be read (what U' leaves out) -/
theorem call_gen {a : Addr} {name : Str} {params : Arguments} {body : List Stmt} {scope : Scope} {fd : FuncData} {vs bs : List Value} {ks : List (Str × Value)} {sls : List Slot} {U' W0 : Addr → Prop} {ad bd : Nat → Addr} {Q : Value → Shared → Prop} {E : Value → Shared → Prop}
    (F : FnAt X a name params body scope fd) (hlim : X.hb.NoLimit) (R : Rel X (k + 1) sc U W Γ A env s)
    (hB : BindsTo s fd ⟨vs, ks⟩ (((scope.names.take sls.length).map (·.1)).zip bs)) (hbl : bs.length = sls.length) (hkd : ∀ p ∈ scope.names.take sls.length, p.2 = .local ∨ p.2 = .cell) (hle : sls.length ≤ scope.names.length)
    (hsl : ∀ (i : Nat) v sl, bs[i]? = some v → sls[i]? = some sl → SlotR X.prog X.w U' W0 s.heap (ad i) (bd i) v sl)
    (hdj : ∀ (i j : Nat) sl sl', sls[i]? = some sl → sls[j]? = some sl' → sl.isOwn = true → sl'.isOwn = true → i ≠ j → ad i ≠ ad j ∧ ad i ≠ bd j ∧ bd i ≠ bd j)
    (hU' : ∀ y, U' y → UW U W y) (Ut : ∀ a ∈ tabs, U' a) (Us : U' sysModules) (hW0 : ∀ y, W0 y → W y) (hd0 : ∀ y, W0 y → ¬ U' y)
    (h : Execs X k scope (sls.map some) body r)
    (q : GenPost X k scope U' W0 s Q r) :
    wpAny (model X.prog X.w) A (call (.ref a) vs ks) Q E s :=
  call_top F hlim R.gr hB hbl hkd hle hsl hdj hU' Ut Us hW0 hd0 h q
theorem call_fn {a : Addr} {name : Str} {params : Arguments} {body : List Stmt} {scope : Scope} {fd : FuncData} {as as0 : List AV} {kw : List (Str × AV)} {c : AV} (F : FnAt X a name params body scope fd) (hlim : X.hb.NoLimit)
    (hbind : ∀ {U W : Addr → Prop} {s : Shared} {vs : List Value} {ks : List (Str × Value)}, (∀ b o, X.hb.get? b = some o → s.heap.get? b = some o) → VBs true X.prog X.w U W s.heap vs as → KWs true X.prog X.w U W s.heap ks kw →
      ∃ bs : List Value, BindsTo s fd ⟨vs, ks⟩ (((scope.names.take as0.length).map (·.1)).zip bs) ∧ VRs X.prog X.w (UW U W) s.heap bs as0)
    (hkd : ∀ p ∈ scope.names.take as0.length, p.2 = .local ∨ p.2 = .cell) (hle : as0.length ≤ scope.names.length)
    (h : Execs X k scope (as0.map fun x => some (.val x)) body (.ret c)) : CallV X (k + 1) true (.ref a) as kw c := by
  intro sc U W Γ A env s Q E vs ks R hv hks q
  obtain ⟨bs, hB, hbs⟩ := hbind R.base hv hks
  have hsl : (as0.map fun x => Slot.val x).length = as0.length := List.length_map ..
  refine call_gen (r := .ret c) (sls := as0.map fun x => Slot.val x) (U' := UW U W) (W0 := fun _ => False) (ad := fun _ => 0) (bd := fun _ => 0) (bs := bs) F hlim R (by rw [hsl]; exact hB) (by rw [hsl]; exact hbs.length) (by rw [hsl]; exact hkd) (by rw [hsl]; exact hle) (fun i v sl e1 e2 => ?_) (fun i j sl sl' e1 _ o1 => ?_)
    (fun y z => z) (fun y hy => .inl (R.Ut y hy)) (.inl R.Us) (fun y z => z.elim) (fun y z => z.elim) (by rw [List.map_map]; exact h) ?_
  · rw [List.getElem?_map] at e2
    obtain ⟨x, hx, rfl⟩ := Option.map_eq_some_iff.mp e2
    obtain ⟨v', hv', hvr⟩ := hbs.get hx
    rw [e1] at hv'; cases hv'
    exact VR.sub hvr fun y z => z.resolve_right fun f => f.elim
  · rw [List.getElem?_map] at e1
    obtain ⟨x, hx, rfl⟩ := Option.map_eq_some_iff.mp e1
    cases o1
  · intro v h' tk kp sz ht hr
    exact q v h' tk ⟨fun b o e nt => kp b o e id nt, sz, ht⟩ (.inl hr)
/-- values that are no references -/
noncomputable def Atom (c : AV) : Prop := ∀ {prog : Program} {w : World} {V V' : Addr → Prop} {h h' : Heap} {v : Value}, VR prog w V h v c → VR prog w V' h' v c
theorem Atom.int {i : Int} : Atom (.int i) := fun q => by cases q; exact .int _ _
theorem Atom.val {v : Value} : Atom (.val v) := fun q => by cases q; exact .val _

/-- lists that a frame owns -/
noncomputable def OwnL (W : Addr → Prop) (h : Heap) (y : Addr) : Prop := W y ∧ ∃ us m, h.get? y = some (LObj us m)
noncomputable def Bor (U W : Addr → Prop) (h : Heap) (y : Addr) : Prop := UW U W y ∧ ¬ OwnL W h y

theorem VB.bor {prog : Program} {w : World} {h : Heap} {v : Value} {a : AV} (hd : ∀ y, W y → ¬ U y) (q : VB b prog w U W h v a) : VR prog w (Bor U W h) h v a := by
  rcases q with q | ⟨_, x, us, n, l, rfl, rfl, h3, h4, h5⟩
  · exact q.sub fun a z => z.1
  · exact .list (fun z => z.2 ⟨h3, us, n, h4⟩) h4 (h5.sub fun a z => z.1)

theorem TabOk.bor {h h' : Heap} (t : TabOk X.T (Bor U W h) h') (hk : ∀ y us m, W y → h.get? y = some (LObj us m) → ∃ us m, h'.get? y = some (LObj us m)) : TabOk X.T (UW U W) h' := ⟨fun y hy => by
  rcases t.at_ y hy with e | ⟨c', h1, h2, h3, e⟩
  · exact .inl e
  · refine .inr ⟨c', fun z => h1 ⟨z, ?_⟩, h2, h3, e⟩
    rintro ⟨hw, us, m, he⟩
    obtain ⟨us', m', he'⟩ := hk _ us m hw he
    obtain ⟨c2, oc, ws, tq, hc, hoc, hd, _⟩ := h3
    cases hc
    rw [he'] at hoc; cases hoc; cases hd⟩

/-- a def whose answer is no reference may read the caller's own lists -/
theorem call_bor {a : Addr} {name : Str} {params : Arguments} {body : List Stmt} {scope : Scope} {fd : FuncData} {as as0 : List AV} {kw : List (Str × AV)} {c : AV} (F : FnAt X a name params body scope fd) (hlim : X.hb.NoLimit) (hc : Atom c)
    (hbind : ∀ {U W : Addr → Prop} {s : Shared} {vs : List Value} {ks : List (Str × Value)}, (∀ b o, X.hb.get? b = some o → s.heap.get? b = some o) → VBs false X.prog X.w U W s.heap vs as → KWs false X.prog X.w U W s.heap ks kw →
      ∃ bs : List Value, BindsTo s fd ⟨vs, ks⟩ (((scope.names.take as0.length).map (·.1)).zip bs) ∧ VBs false X.prog X.w U W s.heap bs as0)
    (hkd : ∀ p ∈ scope.names.take as0.length, p.2 = .local ∨ p.2 = .cell) (hle : as0.length ≤ scope.names.length)
    (h : Execs X k scope (as0.map fun x => some (.val x)) body (.ret c)) : CallV X (k + 1) false (.ref a) as kw c := by
  intro sc U W Γ A env s Q E vs ks R hv hks q
  obtain ⟨bs, hB, hbs⟩ := hbind R.base hv hks
  have hlen : ∀ {l : List Value} {m : List AV}, VBs false X.prog X.w U W s.heap l m → l.length = m.length := by
    intro l m h
    induction h with
    | nil => rfl
    | cons _ _ ih => simp [ih]
  have hget : ∀ {l : List Value} {m : List AV}, VBs false X.prog X.w U W s.heap l m → ∀ {i : Nat} {v : Value} {x : AV}, l[i]? = some v → m[i]? = some x → VB false X.prog X.w U W s.heap v x := by
    intro l m h
    induction h with
    | nil => intro i v x e; simp at e
    | cons h1 _ ih =>
      intro i v x e e'
      cases i with
      | zero => simp at e e'; subst e e'; exact h1
      | succ i => exact ih (by simpa using e) (by simpa using e')
  have hsl : (as0.map fun x => Slot.val x).length = as0.length := List.length_map ..
  refine call_gen (r := .ret c) (sls := as0.map fun x => Slot.val x) (U' := Bor U W s.heap) (W0 := fun _ => False) (ad := fun _ => 0) (bd := fun _ => 0) (bs := bs) F hlim R (by rw [hsl]; exact hB) (by rw [hsl]; exact hlen hbs) (by rw [hsl]; exact hkd) (by rw [hsl]; exact hle) (fun i v sl e1 e2 => ?_) (fun i j sl sl' e1 _ o1 => ?_)
    (fun y z => z.1) (fun y hy => ⟨.inl (R.Ut y hy), fun z => R.dis y z.1 (R.Ut y hy)⟩) ⟨.inl R.Us, fun z => R.dis _ z.1 R.Us⟩ (fun y z => z.elim) (fun y z => z.elim) (by rw [List.map_map]; exact h) ?_
  · rw [List.getElem?_map] at e2
    obtain ⟨x, hx, rfl⟩ := Option.map_eq_some_iff.mp e2
    have := (hget hbs e1 hx).bor R.dis
    exact this.sub fun y z => z.resolve_right fun f => f.elim
  · rw [List.getElem?_map] at e1
    obtain ⟨x, hx, rfl⟩ := Option.map_eq_some_iff.mp e1
    cases o1
  · intro v h' tk kp sz ht hr
    refine q v h' tk ⟨fun b o e nt => kp b o e id nt, sz, ht.bor fun y us m hw he => ⟨us, m, kp _ _ he id (R.Wt hw)⟩⟩ (.inl (hc hr))

/-- a call that changes a list of the caller's own: the list comes first -/
noncomputable def MutF (X : Cx) (k : Nat) (f : Value) (l : List AV) (as : List AV) (kw : List (Str × AV)) (l' : List AV) : Prop :=
  ∀ ⦃sc U W Γ A env s Q E a vs n us ks⦄, Rel X k sc U W Γ A env s → W a → s.heap.get? a = some (LObj vs n) → VRs X.prog X.w (UW U W) s.heap vs l → VBs true X.prog X.w U W s.heap us as → KWs true X.prog X.w U W s.heap ks kw →
    (∀ h' tk vs' n', (∀ b o, s.heap.get? b = some o → b ≠ a → b ∉ tabs → h'.get? b = some o) → s.heap.objs.size ≤ h'.objs.size → TabOk X.T (UW U W) h' → h'.get? a = some (LObj vs' n') → VRs X.prog X.w (UW U W) h' vs' l' → Q .none { s with heap := h', toks := tk }) →
    wpAny (model X.prog X.w) A (call f (.ref a :: us) ks) Q E s

theorem call_mut {a : Addr} {name : Str} {params : Arguments} {body : List Stmt} {scope : Scope} {fd : FuncData} {l l' : List AV} {as as0 : List AV} {kw : List (Str × AV)} (F : FnAt X a name params body scope fd) (hlim : X.hb.NoLimit)
    (hbind : ∀ {U W : Addr → Prop} {s : Shared} {d : Addr} {vs : List Value} {ks : List (Str × Value)}, (∀ b o, X.hb.get? b = some o → s.heap.get? b = some o) → VBs true X.prog X.w U W s.heap vs as → KWs true X.prog X.w U W s.heap ks kw →
      ∃ bs : List Value, BindsTo s fd ⟨.ref d :: vs, ks⟩ (((scope.names.take (as0.length + 1)).map (·.1)).zip (.ref d :: bs)) ∧ VRs X.prog X.w (UW U W) s.heap bs as0)
    (hkd : ∀ p ∈ scope.names.take (as0.length + 1), p.2 = .local ∨ p.2 = .cell) (hle : as0.length + 1 ≤ scope.names.length)
    (h : ∀ d, ∃ Γ', Execs X k scope (some (.own l (some d)) :: as0.map fun x => some (.val x)) body (.next (some (.own l' (some d)) :: Γ'))) (h0 : ∃ p, scope.names[0]? = some p) : MutF X (k + 1) (.ref a) l as kw l' := by
  intro sc U W Γ A env s Q E d vs n us ks R hw e hr hus hks q
  obtain ⟨bs, hB, hbs⟩ := hbind (d := d) R.base hus hks
  obtain ⟨Γ', hx⟩ := h d
  have hsl : (Slot.own l (some d) :: as0.map fun x => Slot.val x).length = as0.length + 1 := by rw [List.length_cons, List.length_map]
  have hsub : ∀ y, (UW (fun y => UW U W y ∧ y ≠ d) fun y => y = d) y ↔ UW U W y := fun y => ⟨fun z => by
    rcases z with z | z
    · exact z.1
    · exact .inr (z ▸ hw), fun z => by
    by_cases hy : y = d
    · exact .inr hy
    · exact .inl ⟨z, hy⟩⟩
  refine call_gen (r := .next (some (.own l' (some d)) :: Γ')) (sls := Slot.own l (some d) :: as0.map fun x => Slot.val x) (U' := fun y => UW U W y ∧ y ≠ d) (W0 := fun y => y = d) (ad := fun _ => d) (bd := fun _ => d) (bs := .ref d :: bs) F hlim R (by rw [hsl]; exact hB) (by rw [hsl, List.length_cons, hbs.length]) (by rw [hsl]; exact hkd) (by rw [hsl]; exact hle)
    (fun i v sl e1 e2 => ?_) (fun i j sl sl' e1 e2 o1 o2 hne => ?_)
    (fun y z => z.1) (fun y hy => ⟨.inl (R.Ut y hy), fun z => R.Wt hw (z ▸ hy)⟩) ⟨.inl R.Us, fun z => R.dis d hw (z ▸ R.Us)⟩ (fun y z => z ▸ hw) (fun y z u => u.2 z) (by rw [List.map_cons, List.map_map]; exact hx) ?_
  · cases i with
    | zero =>
      simp at e1 e2; subst e1 e2
      exact ⟨rfl, ⟨rfl, fun _ z => by cases z; rfl⟩, rfl, vs, n, e, hr.sub fun y z => (hsub y).mp z⟩
    | succ i =>
      simp only [List.getElem?_cons_succ] at e1 e2
      rw [List.getElem?_map] at e2
      obtain ⟨x, hx, rfl⟩ := Option.map_eq_some_iff.mp e2
      obtain ⟨v', hv', hvr⟩ := hbs.get hx
      rw [e1] at hv'; cases hv'
      exact hvr.sub fun y z => (hsub y).mp z
  · have only : ∀ {i : Nat} {sl : Slot}, (Slot.own l (some d) :: as0.map fun x => Slot.val x)[i]? = some sl → sl.isOwn = true → i = 0 := by
      intro i sl e1 o1
      cases i with
      | zero => rfl
      | succ i =>
        simp only [List.getElem?_cons_succ] at e1
        rw [List.getElem?_map] at e1
        obtain ⟨x, hx, rfl⟩ := Option.map_eq_some_iff.mp e1
        cases o1
    exact absurd ((only e1 o1).trans (only e2 o2).symm) hne
  · intro W' A' env' h' tk R' hnew kp hsz
    obtain ⟨ad, bd, V⟩ := R'.vars
    obtain ⟨p, hp⟩ := h0
    obtain ⟨v, hv1, hv2⟩ := V.2 0 p.1 p.2 (.own l' (some d)) hp rfl
    obtain ⟨rfl, hba, hw2, vs', n', e', hr'⟩ := hv2
    have had : ad 0 = d := hba.2 d rfl
    rw [had] at e' hw2
    have sub2 : ∀ y, UW U W y → UW (fun y => UW U W y ∧ y ≠ d) W' y := fun y z => by
      by_cases hy : y = d
      · exact .inr (hy ▸ hw2)
      · exact .inl ⟨z, hy⟩
    refine q h' tk vs' n' (fun b o eb ne nt => kp b o eb ne nt) hsz (R'.tab.sub sub2) e' (hr'.sub sub2)
end
end Mine
namespace Mine

section
variable {X : Cx} {b : Bool} {k : Nat} {sc : Scope} {U W : Addr → Prop} {Γ Γ' Γ₁ : List (Option Slot)} {A : Around} {env : Env} {s : Shared} {r : Fl}

theorem KWs.zip' {b : Bool} {prog : Program} {w : World} {h : Heap} : ∀ {as : List (Str × AV)} {vs : List Value}, VBs b prog w U W h vs (as.map (·.2)) → KWs b prog w U W h ((as.map (·.1)).zip vs) as := fun h => KWs.zip h

/-- f(x, ..) as a statement, where f changes the list x -/
theorem S_mutCall {i : Nat} {x : Str} {kd : NameKind} {l l' : List AV} {o : Option Addr} {func : Expr} {rest : List Expr} {kws : List Keyword} {np pos spos : Pos} {f : Value} {as : List AV} {kw : List (Str × AV)}
    (L : Look sc.names Γ i x kd (.own l o)) (hf : Evals X false k sc Γ func (.val f)) (hk : KeepF X f) (ha : EvalsL X true k sc Γ rest as) (hkw : EvalsK X true k sc Γ kws kw) (hm : MutF X k f l as kw l') (p : Put sc.names Γ i x kd (.own l' o) Γ')
    (he : ∀ env, eval (.Call func (.Name x np :: rest) kws pos) env = (do callWith pos (← eval func env) [] (backTo pos (starEach (.Name x np :: rest) env)) (backToKw pos (keywordEach kws env))) := by intro _; rfl)
    (hns : ∀ env, (backTo pos (starEach (.Name x np :: rest) env)).any (·.1) = false := by intro _; rfl)
    (hs : ∀ env, swapsWith (.Call func (.Name x np :: rest) kws pos) none spos.line env = pure false := by intro _; rfl) :
    Exec X k sc Γ (.Expr (.Call func (.Name x np :: rest) kws pos) spos) (.next Γ') := by
  intro U W A env s Q E R q
  refine wpAny_Expr ?_ (interactive_fn R.isFn) (hs env)
  rw [he]
  refine wpAny_bind (hf R fun v h₁ t₁ a₁ q₁ => ?_)
  cases q₁.val
  have R₁ := R.after (tk := t₁) a₁
  obtain ⟨a, vs, n, _, hw, e0, hr, ld, mt⟩ := R₁.own_at L
  have hk0 := hkw pos (Q := fun vs s => True) (E := fun _ _ => True) R
  refine callWith_of (P := fun h => ∀ b o, X.hb.get? b = some o → h.get? b = some o) (by rw [hns, hk0.2.2.1]; rfl) (fun h hb => keepF hk h hb) ?_
  refine evalArgs_kw2 hk0.2.1 ?_ rfl
  show wpAny _ _ (spliced ((false, eval (.Name x np) env) :: backTo pos (starEach rest env))) _ _ _
  refine spliced_cons (wpAny_Name (ld _ _ ?_) (R.dbg L.at.1).1)
  refine ha pos R₁ fun us h₂ t₂ a₂ hus => ?_
  have R₂ := R₁.after (tk := t₂) a₂
  refine (hkw pos R₂).2.2.2 fun ks h₃ t₃ a₃ q₃ => ?_
  have R₃ := R₂.after (tk := t₃) a₃
  refine ⟨R₃.base, ?_⟩
  rw [hk0.1]
  have a' := a₂.trans a₃
  have e3 := a'.keep _ _ e0 (R.Wt hw)
  have hr3 : VRs X.prog X.w (UW U W) h₃ vs l := hr.change fun b o e nb => ⟨a'.keep b o e fun q => nb (.inl (R.Ut b q)), nb⟩
  refine hm R₃ hw e3 hr3 (hus.after R₂ a₃) (KWs.zip q₃) fun h₄ t₄ vs' n' kp sz ht e4 hr4 => ?_
  obtain ⟨R₄, c⟩ := mt h₄ t₄ l' vs' n' Γ' p (fun b o eb ne nt => kp b o (a'.keep b o eb nt) ne nt) (Nat.le_trans a'.size sz) ht e4 hr4
  exact q W h₄ t₄ R₄ ((Chg.of_aft a₁).trans c)
end
end Mine
namespace Mine

theorem Put.back {ns : List (Str × NameKind)} {Γ Γ' : List (Option Slot)} {i : Nat} {x : Str} {kd : NameKind} {sl : Slot} (P : Put ns Γ i x kd sl Γ') : ∀ j sl', j ≠ i → Γ[j]? = some (some sl') → Γ'[j]? = some (some sl') := by
  induction P with
  | here =>
    intro j sl' hj e
    cases j with
    | zero => exact absurd rfl hj
    | succ j => simpa using e
  | hereN => intro j sl' hj e; simp at e
  | there _ ih =>
    intro j sl' hj e
    cases j with
    | zero => simpa using e
    | succ j => simpa using ih j sl' (fun q => hj (by rw [q])) (by simpa using e)
  | thereN _ ih => intro j sl' hj e; simp at e

/-- the outer frame's names, as a comprehension's block sees them -/
inductive Capt (sc : Scope) (Γ : List (Option Slot)) (bor : Bool) : List (Str × NameKind) → List (Str × NameKind) → List (Option Slot) → Prop
  | nil : Capt sc Γ bor [] [] []
  | loc {x : Str} {ns ns' : List (Str × NameKind)} {Γ' : List (Option Slot)} : Capt sc Γ bor ns ns' Γ' → Capt sc Γ bor ((x, .local) :: ns) ((x, .local) :: ns') (none :: Γ')
  | glo {x : Str} {ns ns' : List (Str × NameKind)} {Γ' : List (Option Slot)} : Capt sc Γ bor ns ns' Γ' → Capt sc Γ bor ((x, .globalImplicit) :: ns) ((x, .globalImplicit) :: ns') (none :: Γ')
  | cell {x : Str} {j : Nat} {av : AV} {ns ns' : List (Str × NameKind)} {Γ' : List (Option Slot)} : Look sc.names Γ j x .cell (.val av) → Capt sc Γ bor ns ns' Γ' → Capt sc Γ bor ((x, .free) :: ns) ((x, .cell) :: ns') (some (.val av) :: Γ')
  | free {x : Str} {j : Nat} {av : AV} {ns ns' : List (Str × NameKind)} {Γ' : List (Option Slot)} : Look sc.names Γ j x .free (.val av) → Capt sc Γ bor ns ns' Γ' → Capt sc Γ bor ((x, .free) :: ns) ((x, .free) :: ns') (some (.val av) :: Γ')
  | cellO {x : Str} {j : Nat} {l : List AV} {o : Option Addr} {ns ns' : List (Str × NameKind)} {Γ' : List (Option Slot)} : bor = true → Look sc.names Γ j x .cell (.own l o) → Capt sc Γ bor ns ns' Γ' → Capt sc Γ bor ((x, .free) :: ns) ((x, .cell) :: ns') (some (.val (.list l)) :: Γ')
  | cellN {x : Str} {j : Nat} {ns ns' : List (Str × NameKind)} {Γ' : List (Option Slot)} : Nm sc.names j x .cell → Capt sc Γ bor ns ns' Γ' → Capt sc Γ bor ((x, .free) :: ns) ((x, .cell) :: ns') (none :: Γ')
  | freeN {x : Str} {j : Nat} {ns ns' : List (Str × NameKind)} {Γ' : List (Option Slot)} : Nm sc.names j x .free → Capt sc Γ bor ns ns' Γ' → Capt sc Γ bor ((x, .free) :: ns) ((x, .free) :: ns') (none :: Γ')

theorem cellOf_at {env : Env} {x : Str} {c : Addr} (h : env.cells.lookup x = some c) : cellOf env x = pure c := by
  unfold cellOf; rw [h]

noncomputable def closL (env : Env) (ns : List (Str × NameKind)) (acc : List (Str × Addr)) : List (Str × Addr) := ns.foldl (fun cs p => if p.2 == .free then (p.1, (env.cells.lookup p.1).getD 0) :: cs else cs) acc
theorem closureFor_at {scope : Scope} {env : Env} (h : ∀ p ∈ scope.names, p.2 = .free → ∃ c, env.cells.lookup p.1 = some c) : closureFor scope env = pure (closL env scope.names []) := by
  unfold closureFor closL
  generalize scope.names = ns at h
  generalize ([] : List (Str × Addr)) = acc
  simp only [bind_pure]
  induction ns generalizing acc with
  | nil => rfl
  | cons p ns ih =>
    rw [List.forIn_cons, List.foldl_cons]
    by_cases hp : p.2 == NameKind.free
    · obtain ⟨c, hc⟩ := h p (List.mem_cons_self ..) (eq_of_beq hp)
      simp only [hp, if_true, cellOf_at hc, pure_bind, hc, Option.getD_some]
      exact ih (fun q hq => h q (List.mem_cons_of_mem _ hq)) _
    · simp only [hp, Bool.false_eq_true, if_false, pure_bind]
      exact ih (fun q hq => h q (List.mem_cons_of_mem _ hq)) _
theorem closL_lookup {env : Env} : ∀ (ns : List (Str × NameKind)) (acc : List (Str × Addr)) {x : Str} {c : Addr}, (closL env ns acc).lookup x = some c → ((∃ k, (x, k) ∈ ns ∧ k = .free) ∧ c = (env.cells.lookup x).getD 0) ∨ acc.lookup x = some c
  | [], _, _, _, h => .inr h
  | p :: ns, acc, x, c, h => by
    unfold closL at h
    rw [List.foldl_cons] at h
    by_cases hp : p.2 == NameKind.free
    · rw [if_pos hp] at h
      rcases closL_lookup ns _ h with ⟨⟨k, hk, hf⟩, e⟩ | e
      · exact .inl ⟨⟨k, List.mem_cons_of_mem _ hk, hf⟩, e⟩
      · rw [List.lookup_cons] at e
        cases hx : x == p.1 with
        | true =>
          rw [hx] at e; cases e
          have := eq_of_beq hx
          subst this
          exact .inl ⟨⟨p.2, List.mem_cons_self .., eq_of_beq hp⟩, rfl⟩
        | false => rw [hx] at e; exact .inr e
    · rw [if_neg hp] at h
      rcases closL_lookup ns _ h with ⟨⟨k, hk, hf⟩, e⟩ | e
      · exact .inl ⟨⟨k, List.mem_cons_of_mem _ hk, hf⟩, e⟩
      · exact .inr e
theorem closL_has {env : Env} : ∀ (ns : List (Str × NameKind)) (acc : List (Str × Addr)) {x : Str}, ((x, NameKind.free) ∈ ns ∨ ∃ c, acc.lookup x = some c) → ∃ c, (closL env ns acc).lookup x = some c
  | [], _, _, h => by
    rcases h with h | h
    · cases h
    · exact h
  | p :: ns, acc, x, h => by
    unfold closL
    rw [List.foldl_cons]
    by_cases hp : p.2 == NameKind.free
    · rw [if_pos hp]
      refine closL_has ns _ ?_
      rcases h with h | ⟨c, h⟩
      · rcases List.mem_cons.mp h with rfl | h
        · exact .inr ⟨(env.cells.lookup x).getD 0, by simp [List.lookup_cons]⟩
        · exact .inl h
      · right
        rw [List.lookup_cons]
        cases hx : x == p.1 with
        | true => exact ⟨_, rfl⟩
        | false => exact ⟨c, h⟩
    · rw [if_neg hp]
      refine closL_has ns _ ?_
      rcases h with h | h
      · rcases List.mem_cons.mp h with rfl | h
        · exact absurd (beq_self_eq_true (NameKind.free)) hp
        · exact .inl h
      · exact .inr h

section
variable {X : Cx} {b bor : Bool} {k : Nat} {sc : Scope} {U W : Addr → Prop} {Γ Γ' Γ₁ : List (Option Slot)} {A : Around} {env : Env} {s : Shared} {r : Fl}

theorem Rel.forget (R : Rel X k sc U W Γ₁ A env s) (h : ∀ (j : Nat) (sl : Slot), Γ[j]? = some (some sl) → Γ₁[j]? = some (some sl)) : Rel X k sc U W Γ A env s := by
  obtain ⟨ad, bd, h1, h2⟩ := R.vars
  exact { am := R.am, scp := R.scp, cod := R.cod, kind := R.kind, nod := R.nod, ndb := R.ndb, glob := R.glob, blt := R.blt, base := R.base, bW := R.bW, bU := R.bU, tab := R.tab, Ult := R.Ult, Wlt := R.Wlt, dis := R.dis, Ut := R.Ut, Us := R.Us, loc := R.loc, cel := R.cel, cinj := R.cinj, chas := R.chas,
          vars := ⟨ad, bd, fun i j p p' sl sl' n1 n2 e1 e2 => h1 i j p p' sl sl' n1 n2 (h _ _ e1) (h _ _ e2), fun i x kd sl e1 e2 => h2 i x kd sl e1 (h _ _ e2)⟩ }

theorem Capt.free_has {ns ns' : List (Str × NameKind)} {Γ' : List (Option Slot)} (c : Capt sc Γ bor ns ns' Γ') : ∀ p ∈ ns, p.2 = .free → ∃ (j : Nat) (kd : NameKind), sc.names[j]? = some (p.1, kd) ∧ (kd = .cell ∨ kd = .free) := by
  induction c with
  | nil => intro p hp; cases hp
  | loc _ ih => intro p hp hf; rcases List.mem_cons.mp hp with rfl | hp; · cases hf
                exact ih p hp hf
  | glo _ ih => intro p hp hf; rcases List.mem_cons.mp hp with rfl | hp; · cases hf
                exact ih p hp hf
  | cell L _ ih => intro p hp hf; rcases List.mem_cons.mp hp with rfl | hp; · exact ⟨_, _, L.at.1, .inl rfl⟩
                   exact ih p hp hf
  | free L _ ih => intro p hp hf; rcases List.mem_cons.mp hp with rfl | hp; · exact ⟨_, _, L.at.1, .inr rfl⟩
                   exact ih p hp hf
  | cellO _ L _ ih => intro p hp hf; rcases List.mem_cons.mp hp with rfl | hp; · exact ⟨_, _, L.at.1, .inl rfl⟩
                      exact ih p hp hf
  | cellN L _ ih => intro p hp hf; rcases List.mem_cons.mp hp with rfl | hp; · exact ⟨_, _, L.at, .inl rfl⟩
                    exact ih p hp hf
  | freeN L _ ih => intro p hp hf; rcases List.mem_cons.mp hp with rfl | hp; · exact ⟨_, _, L.at, .inr rfl⟩
                    exact ih p hp hf
theorem Capt.relabel {ns ns' : List (Str × NameKind)} {Γ' : List (Option Slot)} (c : Capt sc Γ bor ns ns' Γ') (hs : env.scope = sc) (hk : sc.kind = .function) (hn : (sc.names.map (·.1)).Nodup) :
    (ns.map fun (n, k) => if (k == NameKind.free && env.scope.kind == .function && env.kindOf n == some .cell) then (n, NameKind.cell) else (n, k)) = ns' := by
  have kindOf : ∀ {j : Nat} {x : Str} {kd : NameKind}, sc.names[j]? = some (x, kd) → env.kindOf x = some kd := fun e => by
    show env.scope.names.lookup _ = _
    rw [hs]; exact lookup_at hn e
  induction c with
  | nil => rfl
  | loc _ ih => rw [List.map_cons, ih]; rfl
  | glo _ ih => rw [List.map_cons, ih]; rfl
  | cell L _ ih => rw [List.map_cons, ih]; simp only [kindOf L.at.1, hs, hk]; rfl
  | free L _ ih => rw [List.map_cons, ih]; simp only [kindOf L.at.1, hs, hk]; rfl
  | cellO _ L _ ih => rw [List.map_cons, ih]; simp only [kindOf L.at.1, hs, hk]; rfl
  | cellN L _ ih => rw [List.map_cons, ih]; simp only [kindOf L.at, hs, hk]; rfl
  | freeN L _ ih => rw [List.map_cons, ih]; simp only [kindOf L.at, hs, hk]; rfl
/-- what a slot of the block's frame comes from -/
theorem Capt.slot {ns ns' : List (Str × NameKind)} {Γ' : List (Option Slot)} (c : Capt sc Γ bor ns ns' Γ') : ∀ {i : Nat} {x : Str} {kd : NameKind} {sl : Slot}, ns'[i]? = some (x, kd) → Γ'[i]? = some (some sl) →
    (x, NameKind.free) ∈ ns ∧ (kd = .cell ∨ kd = .free) ∧ ∃ j : Nat, sc.names[j]? = some (x, kd) ∧ ((∃ av, sl = Slot.val av ∧ Γ[j]? = some (some (Slot.val av))) ∨ ∃ l o, bor = true ∧ sl = Slot.val (.list l) ∧ Γ[j]? = some (some (Slot.own l o))) := by
  induction c with
  | nil => intro i x kd sl e; simp at e
  | loc _ ih => intro i x kd sl e e'; cases i with
    | zero => simp at e'
    | succ i => obtain ⟨h1, h2⟩ := ih (by simpa using e) (by simpa using e'); exact ⟨List.mem_cons_of_mem _ h1, h2⟩
  | glo _ ih => intro i x kd sl e e'; cases i with
    | zero => simp at e'
    | succ i => obtain ⟨h1, h2⟩ := ih (by simpa using e) (by simpa using e'); exact ⟨List.mem_cons_of_mem _ h1, h2⟩
  | cell L _ ih => intro i x kd sl e e'; cases i with
    | zero => simp at e e'; obtain ⟨rfl, rfl⟩ := e; subst e'; exact ⟨List.mem_cons_self .., .inl rfl, _, L.at.1, .inl ⟨_, rfl, L.at.2⟩⟩
    | succ i => obtain ⟨h1, h2⟩ := ih (by simpa using e) (by simpa using e'); exact ⟨List.mem_cons_of_mem _ h1, h2⟩
  | free L _ ih => intro i x kd sl e e'; cases i with
    | zero => simp at e e'; obtain ⟨rfl, rfl⟩ := e; subst e'; exact ⟨List.mem_cons_self .., .inr rfl, _, L.at.1, .inl ⟨_, rfl, L.at.2⟩⟩
    | succ i => obtain ⟨h1, h2⟩ := ih (by simpa using e) (by simpa using e'); exact ⟨List.mem_cons_of_mem _ h1, h2⟩
  | cellO hb L _ ih => intro i x kd sl e e'; cases i with
    | zero => simp at e e'; obtain ⟨rfl, rfl⟩ := e; subst e'; exact ⟨List.mem_cons_self .., .inl rfl, _, L.at.1, .inr ⟨_, _, hb, rfl, L.at.2⟩⟩
    | succ i => obtain ⟨h1, h2⟩ := ih (by simpa using e) (by simpa using e'); exact ⟨List.mem_cons_of_mem _ h1, h2⟩
  | cellN _ _ ih => intro i x kd sl e e'; cases i with
    | zero => simp at e'
    | succ i => obtain ⟨h1, h2⟩ := ih (by simpa using e) (by simpa using e'); exact ⟨List.mem_cons_of_mem _ h1, h2⟩
  | freeN _ _ ih => intro i x kd sl e e'; cases i with
    | zero => simp at e'
    | succ i => obtain ⟨h1, h2⟩ := ih (by simpa using e) (by simpa using e'); exact ⟨List.mem_cons_of_mem _ h1, h2⟩
theorem Capt.cellAt {ns ns' : List (Str × NameKind)} {Γ' : List (Option Slot)} (c : Capt sc Γ bor ns ns' Γ') : ∀ {i : Nat} {x : Str}, ns'[i]? = some (x, .cell) → (x, NameKind.free) ∈ ns ∧ ∃ j : Nat, sc.names[j]? = some (x, NameKind.cell) := by
  induction c with
  | nil => intro i x e; simp at e
  | loc _ ih => intro i x e; cases i with
    | zero => simp at e
    | succ i => obtain ⟨h1, h2⟩ := ih (by simpa using e); exact ⟨List.mem_cons_of_mem _ h1, h2⟩
  | glo _ ih => intro i x e; cases i with
    | zero => simp at e
    | succ i => obtain ⟨h1, h2⟩ := ih (by simpa using e); exact ⟨List.mem_cons_of_mem _ h1, h2⟩
  | cell L _ ih => intro i x e; cases i with
    | zero => simp at e; subst e; exact ⟨List.mem_cons_self .., _, L.at.1⟩
    | succ i => obtain ⟨h1, h2⟩ := ih (by simpa using e); exact ⟨List.mem_cons_of_mem _ h1, h2⟩
  | free L _ ih => intro i x e; cases i with
    | zero => simp at e
    | succ i => obtain ⟨h1, h2⟩ := ih (by simpa using e); exact ⟨List.mem_cons_of_mem _ h1, h2⟩
  | cellO _ L _ ih => intro i x e; cases i with
    | zero => simp at e; subst e; exact ⟨List.mem_cons_self .., _, L.at.1⟩
    | succ i => obtain ⟨h1, h2⟩ := ih (by simpa using e); exact ⟨List.mem_cons_of_mem _ h1, h2⟩
  | cellN L _ ih => intro i x e; cases i with
    | zero => simp at e; subst e; exact ⟨List.mem_cons_self .., _, L.at⟩
    | succ i => obtain ⟨h1, h2⟩ := ih (by simpa using e); exact ⟨List.mem_cons_of_mem _ h1, h2⟩
  | freeN _ _ ih => intro i x e; cases i with
    | zero => simp at e
    | succ i => obtain ⟨h1, h2⟩ := ih (by simpa using e); exact ⟨List.mem_cons_of_mem _ h1, h2⟩

theorem Capt.freeAt {ns ns' : List (Str × NameKind)} {Γ' : List (Option Slot)} (c : Capt sc Γ bor ns ns' Γ') : ∀ {i : Nat} {x : Str}, ns'[i]? = some (x, NameKind.free) → (x, NameKind.free) ∈ ns := by
  induction c with
  | nil => intro i x e; simp at e
  | loc _ ih => intro i x e; cases i with
    | zero => simp at e
    | succ i => exact List.mem_cons_of_mem _ (ih (by simpa using e))
  | glo _ ih => intro i x e; cases i with
    | zero => simp at e
    | succ i => exact List.mem_cons_of_mem _ (ih (by simpa using e))
  | cell _ _ ih => intro i x e; cases i with
    | zero => simp at e
    | succ i => exact List.mem_cons_of_mem _ (ih (by simpa using e))
  | free _ _ ih => intro i x e; cases i with
    | zero => simp at e; subst e; exact List.mem_cons_self ..
    | succ i => exact List.mem_cons_of_mem _ (ih (by simpa using e))
  | cellO _ _ _ ih => intro i x e; cases i with
    | zero => simp at e
    | succ i => exact List.mem_cons_of_mem _ (ih (by simpa using e))
  | cellN _ _ ih => intro i x e; cases i with
    | zero => simp at e
    | succ i => exact List.mem_cons_of_mem _ (ih (by simpa using e))
  | freeN _ _ ih => intro i x e; cases i with
    | zero => simp at e; subst e; exact List.mem_cons_self ..
    | succ i => exact List.mem_cons_of_mem _ (ih (by simpa using e))

noncomputable def compU (bor : Bool) (U W : Addr → Prop) (cl : List (Str × Addr)) (h : Heap) (D : Addr) (y : Addr) : Prop := (UW U W y ∧ ¬ (W y ∧ ∃ x, cl.lookup x = some y) ∧ ¬ (bor = true ∧ OwnL W h y)) ∨ y = D
noncomputable def compW (W : Addr → Prop) (cl : List (Str × Addr)) (C : Addr) (y : Addr) : Prop := y = C ∨ (W y ∧ ∃ x, cl.lookup x = some y)

theorem comp_new {cl : List (Str × Addr)} {h : Heap} {C D : Addr} {y : Addr} {o : Obj} (hC : h.objs.size ≤ C) (hD : h.objs.size ≤ D) (e : h.get? y = some o) (hy : UW (compU bor U W cl h D) (compW W cl C) y) : UW U W y ∧ ¬ (bor = true ∧ OwnL W h y) ∨ (W y ∧ ∃ x, cl.lookup x = some y) := by
  have hlt := Heap.lt_size e
  rcases hy with (z | z) | (z | z)
  · exact .inl ⟨z.1, z.2.2⟩
  · exact absurd hlt (Nat.not_lt.mpr (z ▸ hD))
  · exact absurd hlt (Nat.not_lt.mpr (z ▸ hC))
  · exact .inr z

/-- the frame of a comprehension's block -/
theorem Rel.comp {scope : Scope} {ns' : List (Str × NameKind)} {h₁ : Heap} {tk₁ : Nat} {C D : Addr} {m : Str → Option Value} (R : Rel X k sc U W Γ A env s) (c : Capt sc Γ bor scope.names ns' Γ') (hk : scope.kind = .function) (hcod : codeFor { scope with names := ns' } = none)
    (hnod : (ns'.map (·.1)).Nodup) (hndb : ∀ p ∈ ns', (p.1 == ("__debug__" : Str)) = false ∧ (p.1 == ("__classdict__" : Str)) = false)
    (keep : ∀ b o, s.heap.get? b = some o → h₁.get? b = some o) (sz : s.heap.objs.size ≤ h₁.objs.size) (hC : s.heap.objs.size ≤ C) (hD : s.heap.objs.size ≤ D) (hCl : C < h₁.objs.size) (hDl : D < h₁.objs.size) (hCD : C ≠ D) (hn : h₁.Ns C m) :
    closureFor scope env = pure (closL env scope.names []) ∧
    Rel X k { scope with names := ns' } (compU bor U W (closL env scope.names []) s.heap D) (compW W (closL env scope.names []) C) Γ' A (compEnvC scope (closL env scope.names []) C env) { s with heap := h₁, toks := tk₁ } := by
  have hhas : ∀ p ∈ scope.names, p.2 = .free → ∃ c, env.cells.lookup p.1 = some c := fun p hp hf => by
    obtain ⟨j, kd, e, hkd⟩ := c.free_has p hp hf
    obtain ⟨c, hc, _⟩ := R.chas _ _ _ e hkd
    exact ⟨c, hc⟩
  refine ⟨closureFor_at hhas, ?_⟩
  generalize hcl : closL env scope.names [] = cl
  have hlk : ∀ {x : Str} {c : Addr}, cl.lookup x = some c → env.cells.lookup x = some c := fun {x c} e => by
    rw [← hcl] at e
    rcases closL_lookup scope.names [] e with ⟨⟨k, hk, hf⟩, rfl⟩ | e
    · obtain ⟨c', hc'⟩ := hhas _ hk hf
      rw [hc']; rfl
    · simp at e
  have hin : ∀ {x : Str}, (x, NameKind.free) ∈ scope.names → ∃ c, cl.lookup x = some c := fun {x} hx => by
    rw [← hcl]; exact closL_has _ _ (.inl hx)
  have hlt : ∀ y, UW U W y → y < s.heap.objs.size := fun y hy => hy.elim (R.Ult y) (R.Wlt y)
  have hv : ∀ {v : Value} {a : AV}, VR X.prog X.w (UW U W) s.heap v a → VR X.prog X.w (UW (compU bor U W cl s.heap D) (compW W cl C)) h₁ v a := fun r =>
    r.change fun b o e n => ⟨keep b o e, fun z => by
      rcases comp_new hC hD e z with z | z
      · exact n z.1
      · exact n (.inr z.1)⟩
  have hvs : ∀ {v : List Value} {a : List AV}, VRs X.prog X.w (UW U W) s.heap v a → VRs X.prog X.w (UW (compU bor U W cl s.heap D) (compW W cl C)) h₁ v a := fun r =>
    r.change fun b o e n => ⟨keep b o e, fun z => by
      rcases comp_new hC hD e z with z | z
      · exact n z.1
      · exact n (.inr z.1)⟩
  refine { am := R.am, scp := ?_, cod := fun a q h => by (rw [hcod] at h; cases h), kind := hk, nod := hnod, ndb := hndb, glob := R.glob, blt := R.blt, base := fun b o e => keep b o (R.base b o e), bW := fun b o e => ⟨?_, (R.bW b o e).2⟩, bU := fun b o e z => z.elim (fun z => z.1.elim (R.bU b o e) (R.bW b o e).1) fun z => absurd (Heap.lt_size (R.base b o e)) (Nat.not_lt.mpr (z ▸ hD)), tab := ⟨fun y hy => ?_⟩, Ult := ?_, Wlt := ?_, dis := ?_, Ut := fun a ha => .inl ⟨.inl (R.Ut a ha), fun z => R.Wt z.1 ha, fun z => R.Wt z.2.1 ha⟩, Us := .inl ⟨.inl R.Us, fun z => R.dis _ z.1 R.Us, fun z => R.dis _ z.2.1 R.Us⟩,
           loc := ⟨.inl rfl, m, hn⟩, cel := fun x c hc => ?_, cinj := fun x y c hx hy => R.cinj x y c (hlk hx) (hlk hy), chas := fun i x kd e hkd => ?_, vars := ⟨fun _ => 0, fun _ => 0, ?_, ?_⟩ }
  · show PySem.relabel scope env = _
    unfold PySem.relabel
    rw [c.relabel R.scp R.kind R.nod]
  · rintro (z | z)
    · exact absurd (Heap.lt_size (R.base b o e)) (Nat.not_lt.mpr (z ▸ hC))
    · exact (R.bW b o e).1 z.1
  · rcases R.tab.at_ y hy with e | ⟨c', h1, h2, ⟨c2, oc, us, tq, hc, hoc, r⟩, e⟩
    · exact .inl (keep _ _ e)
    · refine .inr ⟨c', ?_, h2, ⟨c2, oc, us, tq, hc, keep _ _ hoc, r⟩, keep _ _ e⟩
      cases hc
      intro z
      rcases comp_new hC hD hoc z with z | z
      · exact h1 z.1
      · exact h1 (.inr z.1)
  · rintro y (z | rfl)
    · exact Nat.lt_of_lt_of_le (hlt y z.1) sz
    · exact hDl
  · rintro y (rfl | z)
    · exact hCl
    · exact Nat.lt_of_lt_of_le (R.Wlt y z.1) sz
  · rintro y (rfl | z) (u | u)
    · exact absurd (hlt _ u.1) (Nat.not_lt.mpr hC)
    · exact hCD u
    · exact u.2.1 z
    · exact absurd (R.Wlt y z.1) (Nat.not_lt.mpr (u ▸ hD))
  · obtain ⟨h1, v, o, e, r⟩ := R.cel x c (hlk hc)
    refine ⟨?_, v, o, keep _ _ e, r⟩
    rcases h1 with h1 | h1
    · exact .inl (.inr ⟨h1, x, hc⟩)
    · exact .inr h1
  · rcases hkd with rfl | rfl
    · obtain ⟨h1, j, h2⟩ := c.cellAt e
      obtain ⟨c', hc'⟩ := hin h1
      obtain ⟨c2, hc2, hw⟩ := R.chas j x _ h2 (.inl rfl)
      have : c' = c2 := by rw [hlk hc'] at hc2; exact Option.some.inj hc2
      subst this
      exact ⟨c', hc', fun _ => .inr ⟨hw rfl, x, hc'⟩⟩
    · have : (x, NameKind.free) ∈ scope.names := c.freeAt e
      obtain ⟨c', hc'⟩ := hin this
      exact ⟨c', hc', fun z => by cases z⟩
  · intro i j p p' sl sl' n1 _ e1 _ o1
    obtain ⟨_, _, j, _, hs⟩ := c.slot (x := p.1) (kd := p.2) n1 e1
    rcases hs with ⟨av, rfl, _⟩ | ⟨l, o, _, rfl, _⟩ <;> cases o1
  · intro i x kd sl e1 e2
    obtain ⟨hm, hkd, j, hj, hs⟩ := c.slot e1 e2
    obtain ⟨c', hc'⟩ := hin hm
    obtain ⟨ad, bd, V⟩ := R.vars
    have var : ∀ {v : Value}, VarAt env s.heap x v kd → VarAt (compEnvC scope cl C env) h₁ x v kd := fun {v} q => by
      rcases hkd with rfl | rfl
      · obtain ⟨c2, hc2, o, e, r⟩ := q
        have : c' = c2 := by rw [hlk hc'] at hc2; exact Option.some.inj hc2
        subst this
        exact ⟨c', hc', o, keep _ _ e, r⟩
      · obtain ⟨c2, hc2, o, e, r⟩ := q
        have : c' = c2 := by rw [hlk hc'] at hc2; exact Option.some.inj hc2
        subst this
        exact ⟨c', hc', o, keep _ _ e, r⟩
    rcases hs with ⟨av, rfl, hg⟩ | ⟨l, o, hb, rfl, hg⟩
    · obtain ⟨v, q1, q2⟩ := V.2 j x kd _ hj hg
      exact ⟨v, var q1, hv q2⟩
    · obtain ⟨v, q1, q2⟩ := V.2 j x kd _ hj hg
      obtain ⟨rfl, _, hw, vs, n, e, r⟩ := q2
      refine ⟨_, var q1, ?_⟩
      refine VR.list (fun z => ?_) (keep _ _ e) (hvs r)
      rcases comp_new hC hD e z with z | z
      · exact z.2 ⟨hb, hw, vs, n, e⟩
      · obtain ⟨_, y, hy⟩ := z
        obtain ⟨_, v, hcell⟩ := R.cel y _ (hlk hy)
        exact cell_not_list hcell _ _ e
end
end Mine
namespace Mine

noncomputable def TestsI (X : Cx) (k : Nat) (sc : Scope) (Γ : List (Option Slot)) : List Expr → Bool → Prop
  | [], t => t = true
  | [c], t => Tests X k sc Γ c t
  | _, _ => False

/-- the turns of a list comprehension -/
inductive Comps (X : Cx) (k : Nat) (sc : Scope) (Γ : List (Option Slot)) (i : Nat) (x : Str) (ifs : List Expr) (elt : Expr) : List AV → List AV → Prop
  | nil : Comps X k sc Γ i x ifs elt [] []
  | keep {a c : AV} {as cs : List AV} {Γ₁ : List (Option Slot)} : Put sc.names Γ i x .local (.val a) Γ₁ → TestsI X k sc Γ₁ ifs true → Evals X true k sc Γ₁ elt c → Comps X k sc Γ i x ifs elt as cs → Comps X k sc Γ i x ifs elt (a :: as) (c :: cs)
  | skip {a : AV} {as cs : List AV} {Γ₁ : List (Option Slot)} : Put sc.names Γ i x .local (.val a) Γ₁ → TestsI X k sc Γ₁ ifs false → Comps X k sc Γ i x ifs elt as cs → Comps X k sc Γ i x ifs elt (a :: as) cs
theorem Comps.len {X : Cx} {k : Nat} {sc : Scope} {Γ : List (Option Slot)} {i : Nat} {x : Str} {ifs : List Expr} {elt : Expr} {as cs : List AV} (h : Comps X k sc Γ i x ifs elt as cs) : cs.length ≤ as.length := by
  induction h with
  | nil => exact Nat.le_refl _
  | keep _ _ _ _ ih => simpa using ih
  | skip _ _ _ ih => exact Nat.le_succ_of_le ih

section
variable {X : Cx} {b bor : Bool} {k : Nat} {sc : Scope} {U W : Addr → Prop} {Γ Γ' Γ₁ : List (Option Slot)} {A : Around} {env : Env} {s : Shared} {r : Fl}

theorem TestsI.run {ifs : List Expr} {t : Bool} {Q : Bool → Shared → Prop} {E : Value → Shared → Prop} (h : TestsI X k sc Γ ifs t) (R : Rel X k sc U W Γ A env s) (q : ∀ h' tk, Aft X.T (UW U W) s.heap h' → Q t { s with heap := h', toks := tk }) :
    wpAny (model X.prog X.w) A (forIn ifs true fun c r => if r = true then do let ok ← isTrue c env (eval c env); pure (ForInStep.yield ok) else pure (ForInStep.yield r)) Q E s := by
  match ifs, h with
  | [], h => cases h; exact wpAny_tests_nil (q _ _ (Aft.refl R))
  | [c], h => exact wpAny_tests_one (h R q)

theorem Capt.noCell {ns ns' : List (Str × NameKind)} (c : Capt sc Γ bor ns ns' Γ') : ∀ y ∈ ns, y.2 ≠ .cell := by
  induction c with
  | nil => intro y hy; cases hy
  | loc _ ih => intro y hy; rcases List.mem_cons.mp hy with rfl | hy; · nofun
                exact ih y hy
  | glo _ ih => intro y hy; rcases List.mem_cons.mp hy with rfl | hy; · nofun
                exact ih y hy
  | cell _ _ ih => intro y hy; rcases List.mem_cons.mp hy with rfl | hy; · nofun
                   exact ih y hy
  | free _ _ ih => intro y hy; rcases List.mem_cons.mp hy with rfl | hy; · nofun
                   exact ih y hy
  | cellO _ _ _ ih => intro y hy; rcases List.mem_cons.mp hy with rfl | hy; · nofun
                      exact ih y hy
  | cellN _ _ ih => intro y hy; rcases List.mem_cons.mp hy with rfl | hy; · nofun
                    exact ih y hy
  | freeN _ _ ih => intro y hy; rcases List.mem_cons.mp hy with rfl | hy; · nofun
                    exact ih y hy

/-- a name stored into a block's own frame: only that frame changes -/
theorem Rel.storeL {i : Nat} {x : Str} {av : AV} {v : Value} {Q : Unit → Shared → Prop} {E : Value → Shared → Prop} (R : Rel X k sc U W Γ A env s) (p : Put sc.names Γ i x .local (.val av) Γ') (hv : VR X.prog X.w (UW U W) s.heap v av)
    (q : ∀ h' tk, Rel X k sc U W Γ' A env { s with heap := h', toks := tk } → Heap.SameBut env.locals s.heap h' → Q () { s with heap := h', toks := tk }) : wpAny (model X.prog X.w) A (storeName env x v) Q E s := by
  obtain ⟨ad, bd, V⟩ := R.vars
  have hk := R.kindOf p.at.1
  obtain ⟨hL, m, hm⟩ := R.loc
  refine wpAny_storeName_local hk hm (fun h' hn hs => ?_) (by rw [R.isFn]; rfl)
  refine q h' _ (R.storedAt (a := 0) (c := 0) (sl := .val av) V p hL (Ns.not_list hm) hs ⟨_, hn⟩ (fun y d hd => ?_) ⟨_, hn, by simp⟩ (fun j y kd' u hj e hu => ?_) hv (fun o => by cases o)) hs
  · obtain ⟨_, w, hc⟩ := R.cel y d hd
    exact ⟨w, hc.sameBut hs (Ne.symm (ns_not_cell hm hc))⟩
  · cases kd' with
    | «local» =>
      obtain ⟨m', hm', hu⟩ := hu
      cases Ns.det hm hm'
      refine ⟨_, hn, ?_⟩
      have hne : y ≠ x := fun q => hj (name_inj R.nod (q ▸ e) p.at.1)
      simpa [hne] using hu
    | cell => obtain ⟨d, hd, hc⟩ := hu; exact ⟨d, hd, hc.sameBut hs (Ne.symm (ns_not_cell hm hc))⟩
    | free => obtain ⟨d, hd, hc⟩ := hu; exact ⟨d, hd, hc.sameBut hs (Ne.symm (ns_not_cell hm hc))⟩
    | _ => exact hu.elim

/-- what a block's iterator gives, once it is made -/
structure ItAt (X : Cx) (U W : Addr → Prop) (A : Around) (h : Heap) (I : Addr) (fp wr : List Addr) (n : Nat) (P : Nat → Value → Prop) (St : Nat → Heap → Prop) (items : List AV) : Prop where
  walks : Walks X.prog X.w A I fp wr n P St
  st : St 0 h
  len : n = items.length
  fp : ∀ b ∈ fp, b < h.objs.size ∧ b ∉ tabs
  wr : ∀ b ∈ wr, U b ∧ b ∉ tabs ∧ ∀ o, X.hb.get? b ≠ some o
  vals : ∀ (j : Nat) (a : AV), items[j]? = some a → ∀ v, P j v → VR X.prog X.w (UW U W) h v a

/-- what a list comprehension's loop keeps -/
inductive InvL (X : Cx) (k n i₀ : Nat) (sc' : Scope) (Γ' : List (Option Slot)) (x : Str) (ifs : List Expr) (elt : Expr) (items total : List AV) (U' W' : Addr → Prop) (A : Around) (cenv : Env) (s : Shared) (St : Nat → Heap → Prop) (D C : Addr) (wr : List Addr) : Nat → Shared → Prop
  | mk (h' : Heap) (tk i : Nat) (todo rs done : List AV) (ys : List Value) (e : Nat) : n = i + todo.length → (∀ j : Nat, todo[j]? = items[i + j]?) → Comps X k sc' Γ' i₀ x ifs elt todo rs → done ++ rs = total →
    Rel X k sc' U' W' Γ' A cenv { s with heap := h', toks := tk } → St i h' → h'.get? D = some (LObj ys e) → VRs X.prog X.w (UW U' W') h' ys done → (∀ b o, s.heap.get? b = some o → b ∉ wr → b ∉ tabs → h'.get? b = some o) → s.heap.objs.size ≤ h'.objs.size → (∃ mm, h'.Ns C mm) →
    InvL X k n i₀ sc' Γ' x ifs elt items total U' W' A cenv s St D C wr todo.length { s with heap := h', toks := tk }
theorem comp_list {elt iter : Expr} {x : Str} {px pos : Pos} {ifs : List Expr} {scope : Scope} {ns' : List (Str × NameKind)} {i₀ n : Nat} {I : Addr} {fp wr : List Addr} {P : Nat → Value → Prop} {St : Nat → Heap → Prop} {items total : List AV} {RR : Value → Addr → Result → Shared → Prop} {E : Value → Shared → Prop}
    (R : Rel X k sc U W Γ A env s) (c : Capt sc Γ bor scope.names ns' Γ') (hk : scope.kind = .function) (hcod : codeFor { scope with names := ns' } = none) (hnod : (ns'.map (·.1)).Nodup) (hndb : ∀ p ∈ ns', (p.1 == ("__debug__" : Str)) = false ∧ (p.1 == ("__classdict__" : Str)) = false)
    (hx : ∀ sl, Γ'[i₀]? ≠ some (some sl)) (it : ItAt X U W A s.heap I fp wr n P St items) (hc : Comps X k { scope with names := ns' } Γ' i₀ x ifs elt items total) (hsz : items.length ≤ sizeLine)
    (hR : ∀ D C h' tk ys m mm, (∀ b o, s.heap.get? b = some o → b ∉ wr → b ∉ tabs → h'.get? b = some o) → s.heap.objs.size ≤ h'.objs.size → s.heap.objs.size ≤ D → s.heap.objs.size ≤ C → C ≠ D → h'.get? D = some (LObj ys m) → h'.Ns C mm →
      TabOk X.T (UW (compU bor U W (closL env scope.names []) s.heap D) (compW W (closL env scope.names []) C)) h' → VRs X.prog X.w (UW (compU bor U W (closL env scope.names []) s.heap D) (compW W (closL env scope.names []) C)) h' ys total → RR (.ref D) C (.ok .next) { s with heap := h', toks := tk }) :
    wpAny (model X.prog X.w) A (newList []) (fun acc s₃ => wpAny (model X.prog X.w) A (newFunctionEnv scope env.globals (closL env scope.names []) [] env.qual none .none (some env)) (fun cenv s₄ =>
      codeAny (model X.prog X.w) A (.compStart (.ListComp elt [⟨.Name x px, iter, ifs, 0⟩] scope pos) 0 (.ref I) acc { cenv with scope := PySem.relabel scope env }) (RR acc cenv.locals) s₄) E s₃) E s := by
  refine wpAny_newObj_type (wpAny_newFunctionEnv c.noCell (by intro y hy; simp at hy) (fun h₁ hns₁ hsb₁ => ?_) hk)
  dsimp only at hns₁ hsb₁ ⊢
  generalize hH2 : s.heap.push { cls := .type "list", dict := none, data := .seq ([] : List Value).toArray } = H2 at hns₁ hsb₁ ⊢
  have hC : H2.objs.size = s.heap.objs.size + 1 := by rw [← hH2, Heap.size_push]
  have hDC : s.heap.objs.size ≠ H2.objs.size := by rw [hC]; exact Nat.ne_of_lt (Nat.lt_succ_self _)
  have hCge : s.heap.objs.size ≤ H2.objs.size := by rw [hC]; exact Nat.le_succ _
  have hsz1 : h₁.objs.size = s.heap.objs.size + 2 := by rw [hsb₁.1, Heap.size_push, hC]
  have below : ∀ b, b < s.heap.objs.size → b ≠ H2.objs.size ∧ b ≠ s.heap.objs.size := fun b hb => ⟨by rw [hC]; exact Nat.ne_of_lt (Nat.lt_succ_of_lt hb), Nat.ne_of_lt hb⟩
  have old : ∀ b o, s.heap.get? b = some o → h₁.get? b = some o := fun b o e => hsb₁.extBut b o (below b (Heap.lt_size e)).1 (Heap.get?_push_of_some _ (hH2 ▸ Heap.get?_push_of_some _ e))
  have hacc : h₁.get? s.heap.objs.size = some (LObj [] 0) := hsb₁.extBut _ _ hDC (Heap.get?_push_of_some _ (hH2 ▸ Heap.get?_push_size _ rfl))
  have hst₁ : St 0 h₁ := it.walks.frame _ _ _ it.st fun b _ o e => old b o e
  obtain ⟨_, RC⟩ := R.comp (tk₁ := s.toks + ([] : List (Str × Value)).length) (D := s.heap.objs.size) (C := H2.objs.size) c hk hcod hnod hndb old (by rw [hsz1]; exact Nat.le_add_right _ _) hCge (Nat.le_refl _) (by rw [hsz1, hC]; exact Nat.lt_succ_self _) (by rw [hsz1]; exact Nat.lt_add_of_pos_right (by decide)) (Ne.symm hDC) hns₁
  generalize hU' : compU bor U W (closL env scope.names []) s.heap s.heap.objs.size = U' at RC
  generalize hW' : compW W (closL env scope.names []) H2.objs.size = W' at RC
  generalize hce : compEnvC scope (closL env scope.names []) H2.objs.size env = cenv at RC
  have hL : cenv.locals = H2.objs.size := by rw [← hce]; rfl
  have hDU : U' s.heap.objs.size := by rw [← hU']; exact .inr rfl
  have hUold : ∀ b, U b → U' b := fun b hb => by rw [← hU']; exact .inl ⟨.inl hb, fun z => R.dis b z.1 hb, fun z => R.dis b z.2.1 hb⟩
  have hWC : ∀ b, W' b → b = H2.objs.size ∨ W b := fun b hb => by rw [← hW'] at hb; exact hb.imp id fun z => z.1
  have hDt : s.heap.objs.size ∉ tabs := fun q => Nat.lt_irrefl _ (R.Ult _ (R.Ut _ q))
  have hDb : ∀ o, X.hb.get? s.heap.objs.size ≠ some o := fun o e => Nat.lt_irrefl _ (Heap.lt_size (R.base _ _ e))
  have hDw : s.heap.objs.size ∉ wr := fun q => Nat.lt_irrefl _ (it.fp _ (it.walks.sub _ q)).1
  have hval : ∀ {v : Value} {a : AV} {h : Heap}, (∀ b o, s.heap.get? b = some o → b ∉ wr → b ∉ tabs → h.get? b = some o) → VR X.prog X.w (UW U W) s.heap v a → VR X.prog X.w (UW U' W') h v a := fun {v a h} kp r =>
    r.change fun b o e nb => by
      refine ⟨kp b o e (fun q => nb (.inl (it.wr b q).1)) (fun q => nb (.inl (R.Ut b q))), fun z => ?_⟩
      rw [← hU', ← hW'] at z
      rcases comp_new hCge (Nat.le_refl _) e z with z | z
      · exact nb z.1
      · exact nb (.inr z.1)
  have loop : ∀ s₃ : Shared, s₃ = { s with heap := h₁, toks := s.toks + ([] : List (Str × Value)).length } →
      codeAny (model X.prog X.w) A (.compLoop (.ListComp elt [⟨.Name x px, iter, ifs, 0⟩] scope pos) 0 (.ref I) (.ref s.heap.objs.size) (cenv)) (RR (.ref s.heap.objs.size) H2.objs.size) s₃ := by
    rintro s₃ rfl
    refine codeAny_compLoop_tests
      (InvL X k n i₀ { scope with names := ns' } Γ' x ifs elt items total U' W' A cenv s St s.heap.objs.size H2.objs.size wr) ?_ items.length
      ⟨h₁, _, 0, items, total, [], [], 0, by rw [it.len]; omega, fun j => by simp, hc, rfl, RC, hst₁, hacc, .nil, fun b o e _ _ => old b o e, by show s.heap.objs.size ≤ h₁.objs.size; rw [hsz1]; exact Nat.le_add_right _ _, ⟨_, hns₁⟩⟩
    rintro m s' ⟨h', tk, i, todo, rs, done, ys, e, hn, hitems, hcs, htot, R', hst', hD', hys, kp, szh, mm, hC'⟩
    have kept : ∀ {h₂ : Heap}, (∀ b o, b ∉ wr → h'.get? b = some o → h₂.get? b = some o) → ∀ b o, s.heap.get? b = some o → b ∉ wr → b ∉ tabs → h₂.get? b = some o := fun hk b o eb nw nt => hk b o nw (kp b o eb nw nt)
    have hwr : ∀ b ∈ wr, U' b ∧ b ∉ tabs ∧ ∀ o, X.hb.get? b ≠ some o := fun b hb => ⟨hUold b (it.wr b hb).1, (it.wr b hb).2⟩
    have hysc : ∀ {h₂ : Heap}, (∀ b o, b ∉ wr → h'.get? b = some o → h₂.get? b = some o) → VRs X.prog X.w (UW U' W') h₂ ys done := fun hk => hys.change fun b o eb nb => ⟨hk b o (fun q => nb (.inl (hwr b q).1)) eb, nb⟩
    have hCw : H2.objs.size ∉ wr := fun q => by have h5 := (it.fp _ (it.walks.sub _ q)).1; rw [hC] at h5; exact absurd h5 (Nat.not_lt.mpr (Nat.le_succ _))
    cases todo with
    | nil =>
      cases hcs
      have hi : i = n := by simpa using hn.symm
      subst hi
      refine wpAny_with_size (it.walks.done _ _ _ hst' fun h₂ tk₂ hk₂ sz₂ => ?_)
      have e2 := hk₂ _ _ hDw hD'
      have R₂ := R'.poke (tk := tk₂) hwr hk₂ sz₂
      rw [List.append_nil] at htot
      subst htot
      rw [← hU', ← hW'] at hysc R₂
      exact hR _ _ h₂ tk₂ ys e mm (kept hk₂) (Nat.le_trans szh sz₂) (Nat.le_refl _) hCge (Ne.symm hDC) e2 (hC'.at' fun o eo => hk₂ _ o hCw eo) R₂.tab (hysc hk₂)
    | cons a todo =>
      have hlt : i < n := by rw [hn, List.length_cons]; omega
      refine wpAny_with_size (it.walks.item i _ _ _ hlt hst' fun v h₂ tk₂ hPv hst₂ hk₂ sz₂ => ?_)
      have R₂ := R'.poke (tk := tk₂) hwr hk₂ sz₂
      have ha : items[i]? = some a := by have := hitems 0; simpa using this.symm
      have hva : VR X.prog X.w (UW U' W') h₂ v a := hval (kept hk₂) (it.vals i a ha v hPv)
      have hC₂ : h₂.Ns H2.objs.size mm := hC'.at' fun o eo => hk₂ _ o hCw eo
      have hnext : n = i + 1 + todo.length := by rw [hn, List.length_cons]; omega
      have hitems' : ∀ j, todo[j]? = items[i + 1 + j]? := fun j => by have := hitems (j + 1); rw [List.getElem?_cons_succ] at this; rw [this]; congr 1; omega
      have step : ∀ {Γ₁ : List (Option Slot)}, Put ns' Γ' i₀ x .local (.val a) Γ₁ → ∀ {Q : Unit → Shared → Prop} {E : Value → Shared → Prop}, (∀ h₃ tk₃, Rel X k { scope with names := ns' } U' W' Γ₁ A (cenv) { s with heap := h₃, toks := tk₃ } → St (i + 1) h₃ → h₃.get? s.heap.objs.size = some (LObj ys e) →
          VRs X.prog X.w (UW U' W') h₃ ys done → (∀ b o, s.heap.get? b = some o → b ∉ wr → b ∉ tabs → h₃.get? b = some o) → s.heap.objs.size ≤ h₃.objs.size → (∃ mm, h₃.Ns H2.objs.size mm) → Q () { s with heap := h₃, toks := tk₃ }) →
          wpAny (model X.prog X.w) A (assign (.Name x px) (cenv) v) Q E { s with heap := h₂, toks := tk₂ } := by
        intro Γ₁ p Q E q
        refine wpAny_assign_Name (R₂.storeL p hva fun h₃ tk₃ R₃ hs₃ => ?_)
        rw [hL] at hs₃
        have k3 : ∀ b o, b ≠ H2.objs.size → h₂.get? b = some o → h₃.get? b = some o := fun b o nb eb => (hs₃.2 b nb).trans eb
        refine q h₃ tk₃ R₃ (it.walks.frame _ _ _ hst₂ fun b hb o eb => k3 b o (fun q => by have h5 := (it.fp b hb).1; rw [q, hC] at h5; exact absurd h5 (Nat.not_lt.mpr (Nat.le_succ _))) eb) (k3 _ _ hDC (hk₂ _ _ hDw hD')) ?_ (fun b o eb nw nt => k3 b o (below b (Heap.lt_size eb)).1 (kept hk₂ b o eb nw nt)) ?_ (hL ▸ R₃.loc.2)
        · refine (hysc hk₂).change fun b o eb nb => ⟨k3 b o (fun q => nb (.inr ?_)) eb, nb⟩
          rw [q, ← hW']; exact .inl rfl
        · show s.heap.objs.size ≤ h₃.objs.size
          rw [hs₃.1]; exact Nat.le_trans szh sz₂
      cases hcs with
      | keep p ht hev hrest =>
        rename_i c₀ cs₀ Γ₁
        refine step p fun h₃ tk₃ R₃ hst₃ hD₃ hys₃ kp₃ sz₃ hC₃ => ?_
        refine ht.run R₃ fun h₄ tk₄ a₄ => ?_
        rw [if_pos rfl]
        have R₄ := R₃.after (tk := tk₄) a₄
        refine hev R₄ fun y h₅ tk₅ a₅ hy => ?_
        have R₅ := R₄.after (tk := tk₅) a₅
        have a' := a₄.trans a₅
        have hD₅ := a'.keep _ _ hD₃ hDt
        have hys₅ : VRs X.prog X.w (UW U' W') h₅ ys done := hys₃.change fun b o eb nb => ⟨a'.keep b o eb fun q => nb (.inl (R₃.Ut b q)), nb⟩
        have hlen := hys₅.length
        have hdl : done.length ≤ sizeLine := by
          have h1 : (done ++ c₀ :: cs₀).length = total.length := by rw [htot]
          have h2 := hc.len
          rw [List.length_append] at h1
          omega
        obtain ⟨e', hD₆⟩ := upd_list (vs' := ys ++ [y]) hD₅ (fun xs => xs.push y) (by simp)
        refine call_meets slot_list_append ⟨_, hD₅, rfl⟩ entry_list_append (args_list_append _ _) (PySem.list_append s.heap.objs.size ys.toArray e y (by simpa [hlen] using hdl)) ⟨hD₅, ?_⟩
        have k6 : ∀ b o, b ≠ s.heap.objs.size → h₅.get? b = some o → (h₅.update s.heap.objs.size (Obj.mapSeq fun xs => xs.push y)).get? b = some o := fun b o nb eb => by rw [Heap.get?_update_other _ _ (Ne.symm nb)]; exact eb
        have sz6 : (h₅.update s.heap.objs.size (Obj.mapSeq fun xs => xs.push y)).objs.size = h₅.objs.size := Heap.size_after_update ..
        have R₆ := R₅.poke (tk := tk₅) (h' := h₅.update s.heap.objs.size (Obj.mapSeq fun xs => xs.push y)) (Z := [s.heap.objs.size]) (fun b hb => by rw [List.mem_singleton.mp hb]; exact ⟨hDU, hDt, hDb⟩) (fun b o nb eb => k6 b o (by simpa using nb) eb) (Nat.le_of_eq sz6.symm)
        refine ⟨todo.length, by simp, _, tk₅, i + 1, todo, cs₀, done ++ [c₀], ys ++ [y], e', hnext, hitems', hrest, by rw [← htot]; simp, R₆.forget fun j sl ej => ?_, ?_, hD₆, ?_, fun b o eb nw nt => k6 b o (below b (Heap.lt_size eb)).2 (a'.keep b o (kp₃ b o eb nw nt) nt), ?_, hL ▸ R₆.loc.2⟩
        · refine p.back j sl (fun q => ?_) ej
          subst q; exact hx _ ej
        · exact it.walks.frame _ _ _ hst₃ fun b hb o eb => k6 b o (below b (it.fp b hb).1).2 (a'.keep b o eb (it.fp b hb).2)
        · refine (hys₅.append (.cons hy.vr .nil)).change fun b o eb nb => ⟨k6 b o (fun q => nb (.inl (q ▸ hDU))) eb, nb⟩
        · show s.heap.objs.size ≤ (h₅.update _ _).objs.size
          rw [sz6]; exact Nat.le_trans sz₃ a'.size
      | skip p ht hrest =>
        rename_i Γ₁
        refine step p fun h₃ tk₃ R₃ hst₃ hD₃ hys₃ kp₃ sz₃ hC₃ => ?_
        refine ht.run R₃ fun h₄ tk₄ a₄ => ?_
        rw [if_neg (by decide)]
        have R₄ := R₃.after (tk := tk₄) a₄
        refine ⟨todo.length, by simp, h₄, tk₄, i + 1, todo, rs, done, ys, e, hnext, hitems', hrest, htot, R₄.forget fun j sl ej => ?_, ?_, a₄.keep _ _ hD₃ hDt, ?_, fun b o eb nw nt => a₄.keep b o (kp₃ b o eb nw nt) nt, Nat.le_trans sz₃ a₄.size, hL ▸ R₄.loc.2⟩
        · refine p.back j sl (fun q => ?_) ej
          subst q; exact hx _ ej
        · exact it.walks.frame _ _ _ hst₃ fun b hb o eb => a₄.keep b o eb (it.fp b hb).2
        · exact hys₃.change fun b o eb nb => ⟨a₄.keep b o eb fun q => nb (.inl (R₃.Ut b q)), nb⟩
  subst hce
  exact codeAny_compStart_list (loop _ rfl) (it.walks.self 0 _ _ _ hst₁ (loop _ rfl))
end
end Mine
namespace Mine

section
variable {X : Cx} {b bor : Bool} {k : Nat} {sc : Scope} {U W : Addr → Prop} {Γ Γ' Γ₁ : List (Option Slot)} {A : Around} {env : Env} {s : Shared} {r : Fl}

theorem Capt.names {ns ns' : List (Str × NameKind)} (c : Capt sc Γ bor ns ns' Γ') : ns'.map (·.1) = ns.map (·.1) := by
  induction c with
  | nil => rfl
  | loc _ ih => rw [List.map_cons, List.map_cons, ih]
  | glo _ ih => rw [List.map_cons, List.map_cons, ih]
  | cell _ _ ih => rw [List.map_cons, List.map_cons, ih]
  | free _ _ ih => rw [List.map_cons, List.map_cons, ih]
  | cellO _ _ _ ih => rw [List.map_cons, List.map_cons, ih]
  | cellN _ _ ih => rw [List.map_cons, List.map_cons, ih]
  | freeN _ _ ih => rw [List.map_cons, List.map_cons, ih]
theorem Capt.locals {ns ns' : List (Str × NameKind)} (c : Capt sc Γ bor ns ns' Γ') (hn : (ns'.map (·.1)).Nodup) : ∀ x ∈ ns, x.2 = .local → ns.lookup x.1 = some .local := by
  intro x hx hl
  obtain ⟨i, hi⟩ := List.mem_iff_getElem?.mp hx
  rw [c.names] at hn
  have := lookup_at hn (i := i) (x := x.1) (kd := x.2) hi
  rw [this, hl]
theorem Capt.clos {scope : Scope} {ns' : List (Str × NameKind)} (c : Capt sc Γ bor scope.names ns' Γ') (R : Rel X k sc U W Γ₁ A env s) : closureFor scope env = pure (closL env scope.names []) :=
  closureFor_at fun p hp hf => by
    obtain ⟨j, kd, e, hkd⟩ := c.free_has p hp hf
    obtain ⟨c, hc, _⟩ := R.chas _ _ _ e hkd
    exact ⟨c, hc⟩

theorem comp_aft {cl : List (Str × Addr)} {h₂ h' : Heap} {wr : List Addr} {C D : Addr} (a₀ : Aft X.T (UW U W) s.heap h₂) (hwr : ∀ b ∈ wr, s.heap.objs.size ≤ b)
    (kp : ∀ b o, h₂.get? b = some o → b ∉ wr → b ∉ tabs → h'.get? b = some o) (sz : h₂.objs.size ≤ h'.objs.size) (hWt : ∀ a, W a → a ∉ tabs) (hWw : ∀ a, W a → a ∉ wr)
    (t : TabOk X.T (UW (compU bor (fun x => U x ∨ x ∈ wr) W cl h₂ D) (compW W cl C)) h') : Aft X.T (UW U W) s.heap h' := by
  refine ⟨fun b o e nt => kp b o (a₀.keep b o e nt) (fun q => absurd (Heap.lt_size e) (Nat.not_lt.mpr (hwr b q))) nt, Nat.le_trans a₀.size sz, ⟨fun y hy => ?_⟩⟩
  rcases t.at_ y hy with e | ⟨c', h1, h2, h3, e⟩
  · exact .inl e
  · refine .inr ⟨c', fun z => ?_, h2, h3, e⟩
    by_cases hc : W c' ∧ ∃ x, cl.lookup x = some c'
    · exact h1 (.inr (.inr hc))
    · by_cases ho : OwnL W h₂ c'
      · obtain ⟨hw, us, m, he⟩ := ho
        obtain ⟨c2, oc, ws, tq, hcc, hoc, hd, _⟩ := h3
        cases hcc
        rw [kp _ _ he (hWw _ hw) (hWt _ hw)] at hoc; cases hoc; cases hd
      · exact h1 (.inl (.inl ⟨z.imp .inl id, hc, fun q => ho q.2⟩))

theorem VRs.atoms {prog : Program} {w : World} {V V' : Addr → Prop} {h h' : Heap} : ∀ {vs : List Value} {l : List AV}, VRs prog w V h vs l → (∀ a ∈ l, Atom a) → VRs prog w V' h' vs l := by
  intro vs l r
  induction l generalizing vs with
  | nil => rw [r.inv0]; exact fun _ => .nil
  | cons a as ih =>
    obtain ⟨v, vs', rfl, h1, h2⟩ := r.inv
    exact fun ha => .cons (ha _ (List.mem_cons_self ..) h1) (ih h2 fun a h => ha a (List.mem_cons_of_mem _ h))
theorem comp_vrs {cl : List (Str × Addr)} {h₂ h' : Heap} {wr : List Addr} {C D : Addr} {ys : List Value} {total : List AV} (r : VRs X.prog X.w (UW (compU bor (fun x => U x ∨ x ∈ wr) W cl h₂ D) (compW W cl C)) h' ys total) (ha : bor = true → ∀ a ∈ total, Atom a) :
    VRs X.prog X.w (UW (fun x => U x ∨ x ∈ C :: wr) fun x => W x ∨ x = D) h' ys total := by
  cases bor with
  | true => exact r.atoms (ha rfl)
  | false =>
    refine r.sub fun y z => ?_
    have key : UW U W y ∨ y ∈ wr → UW (compU false (fun x => U x ∨ x ∈ wr) W cl h₂ D) (compW W cl C) y := fun z => by
      by_cases hc : W y ∧ ∃ x, cl.lookup x = some y
      · exact .inr (.inr hc)
      · refine .inl (.inl ⟨?_, hc, fun q => by cases q.1⟩)
        rcases z with (z | z) | z
        · exact .inl (.inl z)
        · exact .inr z
        · exact .inl (.inr z)
    rcases z with (z | z) | (z | z)
    · exact key (.inl (.inl z))
    · rcases List.mem_cons.mp z with rfl | z
      · exact .inr (.inl rfl)
      · exact key (.inr z)
    · exact key (.inl (.inr z))
    · exact .inl (.inr z)

theorem TabOk.same {T : List (Addr × Pos × Str)} {V : Addr → Prop} {h h' : Heap} {C : Addr} (t : TabOk T V h) (hT : ∀ y ∈ T, y.1 ≠ C) (hC : ∀ q, ¬ h.CodeRec (.ref C) q) (hs : Heap.SameBut C h h') : TabOk T V h' := ⟨fun y hy => by
  rcases t.at_ y hy with e | ⟨c', h1, h2, h3, e⟩
  · exact .inl ((hs.2 _ (hT y hy)).trans e)
  · refine .inr ⟨c', h1, h2, ?_, (hs.2 _ (hT y hy)).trans e⟩
    have hne : c' ≠ C := fun q => hC _ (q ▸ h3)
    obtain ⟨c2, oc, ws, tq, hcc, hoc, r⟩ := h3
    cases hcc
    exact ⟨_, oc, ws, tq, rfl, (hs.2 _ hne).trans hoc, r⟩⟩
theorem ns_no_code {h : Heap} {C : Addr} {m : Str → Option Value} (hn : h.Ns C m) : ∀ q, ¬ h.CodeRec (.ref C) q := by
  rintro q ⟨c2, oc, ws, tq, hcc, hoc, hd, _⟩
  cases hcc
  obtain ⟨o, es, ep, e, hd', _⟩ := hn
  rw [e] at hoc; cases hoc; rw [hd'] at hd; cases hd
theorem aft_same {V : Addr → Prop} {h h' h'' : Heap} {C : Addr} {m : Str → Option Value} (a : Aft X.T V h h') (hC : h.objs.size ≤ C) (hCt : C ∉ tabs) (hn : h'.Ns C m) (hs : Heap.SameBut C h' h'') : Aft X.T V h h'' :=
  ⟨fun b o e nt => (hs.2 b fun q => absurd (Heap.lt_size e) (Nat.not_lt.mpr (q ▸ hC))).trans (a.keep b o e nt), by rw [hs.1]; exact a.size, a.tab.same (C := C) (fun y hy (q : y.1 = C) => hCt (q ▸ X.hT y hy)) (ns_no_code hn) hs⟩

structure CompOk (X : Cx) (k : Nat) (sc : Scope) (Γ : List (Option Slot)) (bor : Bool) (scope : Scope) (ns' : List (Str × NameKind)) (Γ' : List (Option Slot)) (i₀ : Nat) : Prop where
  capt : Capt sc Γ bor scope.names ns' Γ'
  kind : scope.kind = .function
  nod : (ns'.map (·.1)).Nodup
  ndb : ∀ p ∈ ns', (p.1 == ("__debug__" : Str)) = false ∧ (p.1 == ("__classdict__" : Str)) = false
  fresh : ∀ sl, Γ'[i₀]? ≠ some (some sl)
  cod : codeFor { scope with names := ns' } = none := by rfl

theorem N_listComp {elt iter : Expr} {x : Str} {px pos : Pos} {ifs : List Expr} {scope : Scope} {ns' : List (Str × NameKind)} {i₀ : Nat} {items total : List AV} (hit : Iters X false k sc Γ iter items) (c : CompOk X k sc Γ bor scope ns' Γ' i₀)
    (hc : Comps X k { scope with names := ns' } Γ' i₀ x ifs elt items total) (hat : bor = true → ∀ a ∈ total, Atom a) (hsz : items.length ≤ sizeLine) (hs : ∀ env x, foldedSetIterable iter env x = pure x := by intro _ _; rfl) :
    EvalsN X k sc Γ (.ListComp elt [⟨.Name x px, iter, ifs, 0⟩] scope pos) total := by
  intro U W A env s Q E R q
  rw [eval_ListComp]
  refine wpAny_comprehension_free (use := none) rfl (hs env) (c.capt.clos R) c.kind (c.capt.locals c.nod) ?_
  show wpAny _ A (eval iter env) _ _ s
  refine hit R fun I fp wr n P St h₂ tk₂ a₂ hw hst hn hfp hwr hv => ?_
  have R₂ := R.guard (tk := tk₂) (Z := wr) a₂ fun b hb => ⟨(hwr b hb).1, (hfp b (hw.sub b hb)).1, (hwr b hb).2⟩
  refine comp_list R₂ c.capt c.kind c.cod c.nod c.ndb c.fresh ⟨hw, hst, hn, fun b hb => ⟨(hfp b hb).1, (hfp b hb).2.1⟩, fun b hb => ⟨.inr hb, (hfp b (hw.sub b hb)).2.1, fun o e => absurd (Heap.lt_size (R.base b o e)) (Nat.not_lt.mpr (hwr b hb).1)⟩, hv⟩ hc hsz fun D C h' tk ys m mm kp sz hD hC hCD eD hN ht hys => ?_
  refine ⟨mm, hN, fun h'' hs'' => ?_⟩
  have hWw : ∀ a, W a → a ∉ wr := fun a ha q => absurd (R.Wlt a ha) (Nat.not_lt.mpr (hwr a q).1)
  have a' := comp_aft a₂ (fun b hb => (hwr b hb).1) kp sz (fun a ha => R.Wt ha) hWw ht
  have hCs : s.heap.objs.size ≤ C := Nat.le_trans a₂.size hC
  have hCt : C ∉ tabs := fun z => absurd (R.Ult C (R.Ut C z)) (Nat.not_lt.mpr hCs)
  have hys' := comp_vrs hys hat
  refine q D ys m h'' tk (aft_same a' hCs hCt hN hs'') (Nat.le_trans a₂.size hD) ((hs''.2 D (Ne.symm hCD)).trans eD) ?_
  refine hys'.change fun b o e nb => ⟨(hs''.2 b fun z => nb (.inl (.inr (by rw [z]; exact List.mem_cons_self ..)))).trans e, fun z => nb ?_⟩
  exact z.imp .inl id

theorem S_listComp {y : Str} {py spos : Pos} {iy : Nat} {elt iter : Expr} {x : Str} {px pos : Pos} {ifs : List Expr} {scope : Scope} {ns' : List (Str × NameKind)} {i₀ : Nat} {items total : List AV} (hit : Iters X false k sc Γ iter items) (c : CompOk X k sc Γ bor scope ns' Γ' i₀)
    (hc : Comps X k { scope with names := ns' } Γ' i₀ x ifs elt items total) (hat : bor = true → ∀ a ∈ total, Atom a) (hsz : items.length ≤ sizeLine) (p : Put sc.names Γ iy y .local (.val (.list total)) Γ₁)
    (hl : (py.line == pos.line) = true) (hne : (scope.names.any fun (n, k) => n == y && (k == .local || k == .cell)) = false) (hs : ∀ env x, foldedSetIterable iter env x = pure x := by intro _ _; rfl) :
    Exec X k sc Γ (.Assign [.Name y py] (.ListComp elt [⟨.Name x px, iter, ifs, 0⟩] scope pos) spos) (.next Γ₁) := by
  intro U W A env s Q E R q
  have hsw : swapsWith (.ListComp elt [⟨.Name x px, iter, ifs, 0⟩] scope pos) (some (.Name y py)) spos.line env = pure true := by
    show (pure (env.blockKind == .function && env.kindOf y == some .local && py.line == pos.line && !(scope.names.any fun (n, k) => n == y && (k == .local || k == .cell))) : Sem Bool) = pure true
    rw [hl, hne, R.kindOf p.at.1]
    have : env.blockKind = .function := by unfold Env.blockKind; rw [R.isFn]; rfl
    rw [this]; rfl
  rw [exec_Assign_Name_used _ _ _ _ hsw]
  refine wpAny_bind (wpAny_standAt (wpAny_bind ?_))
  show wpAny _ A (do let _ ← comprehension (.ListComp elt [⟨.Name x px, iter, ifs, 0⟩] scope pos) scope env _ (newList []) false (eval iter env) (some (assign (.Name y py) env))) _ _ s
  refine wpAny_bind (wpAny_mono (wpAny_comprehension_free (use := some (assign (.Name y py) env)) (Q := fun _ s' => Q .next s') rfl (hs env) (c.capt.clos R) c.kind (c.capt.locals c.nod) ?_) (fun _ s' hq => wpAny_pure (wpAny_pure hq)) fun _ _ e => e)
  refine hit R fun I fp wr n P St h₂ tk₂ a₂ hw hst hn hfp hwr hv => ?_
  have R₂ := R.guard (tk := tk₂) (Z := wr) a₂ fun b hb => ⟨(hwr b hb).1, (hfp b (hw.sub b hb)).1, (hwr b hb).2⟩
  refine comp_list R₂ c.capt c.kind c.cod c.nod c.ndb c.fresh ⟨hw, hst, hn, fun b hb => ⟨(hfp b hb).1, (hfp b hb).2.1⟩, fun b hb => ⟨.inr hb, (hfp b (hw.sub b hb)).2.1, fun o e => absurd (Heap.lt_size (R.base b o e)) (Nat.not_lt.mpr (hwr b hb).1)⟩, hv⟩ hc hsz fun D C h' tk ys m mm kp sz hD hC hCD eD hN ht hys => ?_
  have hWw : ∀ a, W a → a ∉ wr := fun a ha q => absurd (R.Wlt a ha) (Nat.not_lt.mpr (hwr a q).1)
  have a' := comp_aft a₂ (fun b hb => (hwr b hb).1) kp sz (fun a ha => R.Wt ha) hWw ht
  have hCs : s.heap.objs.size ≤ C := Nat.le_trans a₂.size hC
  have hDs : s.heap.objs.size ≤ D := Nat.le_trans a₂.size hD
  have hys' := comp_vrs hys hat
  have hCl : C < h'.objs.size := hN.lt
  have R' := R.guard (tk := tk) (Z := [C]) a' fun b hb => by rw [List.mem_singleton.mp hb]; exact ⟨hCs, hCl, ns_no_code hN⟩
  show wpAny _ A (assign (.Name y py) env (.ref D)) _ _ _
  obtain ⟨ad, bd, V⟩ := R'.vars
  have hv' : VR X.prog X.w (UW (fun x => U x ∨ x ∈ [C]) W) h' (.ref D) (.list total) := by
    refine .list ?_ eD (hys'.sub fun y z => ?_)
    · rintro ((z | z) | z)
      · exact absurd (R.Ult D z) (Nat.not_lt.mpr hDs)
      · exact hCD (List.mem_singleton.mp z).symm
      · exact absurd (R.Wlt D z) (Nat.not_lt.mpr hDs)
    · rcases z with (z | z) | z
      · exact .inl (.inl z)
      · rw [List.mem_singleton.mp z]; exact .inl (.inr (List.mem_cons_self ..))
      · exact .inr (.inl z)
  refine wpAny_assign_Name (R'.storeL p hv' fun h₃ tk₃ R₃ hs₃ => ?_)
  have hLC : env.locals ≠ C := fun z => by
    have := R.Wlt _ R.loc.1
    exact absurd this (Nat.not_lt.mpr (z ▸ hCs))
  refine ⟨mm, hN.sameBut hs₃ (Ne.symm hLC), fun h₄ hs₄ => ?_⟩
  have R₄ := R₃.poke (tk := tk₃) (h' := h₄) (Z := [C]) (fun b hb => ⟨.inr hb, fun z => ?_, fun o e => ?_⟩) (fun b o nb eb => (hs₄.2 b (by simpa using nb)).trans eb) (Nat.le_of_eq hs₄.1.symm)
  · refine q W h₄ tk₃ (R₄.subU R.Ut R.Us) ⟨fun _ h => .inl h, fun b o e nW nt => ?_, ?_⟩
    · have e1 := a'.keep b o e nt
      have e2 := (hs₃.2 b fun z => nW (z ▸ R.loc.1)).trans e1
      exact (hs₄.2 b fun z => absurd (Heap.lt_size e) (Nat.not_lt.mpr (z ▸ hCs))).trans e2
    · rw [hs₄.1]; exact Nat.le_trans a'.size (Nat.le_of_eq hs₃.1.symm)
  · rw [List.mem_singleton.mp hb] at z; exact absurd (R.Ult C (R.Ut C z)) (Nat.not_lt.mpr hCs)
  · rw [List.mem_singleton.mp hb] at e; exact absurd (Heap.lt_size (R.base _ _ e)) (Nat.not_lt.mpr hCs)
end
end Mine
namespace Mine

noncomputable def dput (l : List (Int × Int)) (k v : Int) : List (Int × Int) :=
  if l.any (fun kv => kv.1 = k) then l.map (fun kv => if kv.1 = k then (kv.1, v) else kv) else l ++ [(k, v)]
theorem KI.any {kvs : List (Int × Value)} {l : List (Int × Int)} (h : KI kvs l) (k : Int) : (kvs.any fun kv => kv.1 = k) = (l.any fun kv => kv.1 = k) := by
  induction h with
  | nil => rfl
  | cons k' i t _ ih => rw [List.any_cons, List.any_cons, ih]
theorem KI.snoc {kvs : List (Int × Value)} {l : List (Int × Int)} (h : KI kvs l) (k v : Int) (t : Tok) : KI (kvs ++ [(k, .int v t)]) (l ++ [(k, v)]) := by
  induction h with
  | nil => exact .cons _ _ _ .nil
  | cons k' i t' _ ih => exact .cons _ _ _ ih
theorem KI.put {kvs : List (Int × Value)} {l : List (Int × Int)} (h : KI kvs l) (k v : Int) (t : Tok) : KI (kvs.map fun kv => if kv.1 = k then (kv.1, Value.int v t) else kv) (l.map fun kv => if kv.1 = k then (kv.1, v) else kv) := by
  induction h with
  | nil => exact .nil
  | cons k' i t' _ ih =>
    rw [List.map_cons, List.map_cons]
    by_cases q : k' = k
    · simp only [q, if_true]; exact .cons _ _ _ ih
    · simp only [q, if_false]; exact .cons _ _ _ ih
theorem KI.stored {kvs : List (Int × Value)} {l : List (Int × Int)} (h : KI kvs l) {k v : Int} {t : Tok} : KI (PySem.stored kvs k (.int v t)) (dput l k v) := by
  unfold PySem.stored dput
  rw [h.any k]
  split
  · exact h.put k v t
  · exact h.snoc k v t
theorem dput_len : ∀ (ps l : List (Int × Int)), (ps.foldl (fun l p => dput l p.1 p.2) l).length ≤ l.length + ps.length
  | [], l => Nat.le_refl _
  | p :: ps, l => by
    rw [List.foldl_cons]
    refine Nat.le_trans (dput_len ps _) ?_
    have : (dput l p.1 p.2).length ≤ l.length + 1 := by
      unfold dput
      split
      · rw [List.length_map]; exact Nat.le_succ _
      · rw [List.length_append]; exact Nat.le_refl _
    rw [List.length_cons]; omega

/-- the turns of a dict comprehension -/
inductive DComps (X : Cx) (k : Nat) (sc : Scope) (Γ : List (Option Slot)) (i : Nat) (x : Str) (ifs : List Expr) (kx vx : Expr) : List AV → List (Int × Int) → Prop
  | nil : DComps X k sc Γ i x ifs kx vx [] []
  | keep {a : AV} {as : List AV} {kk vv : Int} {cs : List (Int × Int)} {Γ₁ : List (Option Slot)} : Put sc.names Γ i x .local (.val a) Γ₁ → TestsI X k sc Γ₁ ifs true → Evals X true k sc Γ₁ kx (.int kk) → Evals X true k sc Γ₁ vx (.int vv) → DComps X k sc Γ i x ifs kx vx as cs → DComps X k sc Γ i x ifs kx vx (a :: as) ((kk, vv) :: cs)
  | skip {a : AV} {as : List AV} {cs : List (Int × Int)} {Γ₁ : List (Option Slot)} : Put sc.names Γ i x .local (.val a) Γ₁ → TestsI X k sc Γ₁ ifs false → DComps X k sc Γ i x ifs kx vx as cs → DComps X k sc Γ i x ifs kx vx (a :: as) cs
theorem DComps.len {X : Cx} {k : Nat} {sc : Scope} {Γ : List (Option Slot)} {i : Nat} {x : Str} {ifs : List Expr} {kx vx : Expr} {as : List AV} {cs : List (Int × Int)} (h : DComps X k sc Γ i x ifs kx vx as cs) : cs.length ≤ as.length := by
  induction h with
  | nil => exact Nat.le_refl _
  | keep _ _ _ _ _ ih => simpa using ih
  | skip _ _ _ ih => exact Nat.le_succ_of_le ih

section
variable {X : Cx} {b bor : Bool} {k : Nat} {sc : Scope} {U W : Addr → Prop} {Γ Γ' Γ₁ : List (Option Slot)} {A : Around} {env : Env} {s : Shared} {r : Fl}

/-- what a dict comprehension's loop keeps -/
inductive InvD (X : Cx) (k n i₀ : Nat) (sc' : Scope) (Γ' : List (Option Slot)) (x : Str) (ifs : List Expr) (kx vx : Expr) (items : List AV) (total : List (Int × Int)) (U' W' : Addr → Prop) (A : Around) (cenv : Env) (s : Shared) (St : Nat → Heap → Prop) (D C : Addr) (wr : List Addr) : Nat → Shared → Prop
  | mk (h' : Heap) (tk i : Nat) (todo : List AV) (rs done : List (Int × Int)) (ys : List (Int × Value)) : n = i + todo.length → (∀ j : Nat, todo[j]? = items[i + j]?) → DComps X k sc' Γ' i₀ x ifs kx vx todo rs → done ++ rs = total →
    Rel X k sc' U' W' Γ' A cenv { s with heap := h', toks := tk } → St i h' → h'.DictOf (intKind X.prog X.w) D ys → KI ys (done.foldl (fun l p => dput l p.1 p.2) []) → (∀ b o, s.heap.get? b = some o → b ∉ wr → b ∉ tabs → h'.get? b = some o) → s.heap.objs.size ≤ h'.objs.size → (∃ mm, h'.Ns C mm) →
    InvD X k n i₀ sc' Γ' x ifs kx vx items total U' W' A cenv s St D C wr todo.length { s with heap := h', toks := tk }
theorem comp_dict {kx vx iter : Expr} {x : Str} {px pos : Pos} {ifs : List Expr} {scope : Scope} {ns' : List (Str × NameKind)} {i₀ n : Nat} {I : Addr} {fp wr : List Addr} {P : Nat → Value → Prop} {St : Nat → Heap → Prop} {items : List AV} {total : List (Int × Int)} {RR : Value → Addr → Result → Shared → Prop} {E : Value → Shared → Prop}
    (R : Rel X k sc U W Γ A env s) (c : Capt sc Γ bor scope.names ns' Γ') (hk : scope.kind = .function) (hcod : codeFor { scope with names := ns' } = none) (hnod : (ns'.map (·.1)).Nodup) (hndb : ∀ p ∈ ns', (p.1 == ("__debug__" : Str)) = false ∧ (p.1 == ("__classdict__" : Str)) = false)
    (hx : ∀ sl, Γ'[i₀]? ≠ some (some sl)) (it : ItAt X U W A s.heap I fp wr n P St items) (hc : DComps X k { scope with names := ns' } Γ' i₀ x ifs kx vx items total) (hsz : items.length ≤ sizeLine)
    (hR : ∀ D C h' tk ys mm, (∀ b o, s.heap.get? b = some o → b ∉ wr → b ∉ tabs → h'.get? b = some o) → s.heap.objs.size ≤ h'.objs.size → s.heap.objs.size ≤ D → s.heap.objs.size ≤ C → C ≠ D → h'.DictOf (intKind X.prog X.w) D ys → KI ys (total.foldl (fun l p => dput l p.1 p.2) []) → h'.Ns C mm →
      TabOk X.T (UW (compU bor U W (closL env scope.names []) s.heap D) (compW W (closL env scope.names []) C)) h' → RR (.ref D) C (.ok .next) { s with heap := h', toks := tk }) :
    wpAny (model X.prog X.w) A newDict (fun acc s₃ => wpAny (model X.prog X.w) A (newFunctionEnv scope env.globals (closL env scope.names []) [] env.qual none .none (some env)) (fun cenv s₄ =>
      codeAny (model X.prog X.w) A (.compStart (.DictComp kx vx [⟨.Name x px, iter, ifs, 0⟩] scope pos) 0 (.ref I) acc { cenv with scope := PySem.relabel scope env }) (RR acc cenv.locals) s₄) E s₃) E s := by
  refine wpAny_newObj_type (wpAny_newFunctionEnv c.noCell (by intro y hy; simp at hy) (fun h₁ hns₁ hsb₁ => ?_) hk)
  dsimp only at hns₁ hsb₁ ⊢
  generalize hH2 : s.heap.push { cls := .type "dict", dict := none, data := .dict #[] } = H2 at hns₁ hsb₁ ⊢
  have hC : H2.objs.size = s.heap.objs.size + 1 := by rw [← hH2, Heap.size_push]
  have hDC : s.heap.objs.size ≠ H2.objs.size := by rw [hC]; exact Nat.ne_of_lt (Nat.lt_succ_self _)
  have hCge : s.heap.objs.size ≤ H2.objs.size := by rw [hC]; exact Nat.le_succ _
  have hsz1 : h₁.objs.size = s.heap.objs.size + 2 := by rw [hsb₁.1, Heap.size_push, hC]
  have below : ∀ b, b < s.heap.objs.size → b ≠ H2.objs.size ∧ b ≠ s.heap.objs.size := fun b hb => ⟨by rw [hC]; exact Nat.ne_of_lt (Nat.lt_succ_of_lt hb), Nat.ne_of_lt hb⟩
  have old : ∀ b o, s.heap.get? b = some o → h₁.get? b = some o := fun b o e => hsb₁.extBut b o (below b (Heap.lt_size e)).1 (Heap.get?_push_of_some _ (hH2 ▸ Heap.get?_push_of_some _ e))
  have hacc0 : H2.DictOf (intKind X.prog X.w) s.heap.objs.size [] := by rw [← hH2]; exact Heap.DictOf.new s.heap
  have hacc : h₁.DictOf (intKind X.prog X.w) s.heap.objs.size [] := hacc0.at fun o e => hsb₁.extBut _ _ hDC (Heap.get?_push_of_some _ e)
  have hst₁ : St 0 h₁ := it.walks.frame _ _ _ it.st fun b _ o e => old b o e
  obtain ⟨_, RC⟩ := R.comp (tk₁ := s.toks + ([] : List (Str × Value)).length) (D := s.heap.objs.size) (C := H2.objs.size) c hk hcod hnod hndb old (by rw [hsz1]; exact Nat.le_add_right _ _) hCge (Nat.le_refl _) (by rw [hsz1, hC]; exact Nat.lt_succ_self _) (by rw [hsz1]; exact Nat.lt_add_of_pos_right (by decide)) (Ne.symm hDC) hns₁
  generalize hU' : compU bor U W (closL env scope.names []) s.heap s.heap.objs.size = U' at RC
  generalize hW' : compW W (closL env scope.names []) H2.objs.size = W' at RC
  generalize hce : compEnvC scope (closL env scope.names []) H2.objs.size env = cenv at RC
  have hL : cenv.locals = H2.objs.size := by rw [← hce]; rfl
  have hDU : U' s.heap.objs.size := by rw [← hU']; exact .inr rfl
  have hUold : ∀ b, U b → U' b := fun b hb => by rw [← hU']; exact .inl ⟨.inl hb, fun z => R.dis b z.1 hb, fun z => R.dis b z.2.1 hb⟩
  have hWC : ∀ b, W' b → b = H2.objs.size ∨ W b := fun b hb => by rw [← hW'] at hb; exact hb.imp id fun z => z.1
  have hDt : s.heap.objs.size ∉ tabs := fun q => Nat.lt_irrefl _ (R.Ult _ (R.Ut _ q))
  have hDb : ∀ o, X.hb.get? s.heap.objs.size ≠ some o := fun o e => Nat.lt_irrefl _ (Heap.lt_size (R.base _ _ e))
  have hDw : s.heap.objs.size ∉ wr := fun q => Nat.lt_irrefl _ (it.fp _ (it.walks.sub _ q)).1
  have hval : ∀ {v : Value} {a : AV} {h : Heap}, (∀ b o, s.heap.get? b = some o → b ∉ wr → b ∉ tabs → h.get? b = some o) → VR X.prog X.w (UW U W) s.heap v a → VR X.prog X.w (UW U' W') h v a := fun {v a h} kp r =>
    r.change fun b o e nb => by
      refine ⟨kp b o e (fun q => nb (.inl (it.wr b q).1)) (fun q => nb (.inl (R.Ut b q))), fun z => ?_⟩
      rw [← hU', ← hW'] at z
      rcases comp_new hCge (Nat.le_refl _) e z with z | z
      · exact nb z.1
      · exact nb (.inr z.1)
  have loop : ∀ s₃ : Shared, s₃ = { s with heap := h₁, toks := s.toks + ([] : List (Str × Value)).length } →
      codeAny (model X.prog X.w) A (.compLoop (.DictComp kx vx [⟨.Name x px, iter, ifs, 0⟩] scope pos) 0 (.ref I) (.ref s.heap.objs.size) (cenv)) (RR (.ref s.heap.objs.size) H2.objs.size) s₃ := by
    rintro s₃ rfl
    refine codeAny_compLoop_testsD
      (InvD X k n i₀ { scope with names := ns' } Γ' x ifs kx vx items total U' W' A cenv s St s.heap.objs.size H2.objs.size wr) ?_ items.length
      ⟨h₁, _, 0, items, total, [], [], by rw [it.len]; omega, fun j => by simp, hc, rfl, RC, hst₁, hacc, .nil, fun b o e _ _ => old b o e, by show s.heap.objs.size ≤ h₁.objs.size; rw [hsz1]; exact Nat.le_add_right _ _, ⟨_, hns₁⟩⟩
    rintro m s' ⟨h', tk, i, todo, rs, done, ys, hn, hitems, hcs, htot, R', hst', hD', hys, kp, szh, mm, hC'⟩
    have kept : ∀ {h₂ : Heap}, (∀ b o, b ∉ wr → h'.get? b = some o → h₂.get? b = some o) → ∀ b o, s.heap.get? b = some o → b ∉ wr → b ∉ tabs → h₂.get? b = some o := fun hk b o eb nw nt => hk b o nw (kp b o eb nw nt)
    have hwr : ∀ b ∈ wr, U' b ∧ b ∉ tabs ∧ ∀ o, X.hb.get? b ≠ some o := fun b hb => ⟨hUold b (it.wr b hb).1, (it.wr b hb).2⟩
    have hCw : H2.objs.size ∉ wr := fun q => by have h5 := (it.fp _ (it.walks.sub _ q)).1; rw [hC] at h5; exact absurd h5 (Nat.not_lt.mpr (Nat.le_succ _))
    cases todo with
    | nil =>
      cases hcs
      have hi : i = n := by simpa using hn.symm
      subst hi
      refine wpAny_with_size (it.walks.done _ _ _ hst' fun h₂ tk₂ hk₂ sz₂ => ?_)
      have e2 : h₂.DictOf (intKind X.prog X.w) s.heap.objs.size ys := hD'.at fun o eo => hk₂ _ o hDw eo
      have R₂ := R'.poke (tk := tk₂) hwr hk₂ sz₂
      rw [List.append_nil] at htot
      subst htot
      rw [← hU', ← hW'] at R₂
      exact hR _ _ h₂ tk₂ ys mm (kept hk₂) (Nat.le_trans szh sz₂) (Nat.le_refl _) hCge (Ne.symm hDC) e2 hys (hC'.at' fun o eo => hk₂ _ o hCw eo) R₂.tab
    | cons a todo =>
      have hlt : i < n := by rw [hn, List.length_cons]; omega
      refine wpAny_with_size (it.walks.item i _ _ _ hlt hst' fun v h₂ tk₂ hPv hst₂ hk₂ sz₂ => ?_)
      have R₂ := R'.poke (tk := tk₂) hwr hk₂ sz₂
      have ha : items[i]? = some a := by have := hitems 0; simpa using this.symm
      have hva : VR X.prog X.w (UW U' W') h₂ v a := hval (kept hk₂) (it.vals i a ha v hPv)
      have hC₂ : h₂.Ns H2.objs.size mm := hC'.at' fun o eo => hk₂ _ o hCw eo
      have hnext : n = i + 1 + todo.length := by rw [hn, List.length_cons]; omega
      have hitems' : ∀ j, todo[j]? = items[i + 1 + j]? := fun j => by have := hitems (j + 1); rw [List.getElem?_cons_succ] at this; rw [this]; congr 1; omega
      have step : ∀ {Γ₁ : List (Option Slot)}, Put ns' Γ' i₀ x .local (.val a) Γ₁ → ∀ {Q : Unit → Shared → Prop} {E : Value → Shared → Prop}, (∀ h₃ tk₃, Rel X k { scope with names := ns' } U' W' Γ₁ A (cenv) { s with heap := h₃, toks := tk₃ } → St (i + 1) h₃ → h₃.DictOf (intKind X.prog X.w) s.heap.objs.size ys → (∀ b o, s.heap.get? b = some o → b ∉ wr → b ∉ tabs → h₃.get? b = some o) → s.heap.objs.size ≤ h₃.objs.size → (∃ mm, h₃.Ns H2.objs.size mm) → Q () { s with heap := h₃, toks := tk₃ }) →
          wpAny (model X.prog X.w) A (assign (.Name x px) (cenv) v) Q E { s with heap := h₂, toks := tk₂ } := by
        intro Γ₁ p Q E q
        refine wpAny_assign_Name (R₂.storeL p hva fun h₃ tk₃ R₃ hs₃ => ?_)
        rw [hL] at hs₃
        have k3 : ∀ b o, b ≠ H2.objs.size → h₂.get? b = some o → h₃.get? b = some o := fun b o nb eb => (hs₃.2 b nb).trans eb
        refine q h₃ tk₃ R₃ (it.walks.frame _ _ _ hst₂ fun b hb o eb => k3 b o (fun q => by have h5 := (it.fp b hb).1; rw [q, hC] at h5; exact absurd h5 (Nat.not_lt.mpr (Nat.le_succ _))) eb) (hD'.at fun o eo => k3 _ _ hDC (hk₂ _ o hDw eo)) (fun b o eb nw nt => k3 b o (below b (Heap.lt_size eb)).1 (kept hk₂ b o eb nw nt)) ?_ (hL ▸ R₃.loc.2)
        show s.heap.objs.size ≤ h₃.objs.size
        rw [hs₃.1]; exact Nat.le_trans szh sz₂
      cases hcs with
      | keep p ht hek hev hrest =>
        rename_i kk vv cs₀ Γ₁
        refine step p fun h₃ tk₃ R₃ hst₃ hD₃ kp₃ sz₃ hC₃ => ?_
        refine ht.run R₃ fun h₄ tk₄ a₄ => ?_
        rw [if_pos rfl]
        have R₄ := R₃.after (tk := tk₄) a₄
        refine hek R₄ fun y h₅ tk₅ a₅ hy => ?_
        obtain ⟨t₁, rfl⟩ := hy.int
        have R₅ := R₄.after (tk := tk₅) a₅
        refine hev R₅ fun y' h₆ tk₆ a₆ hy' => ?_
        obtain ⟨t₂, rfl⟩ := hy'.int
        have R₆ := R₅.after (tk := tk₆) a₆
        have a' := (a₄.trans a₅).trans a₆
        have hD₅ : h₆.DictOf (intKind X.prog X.w) s.heap.objs.size ys := hD₃.at fun o eo => a'.keep _ _ eo hDt
        have hdl : done.length ≤ sizeLine := by
          have h1 : (done ++ (kk, vv) :: cs₀).length = total.length := by rw [htot]
          have h2 := hc.len
          rw [List.length_append] at h1
          omega
        have hyl : ys.length ≤ sizeLine := by
          have h1 := hys.length
          have h2 := dput_len done []
          simp only [List.length_nil, Nat.zero_add] at h2
          omega
        refine wpAny_dictSet_pairs (k := kk) (hsz := hyl) (by simp [intKind, Value.isInt]) hD₅ fun h₇ hD₇ hs₇ => ?_
        have k6 : ∀ b o, b ≠ s.heap.objs.size → h₆.get? b = some o → h₇.get? b = some o := fun b o nb eb => (hs₇.2 b nb).trans eb
        have R₇ := R₆.poke (tk := tk₆ + 1) (h' := h₇) (Z := [s.heap.objs.size]) (fun b hb => by rw [List.mem_singleton.mp hb]; exact ⟨hDU, hDt, hDb⟩) (fun b o nb eb => k6 b o (by simpa using nb) eb) (Nat.le_of_eq hs₇.1.symm)
        refine ⟨todo.length, by simp, h₇, tk₆ + 1, i + 1, todo, cs₀, done ++ [(kk, vv)], stored ys kk (.int vv t₂), hnext, hitems', hrest, by rw [← htot]; simp, R₇.forget fun j sl ej => ?_, ?_, hD₇, ?_, fun b o eb nw nt => k6 b o (below b (Heap.lt_size eb)).2 (a'.keep b o (kp₃ b o eb nw nt) nt), ?_, hL ▸ R₇.loc.2⟩
        · refine p.back j sl (fun q => ?_) ej
          subst q; exact hx _ ej
        · exact it.walks.frame _ _ _ hst₃ fun b hb o eb => k6 b o (below b (it.fp b hb).1).2 (a'.keep b o eb (it.fp b hb).2)
        · rw [List.foldl_append]; exact hys.stored
        · show s.heap.objs.size ≤ h₇.objs.size
          rw [hs₇.1]; exact Nat.le_trans sz₃ a'.size
      | skip p ht hrest =>
        rename_i Γ₁
        refine step p fun h₃ tk₃ R₃ hst₃ hD₃ kp₃ sz₃ hC₃ => ?_
        refine ht.run R₃ fun h₄ tk₄ a₄ => ?_
        rw [if_neg (by decide)]
        have R₄ := R₃.after (tk := tk₄) a₄
        refine ⟨todo.length, by simp, h₄, tk₄, i + 1, todo, rs, done, ys, hnext, hitems', hrest, htot, R₄.forget fun j sl ej => ?_, ?_, hD₃.at fun o eo => a₄.keep _ _ eo hDt, hys, fun b o eb nw nt => a₄.keep b o (kp₃ b o eb nw nt) nt, Nat.le_trans sz₃ a₄.size, hL ▸ R₄.loc.2⟩
        · refine p.back j sl (fun q => ?_) ej
          subst q; exact hx _ ej
        · exact it.walks.frame _ _ _ hst₃ fun b hb o eb => a₄.keep b o eb (it.fp b hb).2
  subst hce
  exact codeAny_compStart_dict (loop _ rfl) (it.walks.self 0 _ _ _ hst₁ (loop _ rfl))
theorem E_dictComp {kx vx iter : Expr} {x : Str} {px pos : Pos} {ifs : List Expr} {scope : Scope} {ns' : List (Str × NameKind)} {i₀ : Nat} {items : List AV} {total : List (Int × Int)} (hit : Iters X false k sc Γ iter items) (c : CompOk X k sc Γ bor scope ns' Γ' i₀)
    (hc : DComps X k { scope with names := ns' } Γ' i₀ x ifs kx vx items total) (hsz : items.length ≤ sizeLine) (hs : ∀ env x, foldedSetIterable iter env x = pure x := by intro _ _; rfl) :
    Evals X b k sc Γ (.DictComp kx vx [⟨.Name x px, iter, ifs, 0⟩] scope pos) (.dictI (total.foldl (fun l p => dput l p.1 p.2) [])) := by
  intro U W A env s Q E R q
  rw [arm_eval_DictComp]
  refine wpAny_comprehension_free (use := none) rfl (hs env) (c.capt.clos R) c.kind (c.capt.locals c.nod) ?_
  show wpAny _ A (eval iter env) _ _ s
  refine hit R fun I fp wr n P St h₂ tk₂ a₂ hw hst hn hfp hwr hv => ?_
  have R₂ := R.guard (tk := tk₂) (Z := wr) a₂ fun b hb => ⟨(hwr b hb).1, (hfp b (hw.sub b hb)).1, (hwr b hb).2⟩
  refine comp_dict R₂ c.capt c.kind c.cod c.nod c.ndb c.fresh ⟨hw, hst, hn, fun b hb => ⟨(hfp b hb).1, (hfp b hb).2.1⟩, fun b hb => ⟨.inr hb, (hfp b (hw.sub b hb)).2.1, fun o e => absurd (Heap.lt_size (R.base b o e)) (Nat.not_lt.mpr (hwr b hb).1)⟩, hv⟩ hc hsz fun D C h' tk ys mm kp sz hD hC hCD eD hKI hN ht => ?_
  refine ⟨mm, hN, fun h'' hs'' => ?_⟩
  have hWw : ∀ a, W a → a ∉ wr := fun a ha q => absurd (R.Wlt a ha) (Nat.not_lt.mpr (hwr a q).1)
  have a' := comp_aft a₂ (fun b hb => (hwr b hb).1) kp sz (fun a ha => R.Wt ha) hWw ht
  have hCs : s.heap.objs.size ≤ C := Nat.le_trans a₂.size hC
  have hCt : C ∉ tabs := fun z => absurd (R.Ult C (R.Ut C z)) (Nat.not_lt.mpr hCs)
  refine q (.ref D) h'' tk (aft_same a' hCs hCt hN hs'') (.inl (.dictI ?_ (eD.at fun o eo => (hs''.2 D (Ne.symm hCD)).trans eo) hKI))
  rintro (z | z)
  · exact absurd (R.Ult D z) (Nat.not_lt.mpr (Nat.le_trans a₂.size hD))
  · exact absurd (R.Wlt D z) (Nat.not_lt.mpr (Nat.le_trans a₂.size hD))

theorem S_dictComp {y : Str} {py spos : Pos} {iy : Nat} {kx vx iter : Expr} {x : Str} {px pos : Pos} {ifs : List Expr} {scope : Scope} {ns' : List (Str × NameKind)} {i₀ : Nat} {items : List AV} {total : List (Int × Int)} (hit : Iters X false k sc Γ iter items) (c : CompOk X k sc Γ bor scope ns' Γ' i₀)
    (hc : DComps X k { scope with names := ns' } Γ' i₀ x ifs kx vx items total) (hsz : items.length ≤ sizeLine) (p : Put sc.names Γ iy y .local (.val (.dictI (total.foldl (fun l p => dput l p.1 p.2) []))) Γ₁)
    (hl : (py.line == pos.line) = true) (hne : (scope.names.any fun (n, k) => n == y && (k == .local || k == .cell)) = false) (hs : ∀ env x, foldedSetIterable iter env x = pure x := by intro _ _; rfl) :
    Exec X k sc Γ (.Assign [.Name y py] (.DictComp kx vx [⟨.Name x px, iter, ifs, 0⟩] scope pos) spos) (.next Γ₁) := by
  intro U W A env s Q E R q
  have hsw : swapsWith (.DictComp kx vx [⟨.Name x px, iter, ifs, 0⟩] scope pos) (some (.Name y py)) spos.line env = pure true := by
    show (pure (env.blockKind == .function && env.kindOf y == some .local && py.line == pos.line && !(scope.names.any fun (n, k) => n == y && (k == .local || k == .cell))) : Sem Bool) = pure true
    rw [hl, hne, R.kindOf p.at.1]
    have : env.blockKind = .function := by unfold Env.blockKind; rw [R.isFn]; rfl
    rw [this]; rfl
  rw [exec_Assign_Name_used _ _ _ _ hsw]
  refine wpAny_bind (wpAny_standAt (wpAny_bind ?_))
  show wpAny _ A (do let _ ← comprehension (.DictComp kx vx [⟨.Name x px, iter, ifs, 0⟩] scope pos) scope env _ newDict false (eval iter env) (some (assign (.Name y py) env))) _ _ s
  refine wpAny_bind (wpAny_mono (wpAny_comprehension_free (use := some (assign (.Name y py) env)) (Q := fun _ s' => Q .next s') rfl (hs env) (c.capt.clos R) c.kind (c.capt.locals c.nod) ?_) (fun _ s' hq => wpAny_pure (wpAny_pure hq)) fun _ _ e => e)
  refine hit R fun I fp wr n P St h₂ tk₂ a₂ hw hst hn hfp hwr hv => ?_
  have R₂ := R.guard (tk := tk₂) (Z := wr) a₂ fun b hb => ⟨(hwr b hb).1, (hfp b (hw.sub b hb)).1, (hwr b hb).2⟩
  refine comp_dict R₂ c.capt c.kind c.cod c.nod c.ndb c.fresh ⟨hw, hst, hn, fun b hb => ⟨(hfp b hb).1, (hfp b hb).2.1⟩, fun b hb => ⟨.inr hb, (hfp b (hw.sub b hb)).2.1, fun o e => absurd (Heap.lt_size (R.base b o e)) (Nat.not_lt.mpr (hwr b hb).1)⟩, hv⟩ hc hsz fun D C h' tk ys mm kp sz hD hC hCD eD hKI hN ht => ?_
  have hWw : ∀ a, W a → a ∉ wr := fun a ha q => absurd (R.Wlt a ha) (Nat.not_lt.mpr (hwr a q).1)
  have a' := comp_aft a₂ (fun b hb => (hwr b hb).1) kp sz (fun a ha => R.Wt ha) hWw ht
  have hCs : s.heap.objs.size ≤ C := Nat.le_trans a₂.size hC
  have hDs : s.heap.objs.size ≤ D := Nat.le_trans a₂.size hD
  have hCl : C < h'.objs.size := hN.lt
  have R' := R.guard (tk := tk) (Z := [C]) a' fun b hb => by rw [List.mem_singleton.mp hb]; exact ⟨hCs, hCl, ns_no_code hN⟩
  show wpAny _ A (assign (.Name y py) env (.ref D)) _ _ _
  obtain ⟨ad, bd, V⟩ := R'.vars
  have hv' : VR X.prog X.w (UW (fun x => U x ∨ x ∈ [C]) W) h' (.ref D) (.dictI (total.foldl (fun l p => dput l p.1 p.2) [])) := by
    refine .dictI ?_ eD hKI
    rintro ((z | z) | z)
    · exact absurd (R.Ult D z) (Nat.not_lt.mpr hDs)
    · exact hCD (List.mem_singleton.mp z).symm
    · exact absurd (R.Wlt D z) (Nat.not_lt.mpr hDs)
  refine wpAny_assign_Name (R'.storeL p hv' fun h₃ tk₃ R₃ hs₃ => ?_)
  have hLC : env.locals ≠ C := fun z => by
    have := R.Wlt _ R.loc.1
    exact absurd this (Nat.not_lt.mpr (z ▸ hCs))
  refine ⟨mm, hN.sameBut hs₃ (Ne.symm hLC), fun h₄ hs₄ => ?_⟩
  have R₄ := R₃.poke (tk := tk₃) (h' := h₄) (Z := [C]) (fun b hb => ⟨.inr hb, fun z => ?_, fun o e => ?_⟩) (fun b o nb eb => (hs₄.2 b (by simpa using nb)).trans eb) (Nat.le_of_eq hs₄.1.symm)
  · refine q W h₄ tk₃ (R₄.subU R.Ut R.Us) ⟨fun _ h => .inl h, fun b o e nW nt => ?_, ?_⟩
    · have e1 := a'.keep b o e nt
      have e2 := (hs₃.2 b fun z => nW (z ▸ R.loc.1)).trans e1
      exact (hs₄.2 b fun z => absurd (Heap.lt_size e) (Nat.not_lt.mpr (z ▸ hCs))).trans e2
    · rw [hs₄.1]; exact Nat.le_trans a'.size (Nat.le_of_eq hs₃.1.symm)
  · rw [List.mem_singleton.mp hb] at z; exact absurd (R.Ult C (R.Ut C z)) (Nat.not_lt.mpr hCs)
  · rw [List.mem_singleton.mp hb] at e; exact absurd (Heap.lt_size (R.base _ _ e)) (Nat.not_lt.mpr hCs)
end
end Mine
namespace Mine

/-- fewer slots known -/
inductive Less : List (Option Slot) → List (Option Slot) → Prop
  | nil {Γ : List (Option Slot)} : Less Γ []
  | keep {o : Option Slot} {Γ Γ' : List (Option Slot)} : Less Γ Γ' → Less (o :: Γ) (o :: Γ')
  | drop {o : Option Slot} {Γ Γ' : List (Option Slot)} : Less Γ Γ' → Less (o :: Γ) (none :: Γ')
  | pad {Γ' : List (Option Slot)} : Less [] Γ' → Less [] (none :: Γ')
theorem Less.at {Γ Γ' : List (Option Slot)} (h : Less Γ Γ') : ∀ (j : Nat) (sl : Slot), Γ'[j]? = some (some sl) → Γ[j]? = some (some sl) := by
  induction h with
  | nil => intro j sl e; simp at e
  | keep _ ih => intro j sl e; cases j with
    | zero => simpa using e
    | succ j => simpa using ih j sl (by simpa using e)
  | drop _ ih => intro j sl e; cases j with
    | zero => simp at e
    | succ j => simpa using ih j sl (by simpa using e)
  | pad _ ih => intro j sl e; cases j with
    | zero => simp at e
    | succ j => have := ih j sl (by simpa using e); simp at this
theorem Less.refl : ∀ (Γ : List (Option Slot)), Less Γ Γ
  | [] => .nil
  | _ :: Γ => .keep (Less.refl Γ)

section
variable {X : Cx} {b : Bool} {k : Nat} {sc : Scope} {U W : Addr → Prop} {Γ Γ' Γ₁ Γ₂ : List (Option Slot)} {A : Around} {env : Env} {s : Shared} {r : Fl}

theorem X_less {ss : List Stmt} (l : Less Γ Γ₁) (h : Execs X k sc Γ₁ ss r) : Execs X k sc Γ ss r := fun _ _ _ _ _ _ _ R p => h (R.forget l.at) p
theorem W_less {test : Expr} {body : List Stmt} (l : Less Γ Γ₁) (h : Whiles X k sc Γ₁ test body r) : Whiles X k sc Γ test body r := fun _ _ _ _ _ _ _ R p => h (R.forget l.at) p
theorem F_less {tgt : Expr} {body : List Stmt} {items : List AV} (l : Less Γ Γ₁) (h : Fors X k sc Γ₁ tgt body items r) : Fors X k sc Γ tgt body items r :=
  fun _ _ _ _ _ _ _ _ _ _ _ _ _ _ _ _ R it hb c p => h (R.forget l.at) it hb c p
theorem S_less {st : Stmt} (l : Less Γ Γ₁) (h : Exec X k sc Γ₁ st r) : Exec X k sc Γ st r := fun _ _ _ _ _ _ _ R p => h (R.forget l.at) p
theorem Post.more {Q : Flow → Shared → Prop} (l : Less Γ₁ Γ₂) (p : Post X k sc U W A env s Q (.next Γ₂)) : Post X k sc U W A env s Q (.next Γ₁) := fun W' h' tk R c => p W' h' tk (R.forget l.at) c
theorem X_more {ss : List Stmt} (l : Less Γ₁ Γ₂) (h : Execs X k sc Γ ss (.next Γ₁)) : Execs X k sc Γ ss (.next Γ₂) := fun _ _ _ _ _ _ _ R p => h R (p.more l)
theorem S_more {st : Stmt} (l : Less Γ₁ Γ₂) (h : Exec X k sc Γ st (.next Γ₁)) : Exec X k sc Γ st (.next Γ₂) := fun _ _ _ _ _ _ _ R p => h R (p.more l)
theorem W_more {test : Expr} {body : List Stmt} (l : Less Γ₁ Γ₂) (h : Whiles X k sc Γ test body (.next Γ₁)) : Whiles X k sc Γ test body (.next Γ₂) := fun _ _ _ _ _ _ _ R p => h R (p.more l)
theorem F_more {tgt : Expr} {body : List Stmt} {items : List AV} (l : Less Γ₁ Γ₂) (h : Fors X k sc Γ tgt body items (.next Γ₁)) : Fors X k sc Γ tgt body items (.next Γ₂) :=
  fun _ _ _ _ _ _ _ _ _ _ _ _ _ _ _ _ R it hb c p => h R it hb c fun W' h' tk R' c' => p W' h' tk (R'.forget l.at) c'

/-- a name's truth, by value -/
theorem T_int {e : Expr} {i : Int} (h1 : Evals X false k sc Γ e (.int i)) (he : ∀ env whole, isTrue e env whole = (do let v ← whole; standAt e.pos; holding [v] (truthy v)) := by intro _ _; rfl) : Tests X k sc Γ e (i != 0) := by
  intro U W A env s Q E R q
  refine wpAny_isTrue_value (h1 R fun v h₁ t₁ a₁ q₁ => ?_) (he _ _)
  obtain ⟨t, rfl⟩ := q₁.int
  exact P.truthy_int (q _ _ a₁)
theorem E_neg {e : Expr} {i : Int} {pos : Pos} (h1 : Evals X false k sc Γ e (.int i)) : Evals X b k sc Γ (.UnaryOp .USub e pos) (.int (-i)) := by
  intro U W A env s Q E R q
  refine PySem.wpAny_UnaryOp (h1 R fun v h₁ t₁ a₁ q₁ => ?_)
  obtain ⟨t, rfl⟩ := q₁.int
  exact P.neg_int (q _ _ _ a₁ (.inl (.int _ _)))
theorem T_list {e : Expr} {l : List AV} (h1 : Evals X false k sc Γ e (.list l)) (hsz : l.length < 2 ^ 63) (he : ∀ env whole, isTrue e env whole = (do let v ← whole; standAt e.pos; holding [v] (truthy v)) := by intro _ _; rfl) : Tests X k sc Γ e (!l.isEmpty) := by
  intro U W A env s Q E R q
  refine wpAny_isTrue_value (h1 R fun v h₁ t₁ a₁ q₁ => ?_) (he _ _)
  obtain ⟨a, vs, n, rfl, e0, hr⟩ := q₁.list
  have hlen := hr.length
  refine wpAny_truthy_list (LObj.isList e0) (by rw [List.size_toArray, hlen]; omega) ?_
  have : (!vs.toArray.isEmpty) = (!l.isEmpty) := by cases hr <;> rfl
  rw [this]
  exact q _ _ a₁
theorem B_shr {i j : Int} (hn : 0 ≤ j) : BinV X k .RShift (.int i) (.int j) (.int (i.fdiv (2 ^ j.toNat))) := by
  intro sc U W Γ A env s Q E v u R hv hu q
  obtain ⟨t, rfl⟩ := hv.int
  obtain ⟨t', rfl⟩ := hu.int
  exact rshift_int hn (q _ _ _ (Aft.refl R) (.inl (.int _ _)))
theorem B_xor {i j : Int} : BinV X k .BitXor (.int i) (.int j) (.int (Builtin.bitXor i j)) := by
  intro sc U W Γ A env s Q E v u R hv hu q
  obtain ⟨t, rfl⟩ := hv.int
  obtain ⟨t', rfl⟩ := hu.int
  exact xor_int (q _ _ _ (Aft.refl R) (.inl (.int _ _)))
theorem T_is {e : Expr} {t : Bool} (h : t = true) (H : Tests X k sc Γ e t) : Tests X k sc Γ e true := h ▸ H
theorem T_isnt {e : Expr} {t : Bool} (h : t = false) (H : Tests X k sc Γ e t) : Tests X k sc Γ e false := h ▸ H
theorem E_is {e : Expr} {a c : AV} (h : a = c) (H : Evals X b k sc Γ e a) : Evals X b k sc Γ e c := h ▸ H
theorem V_is {f : Value} {as : List AV} {kw : List (Str × AV)} {a c : AV} (h : a = c) (H : CallV X k b f as kw a) : CallV X k b f as kw c := h ▸ H
theorem A_is {op : Operator} {a c r r' : AV} (h : r = r') (H : AugV X k op a c r) : AugV X k op a c r' := h ▸ H
theorem N_is {e : Expr} {l l' : List AV} (h : l = l') (H : EvalsN X k sc Γ e l) : EvalsN X k sc Γ e l' := h ▸ H

/-- a while statement's parts -/
noncomputable def whOf : Option Stmt → Expr × List Stmt
  | some (.While t b _ _) => (t, b)
  | _ => (.Constant .none 0 ⟨0, 0, 0, 0⟩, [])
noncomputable def thenOf : Option Stmt → List Stmt
  | some (.If _ s _ _) => s
  | _ => []
noncomputable def elseOf : Option Stmt → List Stmt
  | some (.If _ _ s _) => s
  | _ => []
noncomputable def forOf : Option Stmt → Expr × List Stmt
  | some (.For t _ b _ _) => (t, b)
  | _ => (.Constant .none 0 ⟨0, 0, 0, 0⟩, [])
end
end Mine
namespace Mine

section
variable {X : Cx} {b : Bool} {k : Nat} {sc : Scope} {U W : Addr → Prop} {Γ Γ' Γ₁ Γ₂ : List (Option Slot)} {A : Around} {env : Env} {s : Shared} {r : Fl}

/-- a list that a frame owns, with its last item, a list of the frame's own too -/
theorem Rel.own2_at {i : Nat} {x : Str} {kd : NameKind} {l last : List AV} (R : Rel X k sc U W Γ A env s) (L : Look sc.names Γ i x kd (.own2 l last)) :
    ∃ a c vs n us m, W a ∧ W c ∧ a ≠ c ∧ s.heap.get? a = some (LObj (vs ++ [.ref c]) n) ∧ s.heap.get? c = some (LObj us m) ∧ VRs X.prog X.w (UW U W) s.heap vs l ∧ VRs X.prog X.w (UW U W) s.heap us last ∧
      (∀ (Q : Value → Shared → Prop) E, Q (.ref a) s → wpAny (model X.prog X.w) A (loadName env x) Q E s) ∧
      ∀ h' tk c' l' last' vs' n' us' m' (W' : Addr → Prop) Γ', Put sc.names Γ i x kd (.own2 l' last') Γ' → (∀ b o, s.heap.get? b = some o → b ≠ a → b ≠ c → b ∉ tabs → h'.get? b = some o) → s.heap.objs.size ≤ h'.objs.size → TabOk X.T (UW U W) h' →
        (∀ y, W' y ↔ (W y ∧ (y = c → c' = c)) ∨ y = c') → (c' = c ∨ (s.heap.objs.size ≤ c' ∧ c' < h'.objs.size)) → h'.get? a = some (LObj (vs' ++ [.ref c']) n') → h'.get? c' = some (LObj us' m') → VRs X.prog X.w (UW U W') h' vs' l' → VRs X.prog X.w (UW U W') h' us' last' →
        Rel X k sc U W' Γ' A env { s with heap := h', toks := tk } ∧ Chg W W' s.heap h' := by
  obtain ⟨ad, bd, V⟩ := R.vars
  obtain ⟨v, hv1, hv2⟩ := V.2 i x kd _ L.at.1 L.at.2
  obtain ⟨rfl, hw, hw2, hne, vs, n, us, m, e, e2, hr, hr2⟩ := hv2
  refine ⟨ad i, bd i, vs, n, us, m, hw, hw2, hne, e, e2, hr, hr2, fun Q E q => R.load L.at.1 hv1 q, fun h' tk c' l' last' vs' n' us' m' W' Γ' p kp sz ht hW' hc' e' e2' hr' hr2' => ?_⟩
  have nl : ∀ {c : Addr} {ob : Obj}, s.heap.get? c = some ob → (∀ us m, ob ≠ LObj us m) → c ≠ ad i ∧ c ≠ bd i := fun {c ob} ec hc => ⟨fun q => by rw [q, e] at ec; exact hc _ _ (Option.some.inj ec).symm, fun q => by rw [q, e2] at ec; exact hc _ _ (Option.some.inj ec).symm⟩
  have hWsub : ∀ y, W' y → W y ∨ s.heap.objs.size ≤ y := fun y hy => by
    rcases (hW' y).mp hy with z | rfl
    · exact .inl z.1
    · rcases hc' with rfl | z
      · exact .inl hw2
      · exact .inr z.1
  have hWk : ∀ y, W y → y ≠ bd i → W' y := fun y hy hn => (hW' y).mpr (.inl ⟨hy, fun q => absurd q hn⟩)
  have kw : ∀ b o, Kp X W b → s.heap.get? b = some o → b ≠ ad i ∧ b ≠ bd i → h'.get? b = some o := fun b o hb eb ne => kp b o eb ne.1 ne.2 (R.Kt hb)
  have ch : ∀ b o, s.heap.get? b = some o → ¬ (UW U W) b → h'.get? b = some o ∧ ¬ (UW U W') b := fun b o e n => ⟨kp b o e (fun q => n (.inr (q ▸ hw))) (fun q => n (.inr (q ▸ hw2))) (fun q => n (.inl (R.Ut b q))), fun z => by
    rcases z with z | z
    · exact n (.inl z)
    · rcases hWsub b z with z | z
      · exact n (.inr z)
      · exact absurd (Heap.lt_size e) (Nat.not_lt.mpr z)⟩
  have var : ∀ {y : Str} {u : Value} {kd' : NameKind}, VarAt env s.heap y u kd' → VarAt env h' y u kd' := by
    intro y u kd' q
    cases kd' with
    | «local» =>
      obtain ⟨m, ⟨o, es, ep, eo, hd, rr⟩, hm⟩ := q
      exact ⟨m, ⟨o, es, ep, kw _ _ (.inl R.loc.1) eo (nl eo fun us m q => by subst q; cases hd), hd, rr⟩, hm⟩
    | cell =>
      obtain ⟨c, hc, o, eo, hd⟩ := q
      exact ⟨c, hc, o, kw _ _ (R.cel _ _ hc).1 eo (nl eo fun us m q => by subst q; cases hd), hd⟩
    | free =>
      obtain ⟨c, hc, o, eo, hd⟩ := q
      exact ⟨c, hc, o, kw _ _ (R.cel _ _ hc).1 eo (nl eo fun us m q => by subst q; cases hd), hd⟩
    | _ => exact q.elim
  have nsb : ∀ {y : Addr} {mm : Str → Option Value}, s.heap.Ns y mm → y ≠ bd i := fun {y mm} hn q => by
    obtain ⟨o, es, ep, eo, hd, _⟩ := hn
    exact (nl eo fun us m q => by subst q; cases hd).2 q
  have clb : ∀ {y : Addr} {v : Option Value}, s.heap.IsCell y v → y ≠ bd i := fun {y v} hn q => by
    obtain ⟨o, eo, hd⟩ := hn
    exact (nl eo fun us m q => by subst q; cases hd).2 q
  refine ⟨?_, ⟨hWsub, fun b o eb nb nt => kp b o eb (fun q => nb (q ▸ hw)) (fun q => nb (q ▸ hw2)) nt, sz⟩⟩
  refine { am := R.am, scp := R.scp, cod := R.cod, kind := R.kind, nod := R.nod, ndb := R.ndb, glob := R.glob, blt := R.blt, base := fun b o eb => kp b o (R.base b o eb) (fun q => (R.bW b o eb).1 (q ▸ hw)) (fun q => (R.bW b o eb).1 (q ▸ hw2)) (R.bW b o eb).2, bW := fun b o eb => ⟨fun z => ?_, (R.bW b o eb).2⟩, bU := R.bU, tab := ⟨fun y hy => ?_⟩, Ult := fun b hb => Nat.lt_of_lt_of_le (R.Ult b hb) sz, Wlt := fun b hb => ?_, dis := fun b hb hu => ?_, Ut := R.Ut, Us := R.Us, loc := ⟨?_, ?_⟩, cel := ?_, cinj := R.cinj, chas := fun j y kd' ej hk => ?_, vars := ⟨ad, fun j => if j = i then c' else bd j, ?_, ?_⟩ }
  · rcases hWsub b z with z | z
    · exact (R.bW b o eb).1 z
    · exact absurd (Heap.lt_size (R.base b o eb)) (Nat.not_lt.mpr z)
  · rcases ht.at_ y hy with e | ⟨c₂, h1, h2, h3, e⟩
    · exact .inl e
    · refine .inr ⟨c₂, fun z => ?_, h2, h3, e⟩
      rcases z with z | z
      · exact h1 (.inl z)
      · rcases (hW' c₂).mp z with z | rfl
        · exact h1 (.inr z.1)
        · obtain ⟨c3, oc, ws, tq, hcc, hoc, hd, _⟩ := h3
          cases hcc
          rw [e2'] at hoc; cases hoc; cases hd
  · rcases (hW' b).mp hb with z | rfl
    · exact Nat.lt_of_lt_of_le (R.Wlt b z.1) sz
    · exact Heap.lt_size e2'
  · rcases hWsub b hb with z | z
    · exact R.dis b z hu
    · exact absurd (R.Ult b hu) (Nat.not_lt.mpr z)
  · obtain ⟨m, hm⟩ := R.loc.2
    exact hWk _ R.loc.1 (nsb hm)
  · obtain ⟨m, o, es, ep, eo, hd, rr⟩ := R.loc.2
    exact ⟨m, o, es, ep, kw _ _ (.inl R.loc.1) eo (nl eo fun us m q => by subst q; cases hd), hd, rr⟩
  · intro y c hc
    obtain ⟨h1, v, o, eo, hd⟩ := R.cel y c hc
    refine ⟨h1.imp (fun z => hWk _ z (clb ⟨o, eo, hd⟩)) id, v, o, kw _ _ h1 eo (nl eo fun us m q => by subst q; cases hd), hd⟩
  · obtain ⟨c, h1, h2⟩ := R.chas j y kd' ej hk
    obtain ⟨_, v, hcell⟩ := R.cel y c h1
    exact ⟨c, h1, fun q => hWk _ (h2 q) (clb hcell)⟩
  · intro j j' p₁ p₂ sl sl' n1 n2 e1 e2₂ o1 o2 hnj
    have back : ∀ {j : Nat} {sl : Slot}, Γ'[j]? = some (some sl) → sl.isOwn = true → ∃ sl', Γ[j]? = some (some sl') ∧ sl'.isOwn = true := by
      intro j sl e1 o1
      by_cases q : j = i
      · subst q; exact ⟨_, L.at.2, rfl⟩
      · exact ⟨sl, p.at.2.2 j sl q e1, o1⟩
    obtain ⟨t1, g1, q1⟩ := back e1 o1
    obtain ⟨t2, g2, q2⟩ := back e2₂ o2
    have z := V.1 j j' p₁ p₂ t1 t2 n1 n2 g1 g2 q1 q2 hnj
    have fresh : ∀ {j : Nat} {p : Str × NameKind} {t : Slot}, sc.names[j]? = some p → Γ[j]? = some (some t) → t.isOwn = true → j ≠ i → ad j ≠ c' ∧ bd j ≠ c' := fun {j p t} nj gj oj hj => by
      obtain ⟨u, _, hs⟩ := V.2 j p.1 p.2 t nj gj
      have zz := V.1 j i p _ t _ nj L.at.1 gj L.at.2 oj rfl hj
      rcases hc' with rfl | z
      · exact ⟨zz.2.1, zz.2.2⟩
      · exact ⟨fun q => absurd (R.Wlt _ (slot_obj hs oj).1) (Nat.not_lt.mpr (q ▸ z.1)), fun q => absurd (R.Wlt _ (slot_obj' hs oj)) (Nat.not_lt.mpr (q ▸ z.1))⟩
    by_cases a1 : j = i
    · have a2 : j' ≠ i := fun q => hnj (a1.trans q.symm)
      simp only [a1, if_true, if_neg a2]
      rw [a1] at z
      exact ⟨z.1, z.2.1, Ne.symm (fresh n2 g2 q2 a2).2⟩
    · by_cases a2 : j' = i
      · simp only [a2, if_true, if_neg a1]
        rw [a2] at z
        exact ⟨z.1, (fresh n1 g1 q1 a1).1, (fresh n1 g1 q1 a1).2⟩
      · simp only [if_neg a1, if_neg a2]; exact z
  · intro j y kd' sl e1 e2₂
    by_cases q : j = i
    · subst q
      have e3 := p.at.2.1
      rw [e2₂] at e3; cases e3
      have e4 := p.at.1
      rw [e1] at e4; cases e4
      refine ⟨_, var hv1, ?_⟩
      simp only [if_true]
      refine ⟨rfl, hWk _ hw hne, (hW' c').mpr (.inr rfl), ?_, vs', n', us', m', e', e2', hr', hr2'⟩
      rcases hc' with rfl | z
      · exact hne
      · intro qq; exact absurd (R.Wlt _ hw) (Nat.not_lt.mpr (qq ▸ z.1))
    · simp only [if_neg q]
      have g := p.at.2.2 j sl q e2₂
      obtain ⟨u, hu, hsl⟩ := V.2 j y kd' sl e1 g
      refine ⟨u, var hu, ?_⟩
      cases sl with
      | val av => exact VR.change ch hsl
      | own l₂ o₂ =>
        have z := V.1 j i _ _ _ _ e1 L.at.1 g L.at.2 rfl rfl q
        obtain ⟨rfl, hba₂, hw₂, us, m, e₂, r₂⟩ := hsl
        exact ⟨rfl, hba₂, hWk _ hw₂ z.2.1, us, m, kw _ _ (.inl hw₂) e₂ ⟨z.1, z.2.1⟩, r₂.change ch⟩
      | own2 l₂ last₂ =>
        have z := V.1 j i _ _ _ _ e1 L.at.1 g L.at.2 rfl rfl q
        have z' := V.1 i j _ _ _ _ L.at.1 e1 L.at.2 g rfl rfl (Ne.symm q)
        obtain ⟨rfl, hw1, hw2, ne, us, m, ws, m2, e₂, e₃, r₂, r₃⟩ := hsl
        exact ⟨rfl, hWk _ hw1 z.2.1, hWk _ hw2 z.2.2, ne, us, m, ws, m2, kw _ _ (.inl hw1) e₂ ⟨z.1, z.2.1⟩, kw _ _ (.inl hw2) e₃ ⟨Ne.symm z'.2.1, z.2.2⟩, r₂.change ch, r₃.change ch⟩
end
end Mine
namespace Mine

section
variable {X : Cx} {b : Bool} {k : Nat} {sc : Scope} {U W : Addr → Prop} {Γ Γ' Γ₁ Γ₂ : List (Option Slot)} {A : Around} {env : Env} {s : Shared} {r : Fl}

theorem eval_nil {p : Pos} {Q : Value → Shared → Prop} {E : Value → Shared → Prop} (q : Q (.ref s.heap.objs.size) { s with heap := s.heap.push (LObj [] 0) }) : wpAny (model X.prog X.w) A (eval (.List [] p) env) Q E s := by
  refine List_ ?_
  show wpAny _ _ (spliced []) _ _ _
  exact spliced_nil (wpAny_newObj_type q (Nat.zero_le _))

theorem S_own2new {x : Str} {p p1 p2 pos : Pos} {i : Nat} {kd : NameKind} (pt : Put sc.names Γ i x kd (.own2 [] []) Γ') (hkd : kd = .local ∨ kd = .cell := by decide) :
    Exec X k sc Γ (.Assign [.Name x p] (.List [.List [] p1] p2) pos) (.next Γ') := by
  intro U W A env s Q E R q
  refine wpAny_Assign_Name ?_ rfl
  refine List_ ?_
  show wpAny _ _ (spliced [(false, eval (.List [] p1) env)]) _ _ _
  refine spliced_cons (eval_nil (spliced_nil (wpAny_newObj_type ?_ (by show 1 ≤ sizeLine; decide))))
  have e1 : (s.heap.push (LObj [] 0)).get? s.heap.objs.size = some (LObj [] 0) := Heap.get?_push_size _ rfl
  obtain ⟨ad, bd, V⟩ := R.vars
  obtain ⟨R₁, V₁⟩ := R.grow (tk := s.toks) (.push R.tab (LObj [] 0)) (Nat.le_refl _) e1 V
  have e2 : ((s.heap.push (LObj [] 0)).push (LObj [.ref s.heap.objs.size] 0)).get? (s.heap.push (LObj [] 0)).objs.size = some (LObj [.ref s.heap.objs.size] 0) := Heap.get?_push_size _ rfl
  obtain ⟨R₂, V₂⟩ := R₁.grow (tk := s.toks) (.push R₁.tab (LObj [.ref s.heap.objs.size] 0)) (Nat.le_refl _) e2 V₁
  have sz1 : (s.heap.push (LObj [] 0)).objs.size = s.heap.objs.size + 1 := Heap.size_push ..
  have hne : (s.heap.push (LObj [] 0)).objs.size ≠ s.heap.objs.size := by rw [sz1]; exact Nat.succ_ne_self _
  refine R₂.store (a := (s.heap.push (LObj [] 0)).objs.size) (c := s.heap.objs.size) (sl := .own2 [] []) V₂ pt hkd ⟨rfl, .inr rfl, .inl (.inr rfl), hne, [], 0, [], 0, e2, Heap.get?_push_of_some _ e1, .nil, .nil⟩ (fun _ j pj sl' hj en e' o' => ?_) fun h₃ t₃ R₃ kp sz => ?_
  · obtain ⟨v, _, hq⟩ := V.2 j pj.1 pj.2 sl' en e'
    have h1 := R.Wlt _ (slot_obj hq o').1
    have h2 := R.Wlt _ (slot_obj' hq o')
    have g1 : s.heap.objs.size ≤ (s.heap.push (LObj [] 0)).objs.size := by rw [sz1]; exact Nat.le_succ _
    exact ⟨fun z => Nat.not_lt.mpr (z ▸ g1) h1, fun z => Nat.not_lt.mpr (z ▸ g1) h2, fun z => Nat.lt_irrefl _ (z ▸ h1), fun z => Nat.lt_irrefl _ (z ▸ h2)⟩
  · refine q _ h₃ t₃ R₃ ⟨fun y hy => ?_, fun b o e nW nt => ?_, ?_⟩
    · rcases hy with (z | z) | z
      · exact .inl z
      · exact .inr (by rw [z]; exact Nat.le_refl _)
      · exact .inr (by rw [z, sz1]; exact Nat.le_succ _)
    · refine kp b o (Heap.get?_push_of_some _ (Heap.get?_push_of_some _ e)) fun z => ?_
      have hlt := Heap.lt_size e
      rcases z with (z | z) | z
      · exact nW z
      · exact absurd hlt (Nat.not_lt.mpr (by rw [z]; exact Nat.le_refl _))
      · exact absurd hlt (Nat.not_lt.mpr (by rw [z, sz1]; exact Nat.le_succ _))
    · refine Nat.le_trans ?_ sz
      show s.heap.objs.size ≤ ((s.heap.push _).push _).objs.size
      rw [Heap.size_push, sz1]; omega

theorem S_own2push {i : Nat} {x : Str} {kd : NameKind} {l last : List AV} {np apos p1 pos spos : Pos} {pl : Env → Sem Bool}
    (L : Look sc.names Γ i x kd (.own2 l last)) (hsz : l.length + 1 ≤ sizeLine) (p : Put sc.names Γ i x kd (.own2 (l ++ [.list last]) []) Γ')
    (he : ∀ env, eval (.Call (.Attribute (.Name x np) ("append" : Str) apos) [.List [] p1] [] pos) env = (do
      let ov ← eval (.Name x np) env
      standAt apos.atName
      let (f, first) ← holding [ov] (getMethod ov ("append" : Str) (pl env))
      callWith pos f first (backTo pos (starEach [.List [] p1] env)) (backToKw pos (keywordEach [] env))) := by intro _; rfl)
    (hs : ∀ env, swapsWith (.Call (.Attribute (.Name x np) ("append" : Str) apos) [.List [] p1] [] pos) none spos.line env = pure false := by intro _; rfl) :
    Exec X k sc Γ (.Expr (.Call (.Attribute (.Name x np) ("append" : Str) apos) [.List [] p1] [] pos) spos) (.next Γ') := by
  intro U W A env s Q E R q
  obtain ⟨a, c, vs, n, us, m, hwa, hwc, hne, ea, ec, hr, hr2, ld, mt⟩ := R.own2_at L
  refine wpAny_Expr ?_ (interactive_fn R.isFn) (hs env)
  refine methodCall_KW (pl := pl env) (wpAny_Name (ld _ _ ?_) (R.dbg L.at.1).1) (he env)
  refine getMethod_list_append ea rfl rfl ?_
  refine callWith_builtin rfl ?_
  show wpAny _ _ (evalArgs _ true [(false, eval (.List [] p1) env)] []) _ _ _
  refine evalArgs_plain (spliced_cons (eval_nil (spliced_nil ?_)))
  have e1 : (s.heap.push (LObj [] 0)).get? s.heap.objs.size = some (LObj [] 0) := Heap.get?_push_size _ rfl
  have ea1 : (s.heap.push (LObj [] 0)).get? a = some (LObj (vs ++ [.ref c]) n) := Heap.get?_push_of_some _ ea
  have hlen := hr.length
  have hac : a ≠ s.heap.objs.size := Nat.ne_of_lt (Heap.lt_size ea)
  obtain ⟨n', e3⟩ := upd_list (vs' := (vs ++ [.ref c]) ++ [.ref s.heap.objs.size]) ea1 (fun xs => xs.push (Value.ref s.heap.objs.size)) (by simp)
  refine call_meets slot_list_append ⟨_, ea1, rfl⟩ entry_list_append (args_list_append _ _) (PySem.list_append a (vs ++ [Value.ref c]).toArray n (.ref s.heap.objs.size) (by simp [hlen]; exact hsz)) ⟨ea1, ?_⟩
  have k3 : ∀ b o, s.heap.get? b = some o → b ≠ a → ((s.heap.push (LObj [] 0)).update a (Obj.mapSeq fun xs => xs.push (Value.ref s.heap.objs.size))).get? b = some o := fun b o e nb => by
    rw [Heap.get?_update_other _ _ (Ne.symm nb)]; exact Heap.get?_push_of_some _ e
  have sz3 : ((s.heap.push (LObj [] 0)).update a (Obj.mapSeq fun xs => xs.push (Value.ref s.heap.objs.size))).objs.size = s.heap.objs.size + 1 := by rw [Heap.size_after_update, Heap.size_push]
  have hWsub : ∀ y, (W y ∧ y ≠ c) ∨ y = s.heap.objs.size → W y ∨ s.heap.objs.size ≤ y := fun y hy => hy.imp (·.1) fun z => by rw [z]; exact Nat.le_refl _
  have ch : ∀ b o, s.heap.get? b = some o → ¬ (UW U W) b → ((s.heap.push (LObj [] 0)).update a (Obj.mapSeq fun xs => xs.push (Value.ref s.heap.objs.size))).get? b = some o ∧ ¬ (UW U fun y => (W y ∧ y ≠ c) ∨ y = s.heap.objs.size) b := fun b o e nb => ⟨k3 b o e (fun z => nb (.inr (z ▸ hwa))), fun z => by
    rcases z with z | z
    · exact nb (.inl z)
    · rcases hWsub b z with z | z
      · exact nb (.inr z)
      · exact absurd (Heap.lt_size e) (Nat.not_lt.mpr z)⟩
  have hcl : VR X.prog X.w (UW U fun y => (W y ∧ y ≠ c) ∨ y = s.heap.objs.size) ((s.heap.push (LObj [] 0)).update a (Obj.mapSeq fun xs => xs.push (Value.ref s.heap.objs.size))) (.ref c) (.list last) := by
    refine .list (fun z => ?_) (k3 _ _ ec (Ne.symm hne)) (hr2.change ch)
    rcases z with z | z | z
    · exact R.dis c hwc z
    · exact z.2 rfl
    · exact absurd (R.Wlt c hwc) (Nat.not_lt.mpr (by rw [z]; exact Nat.le_refl _))
  obtain ⟨R₃, cg⟩ := mt _ s.toks s.heap.objs.size (l ++ [.list last]) [] (vs ++ [.ref c]) n' [] 0 (fun y => (W y ∧ y ≠ c) ∨ y = s.heap.objs.size) Γ' p (fun b o e na _ _ => k3 b o e na) (by rw [sz3]; exact Nat.le_succ _)
    (TabOk.but R (R.tab.ext fun _ _ e => Heap.get?_push_of_some _ e) ea1 (R.Wt hwa) fun b o e nb => by rw [Heap.get?_update_other _ _ (Ne.symm nb)]; exact e)
    (fun y => ⟨fun h => h.imp (fun z => ⟨z.1, fun q => absurd q z.2⟩) id, fun h => h.imp (fun z => ⟨z.1, fun q => by
      have := z.2 q
      exact absurd (R.Wlt c hwc) (Nat.not_lt.mpr (by rw [this]; exact Nat.le_refl _))⟩) id⟩) (.inr ⟨Nat.le_refl _, by rw [sz3]; exact Nat.lt_succ_self _⟩)
    e3 (by rw [Heap.get?_update_other _ _ hac]; exact e1) ((hr.change ch).append (.cons hcl .nil)) .nil
  exact q _ _ _ R₃ cg

theorem S_own2app {i : Nat} {x : Str} {kd : NameKind} {l last : List AV} {av : AV} {e ei : Expr} {np sp apos pos spos : Pos} {pl : Env → Sem Bool}
    (L : Look sc.names Γ i x kd (.own2 l last)) (hi : Evals X false k sc Γ ei (.int (-1))) (h1 : Evals X true k sc Γ e av) (hsz : last.length ≤ sizeLine) (hll : l.length < 2 ^ 40) (p : Put sc.names Γ i x kd (.own2 l (last ++ [av])) Γ')
    (he : ∀ env, eval (.Call (.Attribute (.Subscript (.Name x np) ei sp) ("append" : Str) apos) [e] [] pos) env = (do
      let ov ← eval (.Subscript (.Name x np) ei sp) env
      standAt apos.atName
      let (f, first) ← holding [ov] (getMethod ov ("append" : Str) (pl env))
      callWith pos f first (backTo pos (starEach [e] env)) (backToKw pos (keywordEach [] env))) := by intro _; rfl)
    (hs : ∀ env, swapsWith (.Call (.Attribute (.Subscript (.Name x np) ei sp) ("append" : Str) apos) [e] [] pos) none spos.line env = pure false := by intro _; rfl)
    (hsub : ∀ o i, subscripted ei false o i = operate [o, i] (getItem o i) := by intro _ _; with_unfolding_all rfl) (hns : ∀ env, (backTo pos (starEach [e] env)).any (·.1) = false := by intro _; rfl) (hst : ∀ env, starEach [e] env = [(false, eval e env)] := by intro _; rfl) (hbt : ∀ env, backTo pos [(false, eval e env)] = [(false, eval e env)] := by intro _; rfl) :
    Exec X k sc Γ (.Expr (.Call (.Attribute (.Subscript (.Name x np) ei sp) ("append" : Str) apos) [e] [] pos) spos) (.next Γ') := by
  intro U W A env s Q E R q
  refine wpAny_Expr ?_ (interactive_fn R.isFn) (hs env)
  obtain ⟨a, c, vs, n, us, m, hwa, hwc, hne, ea, ec, hr, hr2, ld, mt⟩ := R.own2_at L
  refine methodCall_KW (pl := pl env) (Subscript_ (wpAny_Name (ld _ _ ?_) (R.dbg L.at.1).1)) (he env)
  refine hi R fun u h₁ t₁ a₁ q₁ => ?_
  obtain ⟨t, rfl⟩ := q₁.int
  have R₁ := R.after (tk := t₁) a₁
  have ea1 := a₁.keep _ _ ea (R.Wt hwa)
  have ec1 := a₁.keep _ _ ec (R.Wt hwc)
  have hlen := hr.length
  refine tail_any (LObj.isList ea1).typeIs slot_list_getitem.lookup (wpAny_getItem_list_neg (LObj.isList ea1) (by decide) (by simp; omega) (by decide) (x := .ref c) (by
    have h9 : (-1 + (((vs ++ [Value.ref c]).toArray.size : Nat) : Int)).toNat = vs.length := by simp only [List.size_toArray, List.length_append, List.length_cons, List.length_nil]; omega
    rw [h9]; simp) ?_) (hsub _ _)
  refine getMethod_list_append ec1 rfl rfl ?_
  refine callWith_builtin (hns env) ?_
  rw [hst, hbt]
  refine evalArgs_plain (spliced_cons (h1 R₁ fun v h₂ t₂ a₂ q₂ => spliced_nil ?_))
  have a' := a₁.trans a₂
  have ea2 := a₂.keep _ _ ea1 (R.Wt hwa)
  have ec2 := a₂.keep _ _ ec1 (R.Wt hwc)
  have hlen2 := hr2.length
  obtain ⟨m', e3⟩ := upd_list (vs' := us ++ [v]) ec2 (fun xs => xs.push v) (by simp)
  refine call_meets slot_list_append ⟨_, ec2, rfl⟩ entry_list_append (args_list_append _ _) (PySem.list_append c us.toArray m v (by simpa [hlen2] using hsz)) ⟨ec2, ?_⟩
  have k3 : ∀ b o, s.heap.get? b = some o → b ≠ c → b ∉ tabs → (h₂.update c (Obj.mapSeq fun xs => xs.push v)).get? b = some o := fun b o e nb nt => by
    rw [Heap.get?_update_other _ _ (Ne.symm nb)]; exact a'.keep b o e nt
  have chg : ∀ b o, s.heap.get? b = some o → ¬ (UW U W) b → (h₂.update c (Obj.mapSeq fun xs => xs.push v)).get? b = some o ∧ ¬ (UW U W) b := fun b o e nb => ⟨k3 b o e (fun z => nb (.inr (z ▸ hwc))) (fun z => nb (.inl (R.Ut b z))), nb⟩
  have hv : VR X.prog X.w (UW U W) (h₂.update c (Obj.mapSeq fun xs => xs.push v)) v av := q₂.vr.change fun b o e nb => ⟨by rw [Heap.get?_update_other _ _ (fun (z : c = b) => nb (.inr (z ▸ hwc)))]; exact e, nb⟩
  obtain ⟨R₃, cg⟩ := mt _ t₂ c l (last ++ [av]) vs n (us ++ [v]) m' W Γ' p (fun b o e _ nc nt => k3 b o e nc nt) (by rw [Heap.size_after_update]; exact a'.size)
    (TabOk.but R a₂.tab ec2 (R.Wt hwc) fun b o e nb => by rw [Heap.get?_update_other _ _ (Ne.symm nb)]; exact e)
    (fun y => ⟨fun h => .inl ⟨h, fun _ => rfl⟩, fun h => h.elim (·.1) fun z => z ▸ hwc⟩) (.inl rfl) (by rw [Heap.get?_update_other _ _ (Ne.symm hne)]; exact ea2) e3 (hr.change chg) ((hr2.change chg).append (.cons hv .nil))
  exact q _ _ _ R₃ cg

theorem S_retOwn2 {i : Nat} {x : Str} {kd : NameKind} {l last : List AV} {ei : Expr} {np sp pos pos' : Pos} (L : Look sc.names Γ i x kd (.own2 l last)) (hi : Evals X false k sc Γ ei (.int (-1))) (hsz : l.length + 1 ≤ sizeLine) :
    Exec X k sc Γ (.Return (some (.Subscript (.Name x np) (.Slice none (some ei) none sp) pos)) pos') (.ret (.list l)) := by
  intro U W A env s Q E R q
  refine wpAny_Return_some ?_
  obtain ⟨a, c, vs, n, us, m, hwa, hwc, hne, ea, ec, hr, hr2, ld, mt⟩ := R.own2_at L
  refine Subscript_ (wpAny_Name (ld _ _ ?_) (R.dbg L.at.1).1)
  refine wpAny_Slice (part_step .none R fun u h₁ t₁ a₁ q₁ => part_step (.some hi) (R.after a₁) fun u' h₂ t₂ a₂ q₂ => ?_)
  rw [evalPart_none]
  refine wpAny_pure ?_
  have a' := a₁.trans a₂
  have ea2 := a'.keep _ _ ea (R.Wt hwa)
  have hl : Heap.IsList h₂ a (vs ++ [Value.ref c]).toArray := LObj.isList ea2
  have hlen := hr.length
  refine tail_any (Heap.IsList.typeIs (s := { s with heap := h₂.push _, toks := t₂ }) (hl.push _)) list_getitem_lookup (ops := [.ref h₂.objs.size, .ref a]) (wpAny_getItem_list_slice (hl.push _) (Heap.IsSliceOf.new ..) q₁ q₂ .none (by simp) ?_ (by simpa [hlen] using hsz)) (by with_unfolding_all rfl)
  have e5 : slicePick (vs ++ [Value.ref c]).toArray none (some (-1)) none = vs.toArray := by
    have := slicePick_butLast (vs ++ [Value.ref c]).toArray 1 (Nat.le_refl _)
    rw [show ((-1 : Int)) = -((1 : Nat) : Int) from rfl, this]
    simp
  rw [e5]
  have sz1 : (h₂.push ({ cls := .type "slice", data := .fields #[u, u', .none] } : Obj)).objs.size = h₂.objs.size + 1 := Heap.size_push ..
  have kp : ∀ b x, h₂.get? b = some x → ((h₂.push ({ cls := .type "slice", data := .fields #[u, u', .none] } : Obj)).push ({ cls := .type "list", data := .seq vs.toArray } : Obj)).get? b = some x := fun b x e => Heap.get?_push_of_some _ (Heap.get?_push_of_some _ e)
  refine q W _ _ _ ⟨fun _ h => .inl h, fun b o e nW nt => kp b o (a'.keep b o e nt), ?_⟩ ((a'.tab.ext kp).sub fun _ h => .inl h) ?_
  · show s.heap.objs.size ≤ ((h₂.push _).push _).objs.size
    rw [Heap.size_push, sz1]; exact Nat.le_trans a'.size (by omega)
  · refine .list (fun z => ?_) (Heap.get?_push_size _ rfl) ?_
    · have h1 : (h₂.push ({ cls := .type "slice", data := .fields #[u, u', .none] } : Obj)).objs.size < s.heap.objs.size := R.Ult _ z
      rw [sz1] at h1
      exact absurd h1 (Nat.not_lt.mpr (Nat.le_succ_of_le a'.size))
    · exact hr.change fun b o e nb => ⟨kp b o (a'.keep b o e fun z => nb (.inl (R.Ut b z))), fun z => nb (.inl z)⟩
end
end Mine
namespace Mine

/-- a def of the text, at its place, with what its defaults hold -/
noncomputable def FnX (X : Cx) (a : Addr) (n : Nat) (dV kV : Value) : Prop :=
  ∃ name qual doc pm cdv ct o, X.hb.get? a = some o ∧ o.data = .func (fnX name qual (fparams n) (fbody n) (fscope n) [] dV kV doc pm none cdv ct) ∧ X.hb.CodeRec cdv qual ∧ ∀ a q, codeFor (fscope n) = some (a, q) → cdv = .ref a ∧ qual = q

structure ScOk (sc : Scope) : Prop where
  kind : sc.kind = .function
  nod : (sc.names.map (·.1)).Nodup
  ndb : ∀ p ∈ sc.names, (p.1 == ("__debug__" : Str)) = false ∧ (p.1 == ("__classdict__" : Str)) = false
  nco : sc.isCoroutine = false
  ngen : sc.isGenerator = false
  nofr : ∀ p ∈ sc.names, p.2 ≠ .free

noncomputable def scOk (sc : Scope) : Bool := sc.kind == .function && decide (sc.names.map (·.1)).Nodup && (sc.names.all fun p => !(p.1 == ("__debug__" : Str)) && !(p.1 == ("__classdict__" : Str)) && p.2 != .free) && !sc.isCoroutine && !sc.isGenerator
theorem ScOk.of {sc : Scope} (h : scOk sc = true) : ScOk sc := by
  unfold scOk at h
  simp only [Bool.and_eq_true, List.all_eq_true, Bool.not_eq_true', decide_eq_true_eq, bne_iff_ne] at h
  obtain ⟨⟨⟨⟨h1, h2⟩, h3⟩, h4⟩, h5⟩ := h
  exact ⟨eq_of_beq h1, h2, fun p hp => (h3 p hp).1, h4, h5, fun p hp => (h3 p hp).2⟩

theorem FnX.at {X : Cx} {a : Addr} {n : Nat} {dV kV : Value} (f : FnX X a n dV kV) (h : ScOk (fscope n)) : ∃ name qual doc pm cdv ct, FnAt X a name (fparams n) (fbody n) (fscope n) (fnX name qual (fparams n) (fbody n) (fscope n) [] dV kV doc pm none cdv ct) := by
  obtain ⟨name, qual, doc, pm, cdv, ct, o, ho, hd, hc, hcd⟩ := f
  exact ⟨name, qual, doc, pm, cdv, ct, ⟨o, ho, hd⟩, rfl, rfl, rfl, rfl, rfl, rfl, hc, h.kind, h.nod, h.ndb, h.nco, h.ngen, h.nofr, hcd⟩

/-- arguments by place, none left out -/
noncomputable def PosBind (n m : Nat) : Prop := ∀ (vs : List Value), vs.length = m → ∀ name qual dV kV doc pm cdv ct, dV = Value.none → bindArgs (fnX name qual (fparams n) (fbody n) (fscope n) [] dV kV doc pm none cdv ct) ⟨vs, []⟩ = pure ((((fscope n).names.take m).map (·.1)).zip vs)

theorem sc70 : ScOk (fscope 70) := .of (by decide +kernel)
theorem sc75 : ScOk (fscope 75) := .of (by decide +kernel)
theorem pb70 : PosBind 70 1 := by
  intro vs h name qual dV kV doc pm cdv ct hd
  subst hd
  obtain ⟨v, rfl⟩ := ofLen1 h
  rfl
theorem pb75 : PosBind 75 1 := by
  intro vs h name qual dV kV doc pm cdv ct hd
  subst hd
  obtain ⟨v, rfl⟩ := ofLen1 h
  rfl

theorem VBs.length {b : Bool} {prog : Program} {w : World} {U W : Addr → Prop} {h : Heap} : ∀ {vs : List Value} {as : List AV}, VBs b prog w U W h vs as → vs.length = as.length
 := by
  intro vs as r
  induction r with
  | nil => rfl
  | cons _ _ ih => exact congrArg (· + 1) ih

/-- the contract of a def with places alone, from its body -/
theorem borFn {X : Cx} {a : Addr} {n k m : Nat} {kV : Value} {as : List AV} {c : AV} (f : FnX X a n .none kV) (h : ScOk (fscope n)) (pb : PosBind n m) (hm : as.length = m) (hlim : X.hb.NoLimit) (hc : Atom c) (hkd : ((fscope n).names.take m).all (fun p => p.2 == .local || p.2 == .cell) = true)
    (hle : m ≤ (fscope n).names.length) (hx : Execs X k (fscope n) (as.map fun x => some (.val x)) (fbody n) (.ret c)) : CallV X (k + 1) false (.ref a) as [] c := by
  subst hm
  obtain ⟨name, qual, doc, pm, cdv, ct, F⟩ := f.at h
  refine call_bor F hlim hc (as0 := as) (fun {U W s vs ks} _ hv hk => ?_) (fun p hp => ?_) hle hx
  · cases hk
    exact ⟨vs, .of_eq (pb vs hv.length _ _ _ _ _ _ _ _ rfl), hv⟩
  · have := List.all_eq_true.mp hkd p hp
    simpa using this
theorem ownFn {X : Cx} {a : Addr} {n k m : Nat} {kV : Value} {as : List AV} {c : AV} (f : FnX X a n .none kV) (h : ScOk (fscope n)) (pb : PosBind n m) (hm : as.length = m) (hlim : X.hb.NoLimit) (hkd : ((fscope n).names.take m).all (fun p => p.2 == .local || p.2 == .cell) = true)
    (hle : m ≤ (fscope n).names.length) (hx : Execs X k (fscope n) (as.map fun x => some (.val x)) (fbody n) (.ret c)) : CallV X (k + 1) true (.ref a) as [] c := by
  subst hm
  obtain ⟨name, qual, doc, pm, cdv, ct, F⟩ := f.at h
  refine call_fn F hlim (as0 := as) (fun {U W s vs ks} _ hv hk => ?_) (fun p hp => ?_) hle hx
  · cases hk
    exact ⟨vs, .of_eq (pb vs hv.length _ _ _ _ _ _ _ _ rfl), hv.vrs⟩
  · have := List.all_eq_true.mp hkd p hp
    simpa using this

noncomputable def globTab : List (Str × Value) := [(("insort_right" : Str), .ref 40), (("bisect_right" : Str), .ref 49), (("insort_left" : Str), .ref 58), (("bisect_left" : Str), .ref 67), (("_div2n1n" : Str), .ref 74), (("_int2digits" : Str), .ref 88), (("_digits2int" : Str), .ref 95), (("_divmod_pos" : Str), .ref 102), (("int_divmod" : Str), .ref 109), (("_twin_re_1" : Str), .ref 114), (("_twin_re_2" : Str), .ref 119), (("quotedata" : Str), .ref 126), (("EXACT_TOKEN_TYPES" : Str), .ref 127), (("ISEOF" : Str), .ref 136), (("_law_symbols" : Str), .ref 143), (("_law_meant" : Str), .ref 150), (("_law_streams" : Str), .ref 157), (("_law_count" : Str), .ref 164), (("_law_followed" : Str), .ref 169), (("_law_joined" : Str), .ref 174), (("len" : Str), .builtin "len"), (("sum" : Str), .builtin "sum"), (("sorted" : Str), .builtin "sorted"), (("divmod" : Str), .builtin "divmod"), (("range" : Str), .type "range"), (("reversed" : Str), .type "reversed"), (("list" : Str), .type "list")]
noncomputable def fnTab : List (Addr × Nat × Value × Value) := [(40, 2, .ref 32, .ref 33), (49, 3, .ref 41, .ref 42), (58, 4, .ref 50, .ref 51), (67, 5, .ref 59, .ref 60), (74, 8, .none, .none), (88, 10, .none, .none), (95, 11, .none, .none), (102, 12, .none, .none), (109, 13, .none, .none), (126, 18, .none, .none), (136, 70, .none, .none), (143, 72, .none, .none), (150, 73, .none, .none), (157, 74, .none, .none), (164, 75, .none, .none), (169, 76, .none, .none), (174, 77, .none, .none)]
noncomputable def tokTab : List (Str × Int) := [(("!" : Str), 54), (("!=" : Str), 28), (("%" : Str), 24), (("%=" : Str), 40), (("&" : Str), 19), (("&=" : Str), 41), (("(" : Str), 7), ((")" : Str), 8), (("*" : Str), 16), (("**" : Str), 35), (("**=" : Str), 46), (("*=" : Str), 38), (("+" : Str), 14), (("+=" : Str), 36), (("," : Str), 12), (("-" : Str), 15), (("-=" : Str), 37), (("->" : Str), 51), (("." : Str), 23), (("..." : Str), 52), (("/" : Str), 17), (("//" : Str), 47), (("//=" : Str), 48), (("/=" : Str), 39), ((":" : Str), 11), ((":=" : Str), 53), ((";" : Str), 13), (("<" : Str), 20), (("<<" : Str), 33), (("<<=" : Str), 44), (("<=" : Str), 29), (("=" : Str), 22), (("==" : Str), 27), ((">" : Str), 21), ((">=" : Str), 30), ((">>" : Str), 34), ((">>=" : Str), 45), (("@" : Str), 49), (("@=" : Str), 50), (("[" : Str), 9), (("]" : Str), 10), (("^" : Str), 32), (("^=" : Str), 43), (("{" : Str), 25), (("|" : Str), 18), (("|=" : Str), 42), (("}" : Str), 26), (("~" : Str), 31)]
noncomputable def tokDat : List (Str × KTD.Dat) := tokTab.map fun p => (p.1, .flat (.int p.2))

noncomputable abbrev kwObj (hs : Int) (t : Tok) (ep : Nat) : Obj := { cls := .type "dict", data := .dict #[{ hash := hs, key := .str ("key" : Str) t, val := .none }] ep }

noncomputable def posOf : Option Stmt → Pos
  | some (.FunctionDef _ _ _ _ _ _ _ _ _ pos) => pos
  | _ => ⟨0, 0, 0, 0⟩
noncomputable def lamOf : Option Stmt → Arguments × Expr × Scope × Pos
  | some (.If (.Compare _ _ [.Call _ _ [⟨_, .Lambda a e s p, _⟩] _] _) _ _ _) => (a, e, s, p)
  | _ => ({ posonlyargs := [], args := [], vararg := none, kwonlyargs := [], kw_defaults := [], kwarg := none, defaults := [] }, .Constant .none 0 ⟨0, 0, 0, 0⟩, { kind := .function, names := [], isGenerator := false, isCoroutine := false }, ⟨0, 0, 0, 0⟩)
/-- the nested functions: table, place in the text, full name -/
noncomputable def tabT : List (Addr × Pos × Str) := [(90, posOf (fbody 11)[0]?, ("_digits2int" : Str) ++ (".<locals>." : Str) ++ ("inner" : Str)), (83, posOf (fbody 10)[1]?, ("_int2digits" : Str) ++ (".<locals>." : Str) ++ ("inner" : Str)), (166, (lamOf (fbody 76)[7]?).2.2.2, ("_law_followed" : Str) ++ (".<locals>." : Str) ++ ("<lambda>" : Str))]

/-- what the text's top leaves, as the walk uses it -/
structure Facts (X : Cx) : Prop where
  nolim : X.hb.NoLimit
  endm : ∃ t, GlobIs X ("ENDMARKER" : Str) (.int 0 t)
  divl : ∃ t, GlobIs X ("_DIV_LIMIT" : Str) (.int 4000 t)
  crlf : ∃ t, GlobIs X ("CRLF" : Str) (.str ("\r\n" : Str) t)
  gl : ∀ p ∈ globTab, GlobIs X p.1 p.2
  fns : ∀ p ∈ fnTab, FnX X p.1 p.2.1 p.2.2.1 p.2.2.2
  dflt : ∀ p ∈ ([(32, 33), (41, 42), (50, 51), (59, 60)] : List (Addr × Addr)), (∃ t n, X.hb.get? p.1 = some (TObj [.int 0 t, .none] n)) ∧ ∃ hs t ep, X.hb.get? p.2 = some (kwObj hs t ep)
  tok : KTD.TextTab X.hb 127 tokDat
  tT : X.T = tabT
  cds : ∀ p ∈ ([(94, 90), (87, 83), (168, 166)] : List (Addr × Addr)), CodeHd X.hb p.1 p.2
  mgA : ∃ mg, X.hb.Ns mainGlobals mg ∧ ∀ P ∈ tabs, X.hb.BuiltinsAt mg P

/-- facts of a heap hold in one that has more -/
theorem FnX.mono {X X' : Cx} (hm : ∀ b o, X.hb.get? b = some o → X'.hb.get? b = some o) {a : Addr} {n : Nat} {dV kV : Value} (f : FnX X a n dV kV) : FnX X' a n dV kV := by
  obtain ⟨name, qual, doc, pm, cdv, ct, o, ho, hd, ⟨c', oc, us, tq, hc, hoc, r⟩, hcd⟩ := f
  exact ⟨name, qual, doc, pm, cdv, ct, o, hm _ _ ho, hd, ⟨c', oc, us, tq, hc, hm _ _ hoc, r⟩, hcd⟩
theorem GlobIs.mono {X X' : Cx} (hm : ∀ b o, X.hb.get? b = some o → X'.hb.get? b = some o) {x : Str} {v : Value} (g : GlobIs X x v) : GlobIs X' x v := by
  obtain ⟨mg, mb, h1, h2, h3⟩ := g
  exact ⟨mg, mb, h1.keeps hm, h2.keeps hm, h3⟩
theorem Facts.mono {X X' : Cx} (F : Facts X) (hm : ∀ b o, X.hb.get? b = some o → X'.hb.get? b = some o) (hT : X'.T = X.T) : Facts X' where
  nolim := F.nolim.keeps hm
  endm := let ⟨t, g⟩ := F.endm; ⟨t, g.mono hm⟩
  divl := let ⟨t, g⟩ := F.divl; ⟨t, g.mono hm⟩
  crlf := let ⟨t, g⟩ := F.crlf; ⟨t, g.mono hm⟩
  gl := fun p hp => (F.gl p hp).mono hm
  fns := fun p hp => (F.fns p hp).mono hm
  dflt := fun p hp => by
    obtain ⟨⟨t, n, h1⟩, hs, t2, ep, h2⟩ := F.dflt p hp
    exact ⟨⟨t, n, hm _ _ h1⟩, hs, t2, ep, hm _ _ h2⟩
  tok := F.tok.keep hm
  tT := hT.trans F.tT
  cds := fun p hp => (F.cds p hp).keeps hm
  mgA := let ⟨mg, g, h⟩ := F.mgA; ⟨mg, g.keeps hm, fun P hP => (h P hP).keeps hm⟩

section
variable {X : Cx} (F : Facts X)
include F
theorem Facts.g_insort_right : GlobIs X ("insort_right" : Str) (.ref 40) := F.gl _ (.head _)
theorem Facts.g_bisect_right : GlobIs X ("bisect_right" : Str) (.ref 49) := F.gl _ (.tail _ (.head _))
theorem Facts.g_insort_left : GlobIs X ("insort_left" : Str) (.ref 58) := F.gl _ (.tail _ (.tail _ (.head _)))
theorem Facts.g_bisect_left : GlobIs X ("bisect_left" : Str) (.ref 67) := F.gl _ (.tail _ (.tail _ (.tail _ (.head _))))
theorem Facts.g_div2n1n : GlobIs X ("_div2n1n" : Str) (.ref 74) := F.gl _ (.tail _ (.tail _ (.tail _ (.tail _ (.head _)))))
theorem Facts.g_int2digits : GlobIs X ("_int2digits" : Str) (.ref 88) := F.gl _ (.tail _ (.tail _ (.tail _ (.tail _ (.tail _ (.head _))))))
theorem Facts.g_digits2int : GlobIs X ("_digits2int" : Str) (.ref 95) := F.gl _ (.tail _ (.tail _ (.tail _ (.tail _ (.tail _ (.tail _ (.head _)))))))
theorem Facts.g_divmod_pos : GlobIs X ("_divmod_pos" : Str) (.ref 102) := F.gl _ (.tail _ (.tail _ (.tail _ (.tail _ (.tail _ (.tail _ (.tail _ (.head _))))))))
theorem Facts.g_int_divmod : GlobIs X ("int_divmod" : Str) (.ref 109) := F.gl _ (.tail _ (.tail _ (.tail _ (.tail _ (.tail _ (.tail _ (.tail _ (.tail _ (.head _)))))))))
theorem Facts.g_twin_re_1 : GlobIs X ("_twin_re_1" : Str) (.ref 114) := F.gl _ (.tail _ (.tail _ (.tail _ (.tail _ (.tail _ (.tail _ (.tail _ (.tail _ (.tail _ (.head _))))))))))
theorem Facts.g_twin_re_2 : GlobIs X ("_twin_re_2" : Str) (.ref 119) := F.gl _ (.tail _ (.tail _ (.tail _ (.tail _ (.tail _ (.tail _ (.tail _ (.tail _ (.tail _ (.tail _ (.head _)))))))))))
theorem Facts.g_quotedata : GlobIs X ("quotedata" : Str) (.ref 126) := F.gl _ (.tail _ (.tail _ (.tail _ (.tail _ (.tail _ (.tail _ (.tail _ (.tail _ (.tail _ (.tail _ (.tail _ (.head _))))))))))))
theorem Facts.g_EXACT_TOKEN_TYPES : GlobIs X ("EXACT_TOKEN_TYPES" : Str) (.ref 127) := F.gl _ (.tail _ (.tail _ (.tail _ (.tail _ (.tail _ (.tail _ (.tail _ (.tail _ (.tail _ (.tail _ (.tail _ (.tail _ (.head _)))))))))))))
theorem Facts.g_ISEOF : GlobIs X ("ISEOF" : Str) (.ref 136) := F.gl _ (.tail _ (.tail _ (.tail _ (.tail _ (.tail _ (.tail _ (.tail _ (.tail _ (.tail _ (.tail _ (.tail _ (.tail _ (.tail _ (.head _))))))))))))))
theorem Facts.g_law_symbols : GlobIs X ("_law_symbols" : Str) (.ref 143) := F.gl _ (.tail _ (.tail _ (.tail _ (.tail _ (.tail _ (.tail _ (.tail _ (.tail _ (.tail _ (.tail _ (.tail _ (.tail _ (.tail _ (.tail _ (.head _)))))))))))))))
theorem Facts.g_law_meant : GlobIs X ("_law_meant" : Str) (.ref 150) := F.gl _ (.tail _ (.tail _ (.tail _ (.tail _ (.tail _ (.tail _ (.tail _ (.tail _ (.tail _ (.tail _ (.tail _ (.tail _ (.tail _ (.tail _ (.tail _ (.head _))))))))))))))))
theorem Facts.g_law_streams : GlobIs X ("_law_streams" : Str) (.ref 157) := F.gl _ (.tail _ (.tail _ (.tail _ (.tail _ (.tail _ (.tail _ (.tail _ (.tail _ (.tail _ (.tail _ (.tail _ (.tail _ (.tail _ (.tail _ (.tail _ (.tail _ (.head _)))))))))))))))))
theorem Facts.g_law_count : GlobIs X ("_law_count" : Str) (.ref 164) := F.gl _ (.tail _ (.tail _ (.tail _ (.tail _ (.tail _ (.tail _ (.tail _ (.tail _ (.tail _ (.tail _ (.tail _ (.tail _ (.tail _ (.tail _ (.tail _ (.tail _ (.tail _ (.head _))))))))))))))))))
theorem Facts.g_law_followed : GlobIs X ("_law_followed" : Str) (.ref 169) := F.gl _ (.tail _ (.tail _ (.tail _ (.tail _ (.tail _ (.tail _ (.tail _ (.tail _ (.tail _ (.tail _ (.tail _ (.tail _ (.tail _ (.tail _ (.tail _ (.tail _ (.tail _ (.tail _ (.head _)))))))))))))))))))
theorem Facts.g_law_joined : GlobIs X ("_law_joined" : Str) (.ref 174) := F.gl _ (.tail _ (.tail _ (.tail _ (.tail _ (.tail _ (.tail _ (.tail _ (.tail _ (.tail _ (.tail _ (.tail _ (.tail _ (.tail _ (.tail _ (.tail _ (.tail _ (.tail _ (.tail _ (.tail _ (.head _))))))))))))))))))))
theorem Facts.g_len : GlobIs X ("len" : Str) (.builtin "len") := F.gl _ (.tail _ (.tail _ (.tail _ (.tail _ (.tail _ (.tail _ (.tail _ (.tail _ (.tail _ (.tail _ (.tail _ (.tail _ (.tail _ (.tail _ (.tail _ (.tail _ (.tail _ (.tail _ (.tail _ (.tail _ (.head _)))))))))))))))))))))
theorem Facts.g_sum : GlobIs X ("sum" : Str) (.builtin "sum") := F.gl _ (.tail _ (.tail _ (.tail _ (.tail _ (.tail _ (.tail _ (.tail _ (.tail _ (.tail _ (.tail _ (.tail _ (.tail _ (.tail _ (.tail _ (.tail _ (.tail _ (.tail _ (.tail _ (.tail _ (.tail _ (.tail _ (.head _))))))))))))))))))))))
theorem Facts.g_sorted : GlobIs X ("sorted" : Str) (.builtin "sorted") := F.gl _ (.tail _ (.tail _ (.tail _ (.tail _ (.tail _ (.tail _ (.tail _ (.tail _ (.tail _ (.tail _ (.tail _ (.tail _ (.tail _ (.tail _ (.tail _ (.tail _ (.tail _ (.tail _ (.tail _ (.tail _ (.tail _ (.tail _ (.head _)))))))))))))))))))))))
theorem Facts.g_divmod : GlobIs X ("divmod" : Str) (.builtin "divmod") := F.gl _ (.tail _ (.tail _ (.tail _ (.tail _ (.tail _ (.tail _ (.tail _ (.tail _ (.tail _ (.tail _ (.tail _ (.tail _ (.tail _ (.tail _ (.tail _ (.tail _ (.tail _ (.tail _ (.tail _ (.tail _ (.tail _ (.tail _ (.tail _ (.head _))))))))))))))))))))))))
theorem Facts.g_range : GlobIs X ("range" : Str) (.type "range") := F.gl _ (.tail _ (.tail _ (.tail _ (.tail _ (.tail _ (.tail _ (.tail _ (.tail _ (.tail _ (.tail _ (.tail _ (.tail _ (.tail _ (.tail _ (.tail _ (.tail _ (.tail _ (.tail _ (.tail _ (.tail _ (.tail _ (.tail _ (.tail _ (.tail _ (.head _)))))))))))))))))))))))))
theorem Facts.g_reversed : GlobIs X ("reversed" : Str) (.type "reversed") := F.gl _ (.tail _ (.tail _ (.tail _ (.tail _ (.tail _ (.tail _ (.tail _ (.tail _ (.tail _ (.tail _ (.tail _ (.tail _ (.tail _ (.tail _ (.tail _ (.tail _ (.tail _ (.tail _ (.tail _ (.tail _ (.tail _ (.tail _ (.tail _ (.tail _ (.tail _ (.head _))))))))))))))))))))))))))
theorem Facts.g_list : GlobIs X ("list" : Str) (.type "list") := F.gl _ (.tail _ (.tail _ (.tail _ (.tail _ (.tail _ (.tail _ (.tail _ (.tail _ (.tail _ (.tail _ (.tail _ (.tail _ (.tail _ (.tail _ (.tail _ (.tail _ (.tail _ (.tail _ (.tail _ (.tail _ (.tail _ (.tail _ (.tail _ (.tail _ (.tail _ (.tail _ (.head _)))))))))))))))))))))))))))
theorem Facts.f2 : FnX X 40 2 (.ref 32) (.ref 33) := F.fns _ (.head _)
theorem Facts.f3 : FnX X 49 3 (.ref 41) (.ref 42) := F.fns _ (.tail _ (.head _))
theorem Facts.f4 : FnX X 58 4 (.ref 50) (.ref 51) := F.fns _ (.tail _ (.tail _ (.head _)))
theorem Facts.f5 : FnX X 67 5 (.ref 59) (.ref 60) := F.fns _ (.tail _ (.tail _ (.tail _ (.head _))))
theorem Facts.f8 : FnX X 74 8 (.none) (.none) := F.fns _ (.tail _ (.tail _ (.tail _ (.tail _ (.head _)))))
theorem Facts.f10 : FnX X 88 10 (.none) (.none) := F.fns _ (.tail _ (.tail _ (.tail _ (.tail _ (.tail _ (.head _))))))
theorem Facts.f11 : FnX X 95 11 (.none) (.none) := F.fns _ (.tail _ (.tail _ (.tail _ (.tail _ (.tail _ (.tail _ (.head _)))))))
theorem Facts.f12 : FnX X 102 12 (.none) (.none) := F.fns _ (.tail _ (.tail _ (.tail _ (.tail _ (.tail _ (.tail _ (.tail _ (.head _))))))))
theorem Facts.f13 : FnX X 109 13 (.none) (.none) := F.fns _ (.tail _ (.tail _ (.tail _ (.tail _ (.tail _ (.tail _ (.tail _ (.tail _ (.head _)))))))))
theorem Facts.f18 : FnX X 126 18 (.none) (.none) := F.fns _ (.tail _ (.tail _ (.tail _ (.tail _ (.tail _ (.tail _ (.tail _ (.tail _ (.tail _ (.head _))))))))))
theorem Facts.f70 : FnX X 136 70 (.none) (.none) := F.fns _ (.tail _ (.tail _ (.tail _ (.tail _ (.tail _ (.tail _ (.tail _ (.tail _ (.tail _ (.tail _ (.head _)))))))))))
theorem Facts.f72 : FnX X 143 72 (.none) (.none) := F.fns _ (.tail _ (.tail _ (.tail _ (.tail _ (.tail _ (.tail _ (.tail _ (.tail _ (.tail _ (.tail _ (.tail _ (.head _))))))))))))
theorem Facts.f73 : FnX X 150 73 (.none) (.none) := F.fns _ (.tail _ (.tail _ (.tail _ (.tail _ (.tail _ (.tail _ (.tail _ (.tail _ (.tail _ (.tail _ (.tail _ (.tail _ (.head _)))))))))))))
theorem Facts.f74 : FnX X 157 74 (.none) (.none) := F.fns _ (.tail _ (.tail _ (.tail _ (.tail _ (.tail _ (.tail _ (.tail _ (.tail _ (.tail _ (.tail _ (.tail _ (.tail _ (.tail _ (.head _))))))))))))))
theorem Facts.f75 : FnX X 164 75 (.none) (.none) := F.fns _ (.tail _ (.tail _ (.tail _ (.tail _ (.tail _ (.tail _ (.tail _ (.tail _ (.tail _ (.tail _ (.tail _ (.tail _ (.tail _ (.tail _ (.head _)))))))))))))))
theorem Facts.f76 : FnX X 169 76 (.none) (.none) := F.fns _ (.tail _ (.tail _ (.tail _ (.tail _ (.tail _ (.tail _ (.tail _ (.tail _ (.tail _ (.tail _ (.tail _ (.tail _ (.tail _ (.tail _ (.tail _ (.head _))))))))))))))))
theorem Facts.f77 : FnX X 174 77 (.none) (.none) := F.fns _ (.tail _ (.tail _ (.tail _ (.tail _ (.tail _ (.tail _ (.tail _ (.tail _ (.tail _ (.tail _ (.tail _ (.tail _ (.tail _ (.tail _ (.tail _ (.tail _ (.head _)))))))))))))))))
end
theorem keep2 {X : Cx} (F : Facts X) : KeepF X (.ref 40) := by
  obtain ⟨_, _, _, _, _, _, o, ho, hd, _⟩ := F.f2
  exact .inl ⟨40, o, _, rfl, ho, hd⟩
theorem keep3 {X : Cx} (F : Facts X) : KeepF X (.ref 49) := by
  obtain ⟨_, _, _, _, _, _, o, ho, hd, _⟩ := F.f3
  exact .inl ⟨49, o, _, rfl, ho, hd⟩
theorem keep4 {X : Cx} (F : Facts X) : KeepF X (.ref 58) := by
  obtain ⟨_, _, _, _, _, _, o, ho, hd, _⟩ := F.f4
  exact .inl ⟨58, o, _, rfl, ho, hd⟩
theorem keep5 {X : Cx} (F : Facts X) : KeepF X (.ref 67) := by
  obtain ⟨_, _, _, _, _, _, o, ho, hd, _⟩ := F.f5
  exact .inl ⟨67, o, _, rfl, ho, hd⟩
theorem keep8 {X : Cx} (F : Facts X) : KeepF X (.ref 74) := by
  obtain ⟨_, _, _, _, _, _, o, ho, hd, _⟩ := F.f8
  exact .inl ⟨74, o, _, rfl, ho, hd⟩
theorem keep10 {X : Cx} (F : Facts X) : KeepF X (.ref 88) := by
  obtain ⟨_, _, _, _, _, _, o, ho, hd, _⟩ := F.f10
  exact .inl ⟨88, o, _, rfl, ho, hd⟩
theorem keep11 {X : Cx} (F : Facts X) : KeepF X (.ref 95) := by
  obtain ⟨_, _, _, _, _, _, o, ho, hd, _⟩ := F.f11
  exact .inl ⟨95, o, _, rfl, ho, hd⟩
theorem keep12 {X : Cx} (F : Facts X) : KeepF X (.ref 102) := by
  obtain ⟨_, _, _, _, _, _, o, ho, hd, _⟩ := F.f12
  exact .inl ⟨102, o, _, rfl, ho, hd⟩
theorem keep13 {X : Cx} (F : Facts X) : KeepF X (.ref 109) := by
  obtain ⟨_, _, _, _, _, _, o, ho, hd, _⟩ := F.f13
  exact .inl ⟨109, o, _, rfl, ho, hd⟩
theorem keep18 {X : Cx} (F : Facts X) : KeepF X (.ref 126) := by
  obtain ⟨_, _, _, _, _, _, o, ho, hd, _⟩ := F.f18
  exact .inl ⟨126, o, _, rfl, ho, hd⟩
theorem keep70 {X : Cx} (F : Facts X) : KeepF X (.ref 136) := by
  obtain ⟨_, _, _, _, _, _, o, ho, hd, _⟩ := F.f70
  exact .inl ⟨136, o, _, rfl, ho, hd⟩
theorem keep72 {X : Cx} (F : Facts X) : KeepF X (.ref 143) := by
  obtain ⟨_, _, _, _, _, _, o, ho, hd, _⟩ := F.f72
  exact .inl ⟨143, o, _, rfl, ho, hd⟩
theorem keep73 {X : Cx} (F : Facts X) : KeepF X (.ref 150) := by
  obtain ⟨_, _, _, _, _, _, o, ho, hd, _⟩ := F.f73
  exact .inl ⟨150, o, _, rfl, ho, hd⟩
theorem keep74 {X : Cx} (F : Facts X) : KeepF X (.ref 157) := by
  obtain ⟨_, _, _, _, _, _, o, ho, hd, _⟩ := F.f74
  exact .inl ⟨157, o, _, rfl, ho, hd⟩
theorem keep75 {X : Cx} (F : Facts X) : KeepF X (.ref 164) := by
  obtain ⟨_, _, _, _, _, _, o, ho, hd, _⟩ := F.f75
  exact .inl ⟨164, o, _, rfl, ho, hd⟩
theorem keep76 {X : Cx} (F : Facts X) : KeepF X (.ref 169) := by
  obtain ⟨_, _, _, _, _, _, o, ho, hd, _⟩ := F.f76
  exact .inl ⟨169, o, _, rfl, ho, hd⟩
theorem keep77 {X : Cx} (F : Facts X) : KeepF X (.ref 174) := by
  obtain ⟨_, _, _, _, _, _, o, ho, hd, _⟩ := F.f77
  exact .inl ⟨174, o, _, rfl, ho, hd⟩
theorem keepB {X : Cx} {id : String} : KeepF X (.builtin id) := .inr fun _ h => by cases h

theorem iseof_ok {X : Cx} {k : Nat} (F : Facts X) (x : Int) : CallV X (k + 1) false (.ref 136) [.int x] [] (.val (.bool (x == 0))) := by
  refine borFn F.f70 sc70 pb70 rfl F.nolim Atom.val (by decide +kernel) (by decide +kernel) ?_
  obtain ⟨t, ht⟩ := F.endm
  exact S_consR (S_ret (E_cmp (E_name .here) (E_glob (.nth 1 rfl) ht fun _ _ => .int _ _) C_eq))
theorem count_ok {X : Cx} {k : Nat} (F : Facts X) {l : List Int} {c : Int} (h : l[0]? = some c) : CallV X (k + 1) false (.ref 164) [.tup l] [] (.int c) := by
  refine borFn F.f75 sc75 pb75 rfl F.nolim Atom.int (by decide +kernel) (by decide +kernel) ?_
  exact S_consR (S_ret (E_sub (E_name .here) E_int (I_tup (i := 0) h (by decide))))
end Mine
namespace Mine

noncomputable def bisR (ks : List Int) (x : Int) : Nat → Nat → Nat → Nat
  | 0, lo, _ => lo
  | f + 1, lo, hi => if lo < hi then (if x < ks.getD ((lo + hi) / 2) 0 then bisR ks x f lo ((lo + hi) / 2) else bisR ks x f ((lo + hi) / 2 + 1) hi) else lo
noncomputable def bisL (ks : List Int) (x : Int) : Nat → Nat → Nat → Nat
  | 0, lo, _ => lo
  | f + 1, lo, hi => if lo < hi then (if ks.getD ((lo + hi) / 2) 0 < x then bisL ks x f ((lo + hi) / 2 + 1) hi else bisL ks x f lo ((lo + hi) / 2)) else lo

theorem fdiv2 (a b : Nat) : ((a : Int) + (b : Int)).fdiv 2 = (((a + b) / 2 : Nat) : Int) := by
  rw [← Int.natCast_add, Int.fdiv_eq_ediv_of_nonneg _ (by decide)]
  omega
theorem noPy {i j : Int} (h2 : j.natAbs < 2 ^ 20 := by omega) : Builtin.divisionGoesByPylong i j = false := PyProof.noPylong_small (by omega)

section
variable {X : Cx} {k : Nat}
theorem sc2 : ScOk (fscope 2) := .of (by decide +kernel)
theorem sc3 : ScOk (fscope 3) := .of (by decide +kernel)
theorem sc4 : ScOk (fscope 4) := .of (by decide +kernel)
theorem sc5 : ScOk (fscope 5) := .of (by decide +kernel)

theorem bindKwR {X : Cx} {s : Shared} {name qual : Str} {doc pm cdv ct : Value} {v1 v2 v3 v4 : Value} {dV kV : Addr} (hb : ∀ b o, X.hb.get? b = some o → s.heap.get? b = some o)
    (h : (∃ t n, X.hb.get? dV = some (TObj [.int 0 t, .none] n)) ∧ ∃ hs t ep, X.hb.get? kV = some (kwObj hs t ep)) :
    BindsTo s (fnX name qual (fparams 3) (fbody 3) (fscope 3) [] (.ref dV) (.ref kV) doc pm none cdv ct) ⟨[v1, v2, v3, v4], []⟩ ((((fscope 3).names.take 5).map (·.1)).zip [v1, v2, v3, v4, .none]) := by
  intro M A E Q hq Γ p hΓ
  obtain ⟨⟨t, m, ho⟩, hs, t', ep, hk⟩ := h
  exact ⟨_, hb _ _ ho, ⟨_, hb _ _ hk, hq⟩⟩
theorem bindKwI {X : Cx} {s : Shared} {name qual : Str} {doc pm cdv ct : Value} {v1 v2 : Value} {dV kV : Addr} (hb : ∀ b o, X.hb.get? b = some o → s.heap.get? b = some o)
    (h : (∃ t n, X.hb.get? dV = some (TObj [.int 0 t, .none] n)) ∧ ∃ hs t ep, X.hb.get? kV = some (kwObj hs t ep)) :
    ∃ t, BindsTo s (fnX name qual (fparams 2) (fbody 2) (fscope 2) [] (.ref dV) (.ref kV) doc pm none cdv ct) ⟨[v1, v2], []⟩ ((((fscope 2).names.take 5).map (·.1)).zip [v1, v2, .int 0 t, .none, .none]) := by
  obtain ⟨⟨t, m, ho⟩, hs, t', ep, hk⟩ := h
  exact ⟨t, fun M A E Q hq Γ p hΓ => ⟨_, hb _ _ ho, ⟨_, hb _ _ hk, hq⟩⟩⟩

noncomputable abbrev tups (rows : List (List Int)) : List AV := rows.map .tup
theorem tups_at {rows : List (List Int)} {i : Nat} (h : i < rows.length) : (tups rows)[i]? = some (.tup (rows.getD i [])) := by
  simp [List.getElem?_map, List.getD_eq_getElem?_getD, List.getElem?_eq_getElem h]
noncomputable abbrev keysOf (rows : List (List Int)) : List Int := rows.map fun r => r.getD 0 0
theorem keys_at {rows : List (List Int)} {i : Nat} (h : i < rows.length) : (keysOf rows).getD i 0 = (rows.getD i []).getD 0 0 := by
  simp [keysOf, List.getD_eq_getElem?_getD, List.getElem?_eq_getElem h]
theorem head_at {r : List Int} (h : r ≠ []) : r[0]? = some (r.getD 0 0) := by
  cases r with
  | nil => exact absurd rfl h
  | cons a r => rfl
theorem rows_ne {rows : List (List Int)} (hr : ∀ r ∈ rows, r ≠ []) {i : Nat} (h : i < rows.length) : rows.getD i [] ≠ [] := by
  rw [List.getD_eq_getElem?_getD, List.getElem?_eq_getElem h]
  exact hr _ (List.getElem_mem h)

theorem loopRK (F : Facts X) {rows : List (List Int)} {x : Int} (hr : ∀ r ∈ rows, r ≠ []) (hsz : rows.length < 2 ^ 40) : ∀ (f lo hi : Nat), hi ≤ rows.length → hi - lo ≤ f →
    ∃ hi' : Nat, Whiles X (k + 1) (fscope 3) [some (.val (.list (tups rows))), some (.val (.int x)), some (.val (.int (lo : Nat))), some (.val (.int (hi : Nat))), some (.val (.val (.ref 164))), none] (whOf (elseOf (fbody 3)[2]?)[0]?).1 (whOf (elseOf (fbody 3)[2]?)[0]?).2
      (.next [some (.val (.list (tups rows))), some (.val (.int x)), some (.val (.int (bisR (keysOf rows) x f lo hi : Nat))), some (.val (.int (hi' : Nat))), some (.val (.val (.ref 164))), none]) := by
  intro f
  induction f with
  | zero =>
    intro lo hi h1 h2
    exact ⟨hi, W_done (T_isnt (by simpa using Nat.le_of_sub_eq_zero (Nat.le_zero.mp h2)) (T_cmp (E_name (.nth 2 rfl)) (E_name (.nth 3 rfl)) (C_lt)))⟩
  | succ f ih =>
    intro lo hi h1 h2
    by_cases hlt : lo < hi
    · have hm : (lo + hi) / 2 < rows.length := by omega
      have e0 : bisR (keysOf rows) x (f + 1) lo hi = if x < (keysOf rows).getD ((lo + hi) / 2) 0 then bisR (keysOf rows) x f (lo) ((lo + hi) / 2) else bisR (keysOf rows) x f ((lo + hi) / 2 + 1) hi := by
        show (if lo < hi then _ else _) = _
        rw [if_pos hlt]
      by_cases hc : x < (keysOf rows).getD ((lo + hi) / 2) 0
      · obtain ⟨hi', h⟩ := ih (lo) ((lo + hi) / 2) (by omega) (by omega)
        rw [e0, if_pos hc]
        refine ⟨hi', W_step (T_is (by simpa using hlt) (T_cmp (E_name (.nth 2 rfl)) (E_name (.nth 3 rfl)) (C_lt))) (by exact S_cons (S_assign (E_is (by rw [fdiv2]) (E_bin (E_bin (E_name (.nth 2 rfl)) (E_name (.nth 3 rfl)) (B_add)) E_int (B_div (by decide) noPy))) (.nth 5 rfl)) (S_cons (S_ifT (T_is (by rw [keys_at hm] at hc; simpa using hc) (T_cmp (E_name (.nth 1 rfl)) (E_call (E_name (.nth 4 rfl)) (keep75 F) (L_cons (E_sub (E_name .here) (E_name (.nth 5 rfl)) (I_at (tups_at hm) (by omega))) L_nil) K_nil (count_ok F (head_at (rows_ne hr hm)))) (C_lt))) (S_cons (S_assign (E_name (.nth 5 rfl)) (.nth 3 rfl)) S_nil)) S_nil)) (W_less (by exact .keep (.keep (.keep (.keep (.keep (.drop .nil)))))) h)⟩
      · obtain ⟨hi', h⟩ := ih ((lo + hi) / 2 + 1) hi (by omega) (by omega)
        rw [e0, if_neg hc]
        refine ⟨hi', W_step (T_is (by simpa using hlt) (T_cmp (E_name (.nth 2 rfl)) (E_name (.nth 3 rfl)) (C_lt))) (by exact S_cons (S_assign (E_is (by rw [fdiv2]) (E_bin (E_bin (E_name (.nth 2 rfl)) (E_name (.nth 3 rfl)) (B_add)) E_int (B_div (by decide) noPy))) (.nth 5 rfl)) (S_cons (S_ifF (T_isnt (by rw [keys_at hm] at hc; simpa using hc) (T_cmp (E_name (.nth 1 rfl)) (E_call (E_name (.nth 4 rfl)) (keep75 F) (L_cons (E_sub (E_name .here) (E_name (.nth 5 rfl)) (I_at (tups_at hm) (by omega))) L_nil) K_nil (count_ok F (head_at (rows_ne hr hm)))) (C_lt))) (S_cons (S_assign (E_is (a := .int (((lo + hi) / 2 : Nat) + 1 : Int)) (by push_cast; rfl) (E_bin (E_name (.nth 5 rfl)) E_int (B_add))) (.nth 2 rfl)) S_nil)) S_nil)) (W_less (by exact .keep (.keep (.keep (.keep (.keep (.drop .nil)))))) h)⟩
    · have e0 : bisR (keysOf rows) x (f + 1) lo hi = lo := by
        show (if lo < hi then _ else _) = _
        rw [if_neg hlt]
      rw [e0]
      exact ⟨hi, W_done (T_isnt (by simpa using hlt) (T_cmp (E_name (.nth 2 rfl)) (E_name (.nth 3 rfl)) (C_lt)))⟩

theorem loopLK (F : Facts X) {rows : List (List Int)} {x : Int} (hr : ∀ r ∈ rows, r ≠ []) (hsz : rows.length < 2 ^ 40) : ∀ (f lo hi : Nat), hi ≤ rows.length → hi - lo ≤ f →
    ∃ hi' : Nat, Whiles X (k + 1) (fscope 5) [some (.val (.list (tups rows))), some (.val (.int x)), some (.val (.int (lo : Nat))), some (.val (.int (hi : Nat))), some (.val (.val (.ref 164))), none] (whOf (elseOf (fbody 5)[2]?)[0]?).1 (whOf (elseOf (fbody 5)[2]?)[0]?).2
      (.next [some (.val (.list (tups rows))), some (.val (.int x)), some (.val (.int (bisL (keysOf rows) x f lo hi : Nat))), some (.val (.int (hi' : Nat))), some (.val (.val (.ref 164))), none]) := by
  intro f
  induction f with
  | zero =>
    intro lo hi h1 h2
    exact ⟨hi, W_done (T_isnt (by simpa using Nat.le_of_sub_eq_zero (Nat.le_zero.mp h2)) (T_cmp (E_name (.nth 2 rfl)) (E_name (.nth 3 rfl)) (C_lt)))⟩
  | succ f ih =>
    intro lo hi h1 h2
    by_cases hlt : lo < hi
    · have hm : (lo + hi) / 2 < rows.length := by omega
      have e0 : bisL (keysOf rows) x (f + 1) lo hi = if (keysOf rows).getD ((lo + hi) / 2) 0 < x then bisL (keysOf rows) x f ((lo + hi) / 2 + 1) hi else bisL (keysOf rows) x f lo ((lo + hi) / 2) := by
        show (if lo < hi then _ else _) = _
        rw [if_pos hlt]
      by_cases hc : (keysOf rows).getD ((lo + hi) / 2) 0 < x
      · obtain ⟨hi', h⟩ := ih ((lo + hi) / 2 + 1) hi (by omega) (by omega)
        rw [e0, if_pos hc]
        refine ⟨hi', W_step (T_is (by simpa using hlt) (T_cmp (E_name (.nth 2 rfl)) (E_name (.nth 3 rfl)) (C_lt))) (by exact S_cons (S_assign (E_is (by rw [fdiv2]) (E_bin (E_bin (E_name (.nth 2 rfl)) (E_name (.nth 3 rfl)) (B_add)) E_int (B_div (by decide) noPy))) (.nth 5 rfl)) (S_cons (S_ifT (T_is (by rw [keys_at hm] at hc; simpa using hc) (T_cmp (E_call (E_name (.nth 4 rfl)) (keep75 F) (L_cons (E_sub (E_name .here) (E_name (.nth 5 rfl)) (I_at (tups_at hm) (by omega))) L_nil) K_nil (count_ok F (head_at (rows_ne hr hm)))) (E_name (.nth 1 rfl)) (C_lt))) (S_cons (S_assign (E_is (a := .int (((lo + hi) / 2 : Nat) + 1 : Int)) (by push_cast; rfl) (E_bin (E_name (.nth 5 rfl)) E_int (B_add))) (.nth 2 rfl)) S_nil)) S_nil)) (W_less (by exact .keep (.keep (.keep (.keep (.keep (.drop .nil)))))) h)⟩
      · obtain ⟨hi', h⟩ := ih lo ((lo + hi) / 2) (by omega) (by omega)
        rw [e0, if_neg hc]
        refine ⟨hi', W_step (T_is (by simpa using hlt) (T_cmp (E_name (.nth 2 rfl)) (E_name (.nth 3 rfl)) (C_lt))) (by exact S_cons (S_assign (E_is (by rw [fdiv2]) (E_bin (E_bin (E_name (.nth 2 rfl)) (E_name (.nth 3 rfl)) (B_add)) E_int (B_div (by decide) noPy))) (.nth 5 rfl)) (S_cons (S_ifF (T_isnt (by rw [keys_at hm] at hc; simpa using hc) (T_cmp (E_call (E_name (.nth 4 rfl)) (keep75 F) (L_cons (E_sub (E_name .here) (E_name (.nth 5 rfl)) (I_at (tups_at hm) (by omega))) L_nil) K_nil (count_ok F (head_at (rows_ne hr hm)))) (E_name (.nth 1 rfl)) (C_lt))) (S_cons (S_assign (E_name (.nth 5 rfl)) (.nth 3 rfl)) S_nil)) S_nil)) (W_less (by exact .keep (.keep (.keep (.keep (.keep (.drop .nil)))))) h)⟩
    · have e0 : bisL (keysOf rows) x (f + 1) lo hi = lo := by
        show (if lo < hi then _ else _) = _
        rw [if_neg hlt]
      rw [e0]
      exact ⟨hi, W_done (T_isnt (by simpa using hlt) (T_cmp (E_name (.nth 2 rfl)) (E_name (.nth 3 rfl)) (C_lt)))⟩

theorem nums_at {ks : List Int} {i : Nat} (h : i < ks.length) : (nums ks)[i]? = some (.int (ks.getD i 0)) := by
  simp [List.getElem?_map, List.getD_eq_getElem?_getD, List.getElem?_eq_getElem h]
theorem loopRN (F : Facts X) {ks : List Int} {x : Int} (hsz : ks.length < 2 ^ 40) : ∀ (f lo hi : Nat), hi ≤ ks.length → hi - lo ≤ f →
    ∃ hi' : Nat, Whiles X k (fscope 3) [some (.val (.list (nums ks))), some (.val (.int x)), some (.val (.int (lo : Nat))), some (.val (.int (hi : Nat))), some (.val (.val .none)), none] (whOf (thenOf (fbody 3)[2]?)[0]?).1 (whOf (thenOf (fbody 3)[2]?)[0]?).2
      (.next [some (.val (.list (nums ks))), some (.val (.int x)), some (.val (.int (bisR ks x f lo hi : Nat))), some (.val (.int (hi' : Nat))), some (.val (.val .none)), none]) := by
  intro f
  induction f with
  | zero =>
    intro lo hi h1 h2
    exact ⟨hi, W_done (T_isnt (by simpa using Nat.le_of_sub_eq_zero (Nat.le_zero.mp h2)) (T_cmp (E_name (.nth 2 rfl)) (E_name (.nth 3 rfl)) (C_lt)))⟩
  | succ f ih =>
    intro lo hi h1 h2
    by_cases hlt : lo < hi
    · have hm : (lo + hi) / 2 < ks.length := by omega
      have e0 : bisR ks x (f + 1) lo hi = if x < ks.getD ((lo + hi) / 2) 0 then bisR ks x f lo ((lo + hi) / 2) else bisR ks x f ((lo + hi) / 2 + 1) hi := by
        show (if lo < hi then _ else _) = _
        rw [if_pos hlt]
      by_cases hc : x < ks.getD ((lo + hi) / 2) 0
      · obtain ⟨hi', h⟩ := ih lo ((lo + hi) / 2) (by omega) (by omega)
        rw [e0, if_pos hc]
        exact ⟨hi', W_step (T_is (by simpa using hlt) (T_cmp (E_name (.nth 2 rfl)) (E_name (.nth 3 rfl)) (C_lt))) (by exact S_cons (S_assign (E_is (by rw [fdiv2]) (E_bin (E_bin (E_name (.nth 2 rfl)) (E_name (.nth 3 rfl)) (B_add)) E_int (B_div (by decide) noPy))) (.nth 5 rfl)) (S_cons (S_ifT (T_is (by simpa using hc) (T_cmp (E_name (.nth 1 rfl)) (E_sub (E_name .here) (E_name (.nth 5 rfl)) (I_at (nums_at hm) (by omega))) (C_lt))) (S_cons (S_assign (E_name (.nth 5 rfl)) (.nth 3 rfl)) S_nil)) S_nil)) (W_less (by exact .keep (.keep (.keep (.keep (.keep (.drop .nil)))))) h)⟩
      · obtain ⟨hi', h⟩ := ih ((lo + hi) / 2 + 1) hi (by omega) (by omega)
        rw [e0, if_neg hc]
        exact ⟨hi', W_step (T_is (by simpa using hlt) (T_cmp (E_name (.nth 2 rfl)) (E_name (.nth 3 rfl)) (C_lt))) (by exact S_cons (S_assign (E_is (by rw [fdiv2]) (E_bin (E_bin (E_name (.nth 2 rfl)) (E_name (.nth 3 rfl)) (B_add)) E_int (B_div (by decide) noPy))) (.nth 5 rfl)) (S_cons (S_ifF (T_isnt (by simpa using hc) (T_cmp (E_name (.nth 1 rfl)) (E_sub (E_name .here) (E_name (.nth 5 rfl)) (I_at (nums_at hm) (by omega))) (C_lt))) (S_cons (S_assign (E_is (a := .int (((lo + hi) / 2 : Nat) + 1 : Int)) (by push_cast; rfl) (E_bin (E_name (.nth 5 rfl)) E_int (B_add))) (.nth 2 rfl)) S_nil)) S_nil)) (W_less (by exact .keep (.keep (.keep (.keep (.keep (.drop .nil)))))) h)⟩
    · have e0 : bisR ks x (f + 1) lo hi = lo := by
        show (if lo < hi then _ else _) = _
        rw [if_neg hlt]
      rw [e0]
      exact ⟨hi, W_done (T_isnt (by simpa using hlt) (T_cmp (E_name (.nth 2 rfl)) (E_name (.nth 3 rfl)) (C_lt)))⟩

theorem bisectRK (F : Facts X) {rows : List (List Int)} {x : Int} (hr : ∀ r ∈ rows, r ≠ []) (hsz : rows.length < 2 ^ 40) :
    CallV X (k + 2) false (.ref 49) [.list (tups rows), .int x, .int 0, .val .none] [(("key" : Str), .val (.ref 164))] (.int (bisR (keysOf rows) x rows.length 0 rows.length : Nat)) := by
  obtain ⟨name, qual, doc, pm, cdv, ct, G⟩ := F.f3.at sc3
  refine call_bor G F.nolim Atom.int (as0 := [.list (tups rows), .int x, .int 0, .val .none, .val (.ref 164)]) (fun {U W s vs ks} hb hv hk => ?_) (show ∀ p ∈ (fscope 3).names.take 5, p.2 = .local ∨ p.2 = .cell from by decide +kernel) (show 5 ≤ (fscope 3).names.length from by decide +kernel) ?_
  · cases hv with | cons h1 hv => cases hv with | cons h2 hv => cases hv with | cons h3 hv => cases hv with | cons h4 hv => cases hv with | nil =>
    cases hk with | cons h5 hk => cases hk with | nil =>
    obtain ⟨t, n, ho⟩ := (F.dflt (41, 42) (.tail _ (.head _))).1
    exact ⟨[_, _, _, _, _], BindsTo.of_defaults (T := 41) rfl (hb _ _ ho) rfl rfl rfl, .cons h1 (.cons h2 (.cons h3 (.cons h4 (.cons h5 .nil))))⟩
  · obtain ⟨hi', hl⟩ := loopRK (k := k) F (x := x) hr hsz rows.length 0 rows.length (Nat.le_refl _) (by omega)
    show Execs X (k + 1) (fscope 3) [some (.val (.list (tups rows))), some (.val (.int x)), some (.val (.int 0)), some (.val (.val .none)), some (.val (.val (.ref 164)))] (fbody 3) _
    exact S_cons (S_ifF (T_isnt (by decide) (T_cmp (E_name (.nth 2 rfl)) E_int (C_lt))) S_nil) (S_cons (S_ifT (T_cmp (E_name (.nth 3 rfl)) E_none (C_noneIs)) (S_cons (S_assign (E_is (by rw [List.length_map]) (E_call (E_glob (.nth 7 rfl) F.g_len fun _ _ => .val _) (keepB) (L_cons (E_name .here) L_nil) K_nil (C_len_list (by rw [List.length_map]; omega)))) (.nth 3 rfl)) S_nil))
      (S_cons (S_ifF (T_cmp (E_name (.nth 4 rfl)) E_none (C_refIs)) (S_cons (S_while (W_less (by exact .keep (.keep (.keep (.keep (.keep (.pad .nil)))))) hl)) S_nil)) (S_consR (S_ret (E_name (.nth 2 rfl))))))

theorem bisectLK (F : Facts X) {rows : List (List Int)} {x : Int} (hr : ∀ r ∈ rows, r ≠ []) (hsz : rows.length < 2 ^ 40) :
    CallV X (k + 2) false (.ref 67) [.list (tups rows), .int x, .int 0, .val .none] [(("key" : Str), .val (.ref 164))] (.int (bisL (keysOf rows) x rows.length 0 rows.length : Nat)) := by
  obtain ⟨name, qual, doc, pm, cdv, ct, G⟩ := F.f5.at sc5
  refine call_bor G F.nolim Atom.int (as0 := [.list (tups rows), .int x, .int 0, .val .none, .val (.ref 164)]) (fun {U W s vs ks} hb hv hk => ?_) (show ∀ p ∈ (fscope 5).names.take 5, p.2 = .local ∨ p.2 = .cell from by decide +kernel) (show 5 ≤ (fscope 5).names.length from by decide +kernel) ?_
  · cases hv with | cons h1 hv => cases hv with | cons h2 hv => cases hv with | cons h3 hv => cases hv with | cons h4 hv => cases hv with | nil =>
    cases hk with | cons h5 hk => cases hk with | nil =>
    obtain ⟨t, n, ho⟩ := (F.dflt (59, 60) (.tail _ (.tail _ (.tail _ (.head _))))).1
    exact ⟨[_, _, _, _, _], BindsTo.of_defaults (T := 59) rfl (hb _ _ ho) rfl rfl rfl, .cons h1 (.cons h2 (.cons h3 (.cons h4 (.cons h5 .nil))))⟩
  · obtain ⟨hi', hl⟩ := loopLK (k := k) F (x := x) hr hsz rows.length 0 rows.length (Nat.le_refl _) (by omega)
    show Execs X (k + 1) (fscope 5) [some (.val (.list (tups rows))), some (.val (.int x)), some (.val (.int 0)), some (.val (.val .none)), some (.val (.val (.ref 164)))] (fbody 5) _
    exact S_cons (S_ifF (T_isnt (by decide) (T_cmp (E_name (.nth 2 rfl)) E_int (C_lt))) S_nil) (S_cons (S_ifT (T_cmp (E_name (.nth 3 rfl)) E_none (C_noneIs)) (S_cons (S_assign (E_is (by rw [List.length_map]) (E_call (E_glob (.nth 7 rfl) F.g_len fun _ _ => .val _) (keepB) (L_cons (E_name .here) L_nil) K_nil (C_len_list (by rw [List.length_map]; omega)))) (.nth 3 rfl)) S_nil))
      (S_cons (S_ifF (T_cmp (E_name (.nth 4 rfl)) E_none (C_refIs)) (S_cons (S_while (W_less (by exact .keep (.keep (.keep (.keep (.keep (.pad .nil)))))) hl)) S_nil)) (S_consR (S_ret (E_name (.nth 2 rfl))))))

theorem bisectRN (F : Facts X) {ks : List Int} {x : Int} (hsz : ks.length < 2 ^ 40) :
    CallV X (k + 1) false (.ref 49) [.list (nums ks), .int x, .int 0, .val .none] [] (.int (bisR ks x ks.length 0 ks.length : Nat)) := by
  obtain ⟨name, qual, doc, pm, cdv, ct, G⟩ := F.f3.at sc3
  refine call_bor G F.nolim Atom.int (as0 := [.list (nums ks), .int x, .int 0, .val .none, .val .none]) (fun {U W s vs kws} hb hv hk => ?_) (show ∀ p ∈ (fscope 3).names.take 5, p.2 = .local ∨ p.2 = .cell from by decide +kernel) (show 5 ≤ (fscope 3).names.length from by decide +kernel) ?_
  · cases hv with | cons h1 hv => cases hv with | cons h2 hv => cases hv with | cons h3 hv => cases hv with | cons h4 hv => cases hv with | nil =>
    cases hk with | nil =>
    exact ⟨[_, _, _, _, .none], bindKwR hb (F.dflt (41, 42) (.tail _ (.head _))), .cons h1 (.cons h2 (.cons h3 (.cons h4 (.cons (.inl (.val _)) .nil))))⟩
  · obtain ⟨hi', hl⟩ := loopRN (k := k) F (x := x) hsz ks.length 0 ks.length (Nat.le_refl _) (by omega)
    show Execs X k (fscope 3) [some (.val (.list (nums ks))), some (.val (.int x)), some (.val (.int 0)), some (.val (.val .none)), some (.val (.val .none))] (fbody 3) _
    exact S_cons (S_ifF (T_isnt (by decide) (T_cmp (E_name (.nth 2 rfl)) E_int (C_lt))) S_nil) (S_cons (S_ifT (T_cmp (E_name (.nth 3 rfl)) E_none (C_noneIs)) (S_cons (S_assign (E_is (by rw [List.length_map]) (E_call (E_glob (.nth 7 rfl) F.g_len fun _ _ => .val _) (keepB) (L_cons (E_name .here) L_nil) K_nil (C_len_list (by rw [List.length_map]; omega)))) (.nth 3 rfl)) S_nil))
      (S_cons (S_ifT (T_cmp (E_name (.nth 4 rfl)) E_none (C_noneIs)) (S_cons (S_while (W_less (by exact .keep (.keep (.keep (.keep (.keep (.pad .nil)))))) hl)) S_nil)) (S_consR (S_ret (E_name (.nth 2 rfl))))))

theorem bisR_le (ks : List Int) (x : Int) : ∀ (f lo hi : Nat), lo ≤ hi → bisR ks x f lo hi ≤ hi
  | 0, lo, hi, h => h
  | f + 1, lo, hi, h => by
    unfold bisR
    split
    · split
      · exact Nat.le_trans (bisR_le ks x f _ _ (by omega)) (by omega)
      · exact bisR_le ks x f _ _ (by omega)
    · exact h
theorem insortRK (F : Facts X) {rows : List (List Int)} {e : List Int} {x : Int} (hx : e[0]? = some x) (hr : ∀ r ∈ rows, r ≠ []) (hsz2 : rows.length < 2 ^ 20) :
    MutF X (k + 3) (.ref 40) (tups rows) [.tup e] [(("key" : Str), .val (.ref 164))] ((tups rows).take (bisR (keysOf rows) x rows.length 0 rows.length) ++ .tup e :: (tups rows).drop (bisR (keysOf rows) x rows.length 0 rows.length)) := by
  obtain ⟨name, qual, doc, pm, cdv, ct, G⟩ := F.f2.at sc2
  have hb0 := bisR_le (keysOf rows) x rows.length 0 rows.length (Nat.zero_le _)
  have hsz : rows.length < 2 ^ 40 := by omega
  refine call_mut G F.nolim (as0 := [.tup e, .int 0, .val .none, .val (.ref 164)]) (fun {U W s d vs ks} hb hv hk => ?_) (show ∀ p ∈ (fscope 2).names.take 5, p.2 = .local ∨ p.2 = .cell from by decide +kernel) (show 5 ≤ (fscope 2).names.length from by decide +kernel) (fun d => ?_) ⟨_, rfl⟩
  · cases hv with | cons h1 hv => cases hv with | nil =>
    cases hk with | cons h5 hk => cases hk with | nil =>
    obtain ⟨t, n, ho⟩ := (F.dflt (32, 33) (.head _)).1
    exact ⟨[_, .int 0 t, .none, _], BindsTo.of_defaults (T := 32) rfl (hb _ _ ho) rfl rfl rfl, .cons h1.vr (.cons (.int _ _) (.cons (.val _) (.cons h5.vr .nil)))⟩
  · show ∃ Γ', Execs X (k + 2) (fscope 2) [some (.own (tups rows) (some d)), some (.val (.tup e)), some (.val (.int 0)), some (.val (.val .none)), some (.val (.val (.ref 164)))] (fbody 2) (.next (_ :: Γ'))
    exact ⟨_, S_cons (S_ifF (T_cmp (E_name (.nth 4 rfl)) E_none (C_refIs)) (S_cons (S_assign (E_call (E_glob (.nth 5 rfl) F.g_bisect_right fun _ _ => .val _) (keep3 F) (L_cons (E_own .here) (L_cons (E_call (E_name (.nth 4 rfl)) (keep75 F) (L_cons (E_name (.nth 1 rfl)) L_nil) K_nil (count_ok F hx)) (L_cons (E_name (.nth 2 rfl)) (L_cons (E_name (.nth 3 rfl)) L_nil)))) (K_cons (E_name (.nth 4 rfl)) K_nil) (bisectRK F hr hsz)) (.nth 2 rfl)) S_nil)) (S_cons (S_meth .here (L_cons (E_name (.nth 2 rfl)) (L_cons (E_name (.nth 1 rfl)) L_nil)) (GetM.of PySem.F.slot_list_insert PySem.F.type_list_insert) (M_insert (by rw [List.length_map]; exact hb0) (by rw [List.length_map]; exact Nat.le_trans (Nat.le_of_lt hsz2) (by decide))) .here) S_nil)⟩

theorem bisL_le (ks : List Int) (x : Int) : ∀ (f lo hi : Nat), lo ≤ hi → bisL ks x f lo hi ≤ hi
  | 0, lo, hi, h => h
  | f + 1, lo, hi, h => by
    unfold bisL
    split
    · split
      · exact bisL_le ks x f _ _ (by omega)
      · exact Nat.le_trans (bisL_le ks x f _ _ (by omega)) (by omega)
    · exact h
theorem insortLK (F : Facts X) {rows : List (List Int)} {e : List Int} {x : Int} (hx : e[0]? = some x) (hr : ∀ r ∈ rows, r ≠ []) (hsz2 : rows.length < 2 ^ 20) :
    MutF X (k + 3) (.ref 58) (tups rows) [.tup e] [(("key" : Str), .val (.ref 164))] ((tups rows).take (bisL (keysOf rows) x rows.length 0 rows.length) ++ .tup e :: (tups rows).drop (bisL (keysOf rows) x rows.length 0 rows.length)) := by
  obtain ⟨name, qual, doc, pm, cdv, ct, G⟩ := F.f4.at sc4
  have hb0 := bisL_le (keysOf rows) x rows.length 0 rows.length (Nat.zero_le _)
  have hsz : rows.length < 2 ^ 40 := by omega
  refine call_mut G F.nolim (as0 := [.tup e, .int 0, .val .none, .val (.ref 164)]) (fun {U W s d vs ks} hb hv hk => ?_) (show ∀ p ∈ (fscope 4).names.take 5, p.2 = .local ∨ p.2 = .cell from by decide +kernel) (show 5 ≤ (fscope 4).names.length from by decide +kernel) (fun d => ?_) ⟨_, rfl⟩
  · cases hv with | cons h1 hv => cases hv with | nil =>
    cases hk with | cons h5 hk => cases hk with | nil =>
    obtain ⟨t, n, ho⟩ := (F.dflt (50, 51) (.tail _ (.tail _ (.head _)))).1
    exact ⟨[_, .int 0 t, .none, _], BindsTo.of_defaults (T := 50) rfl (hb _ _ ho) rfl rfl rfl, .cons h1.vr (.cons (.int _ _) (.cons (.val _) (.cons h5.vr .nil)))⟩
  · show ∃ Γ', Execs X (k + 2) (fscope 4) [some (.own (tups rows) (some d)), some (.val (.tup e)), some (.val (.int 0)), some (.val (.val .none)), some (.val (.val (.ref 164)))] (fbody 4) (.next (_ :: Γ'))
    exact ⟨_, S_cons (S_ifF (T_cmp (E_name (.nth 4 rfl)) E_none (C_refIs)) (S_cons (S_assign (E_call (E_glob (.nth 5 rfl) F.g_bisect_left fun _ _ => .val _) (keep5 F) (L_cons (E_own .here) (L_cons (E_call (E_name (.nth 4 rfl)) (keep75 F) (L_cons (E_name (.nth 1 rfl)) L_nil) K_nil (count_ok F hx)) (L_cons (E_name (.nth 2 rfl)) (L_cons (E_name (.nth 3 rfl)) L_nil)))) (K_cons (E_name (.nth 4 rfl)) K_nil) (bisectLK F hr hsz)) (.nth 2 rfl)) S_nil)) (S_cons (S_meth .here (L_cons (E_name (.nth 2 rfl)) (L_cons (E_name (.nth 1 rfl)) L_nil)) (GetM.of PySem.F.slot_list_insert PySem.F.type_list_insert) (M_insert (by rw [List.length_map]; exact hb0) (by rw [List.length_map]; exact Nat.le_trans (Nat.le_of_lt hsz2) (by decide))) .here) S_nil)⟩

theorem insortRN (F : Facts X) {ks : List Int} {x : Int} (hsz2 : ks.length < 2 ^ 20) :
    MutF X (k + 2) (.ref 40) (nums ks) [.int x] [] ((nums ks).take (bisR ks x ks.length 0 ks.length) ++ .int x :: (nums ks).drop (bisR ks x ks.length 0 ks.length)) := by
  obtain ⟨name, qual, doc, pm, cdv, ct, G⟩ := F.f2.at sc2
  have hb0 := bisR_le ks x ks.length 0 ks.length (Nat.zero_le _)
  have hsz : ks.length < 2 ^ 40 := by omega
  refine call_mut G F.nolim (as0 := [.int x, .int 0, .val .none, .val .none]) (fun {U W s d vs kws} hb hv hk => ?_) (show ∀ p ∈ (fscope 2).names.take 5, p.2 = .local ∨ p.2 = .cell from by decide +kernel) (show 5 ≤ (fscope 2).names.length from by decide +kernel) (fun d => ?_) ⟨_, rfl⟩
  · cases hv with | cons h1 hv => cases hv with | nil =>
    cases hk with | nil =>
    obtain ⟨t, ht⟩ := bindKwI (X := X) (s := s) hb (F.dflt (32, 33) (.head _))
    exact ⟨[_, .int 0 t, .none, .none], ht, .cons h1.vr (.cons (.int _ _) (.cons (.val _) (.cons (.val _) .nil)))⟩
  · show ∃ Γ', Execs X (k + 1) (fscope 2) [some (.own (nums ks) (some d)), some (.val (.int x)), some (.val (.int 0)), some (.val (.val .none)), some (.val (.val .none))] (fbody 2) (.next (_ :: Γ'))
    exact ⟨_, S_cons (S_ifT (T_cmp (E_name (.nth 4 rfl)) E_none (C_noneIs)) (S_cons (S_assign (E_call (E_glob (.nth 5 rfl) F.g_bisect_right fun _ _ => .val _) (keep3 F) (L_cons (E_own .here) (L_cons (E_name (.nth 1 rfl)) (L_cons (E_name (.nth 2 rfl)) (L_cons (E_name (.nth 3 rfl)) L_nil)))) K_nil (bisectRN F hsz)) (.nth 2 rfl)) S_nil)) (S_cons (S_meth .here (L_cons (E_name (.nth 2 rfl)) (L_cons (E_name (.nth 1 rfl)) L_nil)) (GetM.of PySem.F.slot_list_insert PySem.F.type_list_insert) (M_insert (by rw [List.length_map]; exact hb0) (by rw [List.length_map]; exact Nat.le_trans (Nat.le_of_lt hsz2) (by decide))) .here) S_nil)⟩
end
end Mine
namespace Mine
theorem sc8 : ScOk (fscope 8) := .of (by decide +kernel)
theorem sc72 : ScOk (fscope 72) := .of (by decide +kernel)
theorem sc73 : ScOk (fscope 73) := .of (by decide +kernel)
theorem sc74 : ScOk (fscope 74) := .of (by decide +kernel)
theorem sc77 : ScOk (fscope 77) := .of (by decide +kernel)
theorem sc12 : ScOk (fscope 12) := .of (by decide +kernel)
theorem sc13 : ScOk (fscope 13) := .of (by decide +kernel)
theorem pb8 : PosBind 8 3 := by
  intro vs h name qual dV kV doc pm cdv ct hd
  subst hd
  obtain ⟨v0, v1, v2, rfl⟩ := ofLen3 h
  rfl
theorem pb72 : PosBind 72 1 := by
  intro vs h name qual dV kV doc pm cdv ct hd
  subst hd
  obtain ⟨v0, rfl⟩ := ofLen1 h
  rfl
theorem pb73 : PosBind 73 2 := by
  intro vs h name qual dV kV doc pm cdv ct hd
  subst hd
  obtain ⟨v0, v1, rfl⟩ := ofLen2 h
  rfl
theorem pb74 : PosBind 74 1 := by
  intro vs h name qual dV kV doc pm cdv ct hd
  subst hd
  obtain ⟨v0, rfl⟩ := ofLen1 h
  rfl
theorem pb77 : PosBind 77 3 := by
  intro vs h name qual dV kV doc pm cdv ct hd
  subst hd
  obtain ⟨v0, v1, v2, rfl⟩ := ofLen3 h
  rfl
theorem pb12 : PosBind 12 2 := by
  intro vs h name qual dV kV doc pm cdv ct hd
  subst hd
  obtain ⟨v0, v1, rfl⟩ := ofLen2 h
  rfl
theorem pb13 : PosBind 13 2 := by
  intro vs h name qual dV kV doc pm cdv ct hd
  subst hd
  obtain ⟨v0, v1, rfl⟩ := ofLen2 h
  rfl

section
variable {X : Cx} {k : Nat}

theorem div2n1n_ok (F : Facts X) {a b n : Int} (hb : b ≠ 0) (hbs : b.natAbs < 2 ^ 20) (hn : (Builtin.Int.intBits a : Int) - n ≤ 4000) : CallV X (k + 1) true (.ref 74) [.int a, .int b, .int n] [] (.tup [a.fdiv b, a.fmod b]) := by
  refine ownFn F.f8 sc8 pb8 rfl F.nolim (by decide +kernel) (by decide +kernel) ?_
  obtain ⟨t, ht⟩ := F.divl
  exact S_consR (S_ifT (T_is (by simpa using hn) (T_cmp (E_bin (E_meth0 (E_name .here) (V_bits) (C_bits)) (E_name (.nth 2 rfl)) (B_sub)) (E_glob (.nth 11 rfl) ht fun _ _ => .int _ _) (C_le))) (S_consR (S_ret (E_call (E_glob (.nth 12 rfl) F.g_divmod fun _ _ => .val _) (keepB) (L_cons (E_name .here) (L_cons (E_name (.nth 1 rfl)) L_nil)) K_nil (C_divmod hb (noPy hbs))))))

noncomputable def sizeAt (x : Str) (place : Nat) : Nat → Nat
  | 0 => 0
  | s + 1 => if KTD.inKeys (cutS x place (place + (s + 1))) tokDat = true then s + 1 else sizeAt x place s
noncomputable def tokVal (y : Str) : Int := match KTD.datumAt y tokDat with
  | some (.flat (.int i)) => i
  | _ => 0
noncomputable def symF (x : Str) : Nat → Nat → List Int
  | 0, _ => []
  | f + 1, place => if place < x.length then (if sizeAt x place 3 = 0 then 0 :: symF x f (place + 2) else tokVal (cutS x place (place + sizeAt x place 3)) :: symF x f (place + sizeAt x place 3)) else []
theorem tok_at {y : Str} : ∀ {l : List (Str × Int)}, KTD.inKeys y (l.map fun p => (p.1, KTD.Dat.flat (.int p.2))) = true → ∃ i, KTD.datumAt y (l.map fun p => (p.1, KTD.Dat.flat (.int p.2))) = some (.flat (.int i))
  | [], h => by cases h
  | p :: l, h => by
    rw [List.map_cons] at h ⊢
    show ∃ i, (if decide (y = p.1) = true then some (KTD.Dat.flat (PyData.int p.2)) else KTD.datumAt y (l.map fun p => (p.1, KTD.Dat.flat (PyData.int p.2)))) = _
    by_cases q : y = p.1
    · exact ⟨p.2, by rw [if_pos (by simpa using q)]⟩
    · rw [if_neg (by simpa using q)]
      refine tok_at ?_
      have h' : (decide (y = p.1) || KTD.inKeys y (l.map fun p => (p.1, KTD.Dat.flat (PyData.int p.2)))) = true := h
      simpa [q] using h'
theorem tokVal_at {y : Str} (h : KTD.inKeys y tokDat = true) : KTD.datumAt y tokDat = some (.flat (.int (tokVal y))) := by
  obtain ⟨i, e⟩ := tok_at h
  unfold tokVal
  show KTD.datumAt y tokDat = _
  have e' : KTD.datumAt y tokDat = some (.flat (.int i)) := e
  rw [e']
theorem sizeAt_le (x : Str) (place : Nat) : ∀ s, sizeAt x place s ≤ s
  | 0 => Nat.le_refl _
  | s + 1 => by
    unfold sizeAt
    split
    · exact Nat.le_refl _
    · exact Nat.le_succ_of_le (sizeAt_le x place s)
theorem sizeAt_in (x : Str) (place : Nat) : ∀ s, sizeAt x place s ≠ 0 → KTD.inKeys (cutS x place (place + sizeAt x place s)) tokDat = true
  | 0, h => absurd rfl h
  | s + 1, h => by
    unfold sizeAt at h ⊢
    by_cases q : KTD.inKeys (cutS x place (place + (s + 1))) tokDat = true
    · simp only [if_pos q]; exact q
    · simp only [if_neg q] at h ⊢; exact sizeAt_in x place s h

theorem symInner (F : Facts X) {x : Str} (hsz : x.length ≤ sizeLine) (acc : List Int) (place : Nat) : ∀ size : Nat,
    Whiles X k (fscope 72) [some (.val (.str x)), some (.own (nums acc) none), some (.val (.int (place : Nat))), some (.val (.int (size : Nat)))] (whOf (whOf (fbody 72)[2]?).2[1]?).1 (whOf (whOf (fbody 72)[2]?).2[1]?).2 (.next [some (.val (.str x)), some (.own (nums acc) none), some (.val (.int (place : Nat))), some (.val (.int (sizeAt x place size : Nat)))]) := by
  intro size
  induction size with
  | zero => exact W_done (T_andF (T_isnt (by decide) (T_cmp (E_name (.nth 3 rfl)) E_int (C_gt))))
  | succ s ih =>
    by_cases q : KTD.inKeys (cutS x place (place + (s + 1))) tokDat = true
    · have e : sizeAt x place (s + 1) = s + 1 := by unfold sizeAt; rw [if_pos q]
      rw [e]
      exact W_done (T_andT (T_is (by simp <;> omega) (T_cmp (E_name (.nth 3 rfl)) E_int (C_gt))) (T_isnt (by rw [q]; rfl) (let size := s + 1; (T_cmp (E_strCut (E_name .here) (E_name (.nth 2 rfl)) (E_is (a := .int ((place : Nat) + (size : Nat) : Int)) (by push_cast; rfl) (E_bin (E_name (.nth 2 rfl)) (E_name (.nth 3 rfl)) (B_add))) (Nat.le_add_right _ _) hsz) (E_glob (.nth 5 rfl) F.g_EXACT_TOKEN_TYPES fun _ _ => .val _) (C_notTab F.tok)))))
    · have e : sizeAt x place (s + 1) = sizeAt x place s := by show (if _ then _ else _) = _; rw [if_neg q]
      rw [e]
      have q' : KTD.inKeys (cutS x place (place + (s + 1))) tokDat = false := by simpa using q
      exact W_step (T_andT (T_is (by simp <;> omega) (T_cmp (E_name (.nth 3 rfl)) E_int (C_gt))) (T_is (by rw [q']; rfl) (let size := s + 1; (T_cmp (E_strCut (E_name .here) (E_name (.nth 2 rfl)) (E_is (a := .int ((place : Nat) + (size : Nat) : Int)) (by push_cast; rfl) (E_bin (E_name (.nth 2 rfl)) (E_name (.nth 3 rfl)) (B_add))) (Nat.le_add_right _ _) hsz) (E_glob (.nth 5 rfl) F.g_EXACT_TOKEN_TYPES fun _ _ => .val _) (C_notTab F.tok)))))
        (by exact S_cons (S_more (by exact .keep (.keep (.keep (.keep .nil)))) (S_aug (cv := .int (s : Nat)) (.nth 3 rfl) E_int (A_is (by congr 1; push_cast; omega) G_sub) (.nth 3 rfl))) S_nil) ih

theorem symOuter (F : Facts X) {x : Str} (hsz : x.length ≤ sizeLine) : ∀ (f place : Nat) (acc : List Int), x.length ≤ place + f → acc.length ≤ place →
    ∃ place' o, Whiles X k (fscope 72) [some (.val (.str x)), some (.own (nums acc) none), some (.val (.int (place : Nat))), none] (whOf (fbody 72)[2]?).1 (whOf (fbody 72)[2]?).2 (.next [some (.val (.str x)), some (.own (nums (acc ++ symF x f place)) none), some (.val (.int (place' : Nat))), o]) := by
  have hsl : x.length ≤ 2 ^ 24 := hsz
  intro f
  induction f with
  | zero =>
    intro place acc h h'
    refine ⟨place, none, ?_⟩
    have e : acc ++ symF x 0 place = acc := List.append_nil _
    rw [e]
    exact W_done (T_isnt (by simp; omega) (T_cmp (E_name (.nth 2 rfl)) (E_call (E_glob (.nth 4 rfl) F.g_len fun _ _ => .val _) (keepB) (L_cons (E_name .here) L_nil) K_nil (C_len_str (by omega))) (C_lt)))
  | succ f ih =>
    intro place acc h h'
    by_cases hlt : place < x.length
    · have hacc : acc.length ≤ sizeLine := by show _ ≤ 2 ^ 24; omega
      by_cases hz : sizeAt x place 3 = 0
      · obtain ⟨place', o, hw⟩ := ih (place + 2) (acc ++ [0]) (by omega) (by simp; omega)
        have e : acc ++ symF x (f + 1) place = (acc ++ [0]) ++ symF x f (place + 2) := by
          rw [List.append_assoc]
          congr 1
          show (if place < x.length then _ else _) = _
          rw [if_pos hlt, if_pos hz]; rfl
        rw [e]
        refine ⟨place', o, W_step (T_is (by simpa using hlt) (T_cmp (E_name (.nth 2 rfl)) (E_call (E_glob (.nth 4 rfl) F.g_len fun _ _ => .val _) (keepB) (L_cons (E_name .here) L_nil) K_nil (C_len_str (by omega))) (C_lt))) (by exact S_cons (S_assign (av := .int (3 : Nat)) E_int (.nth 3 rfl)) (S_cons (S_while (symInner F hsz acc place 3)) (S_cons
          (S_ifT (T_is (by rw [hz]; rfl) (T_cmp (E_name (.nth 3 rfl)) E_int (C_eq))) (S_cons (S_meth (.nth 1 rfl) (L_cons E_int L_nil) (GetM.of slot_list_append type_list_append) (M_append (by rw [List.length_map]; exact hacc)) (.nth 1 rfl)) (S_cons (S_aug (.nth 2 rfl) E_int G_add (.nth 2 rfl)) S_nil))) S_nil))) (W_less (by simp only [nums, List.map_append, List.map_cons, List.map_nil, Int.natCast_add]; exact .keep (.keep (.keep (.drop .nil)))) hw)⟩
      · have hin := sizeAt_in x place 3 hz
        have hle := sizeAt_le x place 3
        obtain ⟨place', o, hw⟩ := ih (place + sizeAt x place 3) (acc ++ [tokVal (cutS x place (place + sizeAt x place 3))]) (by omega) (by simp; omega)
        have e : acc ++ symF x (f + 1) place = (acc ++ [tokVal (cutS x place (place + sizeAt x place 3))]) ++ symF x f (place + sizeAt x place 3) := by
          rw [List.append_assoc]
          congr 1
          show (if place < x.length then _ else _) = _
          rw [if_pos hlt, if_neg hz]; rfl
        rw [e]
        refine ⟨place', o, W_step (T_is (by simpa using hlt) (T_cmp (E_name (.nth 2 rfl)) (E_call (E_glob (.nth 4 rfl) F.g_len fun _ _ => .val _) (keepB) (L_cons (E_name .here) L_nil) K_nil (C_len_str (by omega))) (C_lt))) (by exact S_cons (S_assign (av := .int (3 : Nat)) E_int (.nth 3 rfl)) (S_cons (S_while (symInner F hsz acc place 3)) (S_cons
          (S_ifF (T_isnt (by simpa using hz) (T_cmp (E_name (.nth 3 rfl)) E_int (C_eq))) (S_cons (S_meth (.nth 1 rfl) (L_cons (let size := sizeAt x place 3; (E_sub (E_glob (.nth 5 rfl) F.g_EXACT_TOKEN_TYPES fun _ _ => .val _) (E_strCut (E_name .here) (E_name (.nth 2 rfl)) (E_is (a := .int ((place : Nat) + (size : Nat) : Int)) (by push_cast; rfl) (E_bin (E_name (.nth 2 rfl)) (E_name (.nth 3 rfl)) (B_add))) (Nat.le_add_right _ _) hsz) (I_tab F.tok (tokVal_at hin)))) L_nil) (GetM.of slot_list_append type_list_append) (M_append (by rw [List.length_map]; exact hacc)) (.nth 1 rfl)) (S_cons (S_aug (.nth 2 rfl) (E_name (.nth 3 rfl)) G_add (.nth 2 rfl)) S_nil))) S_nil))) (W_less (by simp only [nums, List.map_append, List.map_cons, List.map_nil, Int.natCast_add]; exact .keep (.keep (.keep (.drop .nil)))) hw)⟩
    · refine ⟨place, none, ?_⟩
      have e : acc ++ symF x (f + 1) place = acc := by
        show acc ++ (if place < x.length then _ else _) = _
        rw [if_neg hlt, List.append_nil]
      rw [e]
      exact W_done (T_isnt (by simp; omega) (T_cmp (E_name (.nth 2 rfl)) (E_call (E_glob (.nth 4 rfl) F.g_len fun _ _ => .val _) (keepB) (L_cons (E_name .here) L_nil) K_nil (C_len_str (by omega))) (C_lt)))
theorem symbols_ok (F : Facts X) {x : Str} (hsz : x.length ≤ sizeLine) : CallV X (k + 1) true (.ref 143) [.str x] [] (.list (nums (symF x x.length 0))) := by
  refine ownFn F.f72 sc72 pb72 rfl F.nolim (by decide +kernel) (by decide +kernel) ?_
  obtain ⟨place', o, hw⟩ := symOuter (k := k) F hsz x.length 0 [] (by omega) (Nat.le_refl _)
  refine X_less (Γ₁ := [some (.val (.str x)), none, none, none]) (by exact .keep (.pad (.pad (.pad .nil)))) ?_
  exact S_cons (S_own (N_list L_nil (by decide)) (.nth 1 rfl)) (S_cons (S_assign (av := .int (0 : Nat)) E_int (.nth 2 rfl)) (S_cons (S_while hw) (S_consR (S_retOwn (.nth 1 rfl)))))

noncomputable def meantF : List Int → Nat → List Int
  | [], _ => []
  | s :: t, r => if s = 23 then meantF t (r + 1) else (List.replicate (r / 3) 52 ++ List.replicate (r % 3) 23 ++ [s]) ++ meantF t 0
theorem rep_nums (n : Nat) (c : Int) : (List.replicate n [AV.int c]).flatten = nums (List.replicate n c) := by
  induction n with
  | zero => rfl
  | succ n ih => rw [List.replicate_succ, List.flatten_cons, ih]; rfl
theorem fdivN (a b : Nat) : (a : Int).fdiv (b : Int) = ((a / b : Nat) : Int) := by
  rw [Int.fdiv_eq_ediv_of_nonneg _ (Int.natCast_nonneg b)]; rfl
theorem fmodN (a b : Nat) : (a : Int).fmod (b : Int) = ((a % b : Nat) : Int) := by
  rw [Int.fmod_eq_emod_of_nonneg _ (Int.natCast_nonneg b)]; rfl

theorem meantLoop {row : List Int} {dots : Int} : ∀ (items : List Int) (run : Nat) (acc : List Int), acc.length + run + 2 * items.length ≤ 2 ^ 20 →
    ∃ run' o, Fors X k (fscope 73) [some (.val (.list (nums row))), some (.val (.int dots)), some (.own (nums acc) none), some (.val (.int (run : Nat))), none] (forOf (fbody 73)[2]?).1 (forOf (fbody 73)[2]?).2 (nums items) (.next [some (.val (.list (nums row))), some (.val (.int dots)), some (.own (nums (acc ++ meantF items run)) none), some (.val (.int (run' : Nat))), o]) := by
  intro items
  induction items with
  | nil =>
    intro run acc _
    refine ⟨run, none, ?_⟩
    have e : acc ++ meantF [] run = acc := List.append_nil _
    rw [e]
    exact F_nil fun _ _ => rfl
  | cons s items ih =>
    intro run acc hb
    rw [List.length_cons] at hb
    by_cases hs : s = 23
    · obtain ⟨run', o, hf⟩ := ih (run + 1) acc (by omega)
      have e : meantF (s :: items) run = meantF items (run + 1) := by show (if _ then _ else _) = _; rw [if_pos hs]
      rw [e]
      exact ⟨run', o, F_cons (.nth 4 rfl) (by exact S_cons (S_ifT (T_is (by simpa using hs) (T_cmp (E_name (.nth 4 rfl)) E_int (C_eq))) (S_cons (S_aug (.nth 3 rfl) E_int G_add (.nth 3 rfl)) S_nil)) S_nil) (F_less (by simp only [Int.natCast_add]; exact .keep (.keep (.keep (.keep (.drop .nil))))) hf)⟩
    · obtain ⟨run', o, hf⟩ := ih 0 (acc ++ (List.replicate (run / 3) 52 ++ List.replicate (run % 3) 23 ++ [s])) (by simp; omega)
      have e : acc ++ meantF (s :: items) run = (acc ++ (List.replicate (run / 3) 52 ++ List.replicate (run % 3) 23 ++ [s])) ++ meantF items 0 := by
        rw [List.append_assoc]
        congr 1
        show (if _ then _ else _) = _
        rw [if_neg hs]
      rw [e]
      exact ⟨run', o, F_cons (.nth 4 rfl) (by exact S_cons (S_ifF (T_isnt (by simpa using hs) (T_cmp (E_name (.nth 4 rfl)) E_int (C_eq))) (S_cons (S_meth (.nth 2 rfl) (L_cons (EvalsN.evals (N_is (l := (nums (List.replicate (run / 3) 52) ++ nums (List.replicate (run % 3) 23)) ++ nums [s]) (l' := nums (List.replicate (run / 3) 52 ++ List.replicate (run % 3) 23 ++ [s])) (by simp only [nums, List.map_append]) (N_bin (EvalsN.evals (N_bin (EvalsN.evals (N_is (by rw [Int.toNat_natCast]; exact rep_nums (run / 3) 52) (N_bin (EvalsN.evals (N_list (L_cons E_int L_nil) (by decide))) (E_is (by congr 1; exact fdivN run 3) (E_bin (E_name (.nth 3 rfl)) E_int (B_div (by decide) noPy))) (BN_mul (x := ((run / 3 : Nat) : Int)) (by omega) (by omega) (by simp) (by simp <;> omega))))) (EvalsN.evals (N_is (by rw [Int.toNat_natCast]; exact rep_nums (run % 3) 23) (N_bin (EvalsN.evals (N_list (L_cons E_int L_nil) (by decide))) (E_is (by congr 1; exact fmodN run 3) (E_bin (E_name (.nth 3 rfl)) E_int (B_mod (by decide)))) (BN_mul (x := ((run % 3 : Nat) : Int)) (by omega) (by omega) (by simp) (by simp <;> omega))))) (BN_add (by simp only [nums, List.length_append, List.length_map, List.length_replicate, List.length_cons, List.length_nil]; show _ ≤ 2 ^ 24; omega)))) (EvalsN.evals (N_list (L_cons (E_name (.nth 4 rfl)) L_nil) (by show _ ≤ 2 ^ 24; simp))) (BN_add (by simp only [nums, List.length_append, List.length_map, List.length_replicate, List.length_cons, List.length_nil]; show _ ≤ 2 ^ 24; omega))))) L_nil) (GetM.of PySem.F.slot_list_extend PySem.F.type_list_extend) (M_extend (by simp only [nums, List.length_append, List.length_map, List.length_replicate, List.length_cons, List.length_nil]; show _ ≤ 2 ^ 24; omega)) (.nth 2 rfl)) (S_cons (S_assign (av := .int (0 : Nat)) E_int (.nth 3 rfl)) S_nil))) S_nil) (F_less (by rw [← List.map_append]; exact .keep (.keep (.keep (.keep (.drop .nil))))) hf)⟩
theorem meant_ok (F : Facts X) {row : List Int} {dots : Nat} {c : Int} (h0 : row[0]? = some c) (hb : dots + 2 * row.length + 2 ≤ 2 ^ 20) :
    CallV X (k + 1) true (.ref 150) [.list (nums row), .int dots] [] (.list (nums (meantF (row ++ [0]) (if c = 23 then dots else 0)))) := by
  refine ownFn F.f73 sc73 pb73 rfl F.nolim (by decide +kernel) (by decide +kernel) ?_
  have h0 : (nums row)[0]? = some (.int c) := by rw [nums, List.getElem?_map, h0]; rfl
  obtain ⟨run', o, hf⟩ := meantLoop (X := X) (k := k) (row := row) (dots := dots) (row ++ [0]) (if c = 23 then dots else 0) [] (by simp; split <;> omega)
  refine X_less (Γ₁ := [some (.val (.list (nums row))), some (.val (.int dots)), none, none, none]) (by exact .keep (.keep (.pad (.pad (.pad .nil))))) ?_
  refine S_cons (S_own (N_list L_nil (by decide)) (.nth 2 rfl)) ?_
  refine S_cons (Γ' := [some (.val (.list (nums row))), some (.val (.int dots)), some (.own [] none), some (.val (.int ((if c = 23 then dots else 0 : Nat) : Int))), none]) ?_ (S_cons (S_for (I_list (EvalsN.evals (N_is (l := nums row ++ nums [0]) (by simp only [nums, List.map_append]) (N_bin (E_name .here) (EvalsN.evals (N_list (L_cons E_int L_nil) (by decide))) (BN_add (by simp only [nums, List.length_append, List.length_map, List.length_replicate, List.length_cons, List.length_nil]; show _ ≤ 2 ^ 24; omega)))))) hf) (S_consR (S_retOwn (.nth 2 rfl))))
  by_cases hc : c = 23
  · rw [if_pos hc]
    exact S_assign (E_ifT (T_is (by simpa using hc) (T_cmp (E_sub (E_name .here) E_int (I_at (i := 0) h0 (by decide))) E_int (C_eq))) (E_name (.nth 1 rfl))) (.nth 3 rfl)
  · rw [if_neg hc]
    exact S_assign (E_ifF (T_isnt (by simpa using hc) (T_cmp (E_sub (E_name .here) E_int (I_at (i := 0) h0 (by decide))) E_int (C_eq))) E_int) (.nth 3 rfl)
end
end Mine
namespace Mine

section
variable {X : Cx} {k : Nat}
theorem S_assignC {sc : Scope} {Γ Γ' : List (Option Slot)} {x : Str} {pos pos' : Pos} {e : Expr} {av : AV} {i : Nat} (h1 : Evals X true k sc Γ e av) (p : Put sc.names Γ i x .cell (.val av) Γ')
    (hs : ∀ env, env.kindOf x = some .cell → swapsWith e (some (.Name x pos)) pos'.line env = pure false) : Exec X k sc Γ (.Assign [.Name x pos] e pos') (.next Γ') := by
  intro U W A env s Q E R q
  refine wpAny_Assign_Name (h1 R fun v h₁ t₁ a₁ q₁ => ?_) (hs env (R.kindOf p.at.1))
  have R₁ := R.after (tk := t₁) a₁
  obtain ⟨ad, bd, V⟩ := R₁.vars
  refine R₁.store (a := 0) (c := 0) V p (.inr rfl) q₁.vr (fun o => by cases o) fun h₂ t₂ R₂ kp sz => ?_
  exact q W h₂ t₂ R₂ ⟨fun _ h => .inl h, fun b o e nW nt => kp b o (a₁.keep b o e nt) nW, Nat.le_trans a₁.size sz⟩
theorem swaps_dictC {kx vx : Expr} {gs : List Comprehension} {scope : Scope} {pos p : Pos} {x : Str} {l : Nat} : ∀ env, env.kindOf x = some .cell → swapsWith (.DictComp kx vx gs scope pos) (some (.Name x p)) l env = pure false := by
  intro env h
  show (pure (env.blockKind == .function && env.kindOf x == some .local && p.line == pos.line && !(scope.names.any fun (n, k) => n == x && (k == .local || k == .cell))) : Sem Bool) = pure false
  rw [h]
  have : (some NameKind.cell == some NameKind.local) = false := rfl
  rw [this, Bool.and_false, Bool.false_and, Bool.false_and]

noncomputable def atv (l : List (Int × Int)) (k : Int) : Int := (atL l k).getD 0
noncomputable def bothF (one other : List (Int × Int)) : List (Int × Int) := ((one.map (·.1) ++ other.map (·.1)).map fun k => (k, atv one k + atv other k)).foldl (fun l p => dput l p.1 p.2) []
noncomputable def insR (l : List Int) (x : Int) : List Int := l.take (bisR l x l.length 0 l.length) ++ x :: l.drop (bisR l x l.length 0 l.length)
noncomputable def ranksF (both : List (Int × Int)) : List Int := (both.map (·.1)).foldl (fun l k => insR l (atv both k)) []
noncomputable def cutF (both : List (Int × Int)) (size : Nat) : Int := if size < (ranksF both).length then (ranksF both).getD ((ranksF both).length - size - 1) 0 else 0
noncomputable def joinedF (one other : List (Int × Int)) (size : Nat) : List (Int × Int) :=
  (((bothF one other).map (·.1)).filterMap fun k => if cutF (bothF one other) size < atv (bothF one other) k then some (k, atv (bothF one other) k - cutF (bothF one other) size) else none).foldl (fun l p => dput l p.1 p.2) []
theorem atv_at {l : List (Int × Int)} {k : Int} (h : k ∈ l.map (·.1)) : atL l k = some (atv l k) := by
  obtain ⟨p, hp, rfl⟩ := List.mem_map.mp h
  have : (l.find? fun kv => kv.1 = p.1).isSome = true := by rw [List.find?_isSome]; exact ⟨p, hp, by simp⟩
  obtain ⟨q, hq⟩ := Option.isSome_iff_exists.mp this
  simp [atv, atL, hq]
theorem insR_len (l : List Int) (x : Int) : (insR l x).length = l.length + 1 := by
  unfold insR
  rw [List.length_append, List.length_cons, ← Nat.add_assoc, ← List.length_append, List.take_append_drop]
theorem ranks_len (f : Int → Int) : ∀ (ks : List Int) (l : List Int), (ks.foldl (fun l k => insR l (f k)) l).length = l.length + ks.length
  | [], l => rfl
  | k :: ks, l => by rw [List.foldl_cons, ranks_len f ks, insR_len, List.length_cons]; omega

noncomputable abbrev nsB : List (Str × NameKind) := [((".0" : Str), .local), (("kind" : Str), .local), (("one" : Str), .cell), (("other" : Str), .cell)]
noncomputable abbrev nsC : List (Str × NameKind) := [((".0" : Str), .local), (("kind" : Str), .local), (("both" : Str), .cell), (("cut" : Str), .cell)]
noncomputable def dcOf : Option Stmt → Expr × Expr × List Expr
  | some (.Assign _ (.DictComp a b [⟨_, _, ifs, _⟩] _ _) _) => (a, b, ifs)
  | some (.Return (some (.DictComp a b [⟨_, _, ifs, _⟩] _ _)) _) => (a, b, ifs)
  | _ => (.Constant .none 0 ⟨0, 0, 0, 0⟩, .Constant .none 0 ⟨0, 0, 0, 0⟩, [])

theorem bothComp (one other : List (Int × Int)) (sc : Scope) (hsc : sc.names = nsB) : ∀ ks : List Int, DComps X k sc [none, none, some (.val (.dictI one)), some (.val (.dictI other))] 1 ("kind" : Str) [] (dcOf (fbody 77)[0]?).1 (dcOf (fbody 77)[0]?).2.1 (nums ks) (ks.map fun k => (k, atv one k + atv other k))
  | [] => .nil
  | q :: ks => by
    obtain ⟨kind, names, gen, co, more⟩ := sc
    simp only at hsc; subst hsc
    exact .keep (.nth 1 rfl) rfl (E_name (.nth 1 rfl)) (E_bin (E_meth (E_name (.nth 2 rfl)) (V_dget) (L_cons (E_name (.nth 1 rfl)) (L_cons E_int L_nil)) (C_dget)) (E_meth (E_name (.nth 3 rfl)) (V_dget) (L_cons (E_name (.nth 1 rfl)) (L_cons E_int L_nil)) (C_dget)) (B_add)) (bothComp one other _ rfl ks)
theorem cutComp (both : List (Int × Int)) (cut : Int) (sc : Scope) (hsc : sc.names = nsC) : ∀ ks : List Int, (∀ q ∈ ks, q ∈ both.map (·.1)) → DComps X k sc [none, none, some (.val (.dictI both)), some (.val (.int cut))] 1 ("kind" : Str) (dcOf (fbody 77)[4]?).2.2 (dcOf (fbody 77)[4]?).1 (dcOf (fbody 77)[4]?).2.1
      (nums ks) (ks.filterMap fun k => if cut < atv both k then some (k, atv both k - cut) else none)
  | [], _ => .nil
  | q :: ks, h => by
    obtain ⟨kind, names, gen, co, more⟩ := sc
    simp only at hsc; subst hsc
    have hk : q ∈ both.map (·.1) := h q (List.mem_cons_self ..)
    have ih := cutComp both cut ⟨kind, nsC, gen, co, more⟩ rfl ks fun z hz => h z (List.mem_cons_of_mem _ hz)
    by_cases hc : cut < atv both q
    · rw [List.filterMap_cons, if_pos hc]
      exact .keep (.nth 1 rfl) (show Tests _ _ _ _ _ _ from T_is (by simpa using hc) (T_cmp (E_sub (E_name (.nth 2 rfl)) (E_name (.nth 1 rfl)) (I_dictI (atv_at hk))) (E_name (.nth 3 rfl)) (C_gt))) (E_name (.nth 1 rfl)) (E_bin (E_sub (E_name (.nth 2 rfl)) (E_name (.nth 1 rfl)) (I_dictI (atv_at hk))) (E_name (.nth 3 rfl)) (B_sub)) ih
    · rw [List.filterMap_cons, if_neg hc]
      exact .skip (.nth 1 rfl) (show Tests _ _ _ _ _ _ from T_isnt (by simpa using hc) (T_cmp (E_sub (E_name (.nth 2 rfl)) (E_name (.nth 1 rfl)) (I_dictI (atv_at hk))) (E_name (.nth 3 rfl)) (C_gt))) ih

theorem rankLoop (F : Facts X) {one other both : List (Int × Int)} {size : Nat} : ∀ (ks : List Int) (l : List Int), (∀ q ∈ ks, q ∈ both.map (·.1)) → l.length + ks.length < 2 ^ 20 →
    ∃ o, Fors X (k + 2) (fscope 77) [some (.val (.dictI one)), some (.val (.dictI other)), some (.val (.int (size : Nat))), none, some (.val (.dictI both)), some (.own (nums l) none), none] (forOf (fbody 77)[2]?).1 (forOf (fbody 77)[2]?).2 (nums ks) (.next [some (.val (.dictI one)), some (.val (.dictI other)), some (.val (.int (size : Nat))), o, some (.val (.dictI both)), some (.own (nums (ks.foldl (fun l k => insR l (atv both k)) l)) none), none])
  | [], l, _, _ => ⟨none, F_nil fun _ _ => rfl⟩
  | q :: ks, l, h, hb => by
    rw [List.length_cons] at hb
    have hk : q ∈ both.map (·.1) := h q (List.mem_cons_self ..)
    obtain ⟨o, hf⟩ := rankLoop F ks (insR l (atv both q)) (fun z hz => h z (List.mem_cons_of_mem _ hz)) (by rw [insR_len]; omega)
    exact ⟨o, F_cons (.nth 3 rfl) (by exact S_cons (S_mutCall (.nth 5 rfl) (E_glob (.nth 8 rfl) F.g_insort_right fun _ _ => .val _) (keep2 F) (L_cons (E_sub (E_name (.nth 4 rfl)) (E_name (.nth 3 rfl)) (I_dictI (atv_at hk))) L_nil) K_nil (insortRN F (by omega)) (.nth 5 rfl)) S_nil) (F_less (by simp only [insR, nums, List.map_append, List.map_cons, List.map_take, List.map_drop]; exact .keep (.keep (.keep (.drop (.keep (.keep (.keep .nil))))))) hf)⟩
theorem joined_ok (F : Facts X) {one other : List (Int × Int)} {size : Nat} (h1 : one.length < 2 ^ 18) (h2 : other.length < 2 ^ 18) (hsz : size < 2 ^ 18) :
    CallV X (k + 4) true (.ref 174) [.dictI one, .dictI other, .int size] [] (.dictI (joinedF one other size)) := by
  refine ownFn F.f77 sc77 pb77 rfl F.nolim (by decide +kernel) (by decide +kernel) ?_
  refine X_less (Γ₁ := [some (.val (.dictI one)), some (.val (.dictI other)), some (.val (.int (size : Nat))), none, none, none, none]) (by exact .keep (.keep (.keep (.pad (.pad (.pad (.pad .nil))))))) ?_
  have hl : (bothF one other).length ≤ 2 ^ 19 := by
    have := dput_len ((one.map (·.1) ++ other.map (·.1)).map fun k => (k, atv one k + atv other k)) []
    simp only [List.length_map, List.length_append, List.length_nil] at this
    exact Nat.le_trans this (by omega)
  generalize hboth : bothF one other = both at hl
  have hrl : (ranksF both).length = both.length := by unfold ranksF; rw [ranks_len, List.length_map]; simp
  obtain ⟨o, hf⟩ := rankLoop (k := k + 1) F (one := one) (other := other) (both := both) (size := size) (both.map (·.1)) [] (fun _ h => h) (by rw [List.length_map]; simp; omega)
  have hit1 : (one.map (·.1) ++ other.map (·.1)).length ≤ sizeLine := by
    show _ ≤ 2 ^ 24
    rw [List.length_append, List.length_map, List.length_map]; omega
  refine S_cons (S_assignC (E_dictComp (bor := false) (I_list (EvalsN.evals (N_is (l := nums (one.map (·.1)) ++ nums (other.map (·.1))) (by rw [nums, nums, ← List.map_append]) (N_bin (EvalsN.evals (N_listDict (.nth 7 rfl) F.g_list (E_name .here) (by show _ ≤ 2 ^ 24; omega))) (EvalsN.evals (N_listDict (.nth 7 rfl) F.g_list (E_name (.nth 1 rfl)) (by show _ ≤ 2 ^ 24; omega))) (BN_add (by simp only [List.length_map]; show _ ≤ 2 ^ 24; omega))))))
    (ns' := nsB) ⟨.loc (.loc (.cell .here (.cell (.nth 1 rfl) .nil))), rfl, by decide +kernel, by decide +kernel, (by intro sl h; cases h), rfl⟩ (bothComp one other _ rfl (one.map (·.1) ++ other.map (·.1))) (by rw [nums, List.length_map]; exact hit1)) (.nth 4 rfl) swaps_dictC) ?_
  have eb : ((one.map (·.1) ++ other.map (·.1)).map fun k => (k, atv one k + atv other k)).foldl (fun l p => dput l p.1 p.2) [] = both := hboth
  rw [eb]
  refine S_cons (S_own (N_list L_nil (by decide)) (.nth 5 rfl)) (S_cons (S_for (I_dict (E_name (.nth 4 rfl))) hf) ?_)
  have er : (both.map (·.1)).foldl (fun l k => insR l (atv both k)) [] = ranksF both := rfl
  rw [er]
  refine S_cons (Γ' := [some (.val (.dictI one)), some (.val (.dictI other)), some (.val (.int (size : Nat))), o, some (.val (.dictI both)), some (.own (nums (ranksF both)) none), some (.val (.int (cutF both size)))]) ?_ ?_
  · by_cases hc : size < (ranksF both).length
    · have hlt : (ranksF both).length - size - 1 < (ranksF both).length := by omega
      have ec : cutF both size = (ranksF both).getD ((ranksF both).length - size - 1) 0 := by unfold cutF; rw [if_pos hc]
      rw [ec]
      exact S_assign (E_ifT (T_is (by simpa using hc) (T_cmp (E_call (E_glob (.nth 9 rfl) F.g_len fun _ _ => .val _) (keepB) (L_cons (E_own (.nth 5 rfl)) L_nil) K_nil (C_len_list (l := nums (ranksF both)) (by rw [List.length_map]; omega))) (E_name (.nth 2 rfl)) (C_gt))) (E_sub (E_own (.nth 5 rfl)) (E_is (a := .int (((nums (ranksF both)).length : Int) - (size : Int) - 1)) (by congr 1; rw [List.length_map]; omega) (E_bin (E_bin (E_call (E_glob (.nth 9 rfl) F.g_len fun _ _ => .val _) (keepB) (L_cons (E_own (.nth 5 rfl)) L_nil) K_nil (C_len_list (l := nums (ranksF both)) (by rw [List.length_map]; omega))) (E_name (.nth 2 rfl)) (B_sub)) E_int (B_sub))) (I_at (nums_at hlt) (by omega)))) (.nth 6 rfl)
    · have ec : cutF both size = 0 := by unfold cutF; rw [if_neg hc]
      rw [ec]
      exact S_assign (E_ifF (T_isnt (by simpa using hc) (T_cmp (E_call (E_glob (.nth 9 rfl) F.g_len fun _ _ => .val _) (keepB) (L_cons (E_own (.nth 5 rfl)) L_nil) K_nil (C_len_list (l := nums (ranksF both)) (by rw [List.length_map]; omega))) (E_name (.nth 2 rfl)) (C_gt))) E_int) (.nth 6 rfl)
  · unfold joinedF
    rw [hboth]
    exact S_consR (S_ret (E_dictComp (bor := false) (I_dict (E_name (.nth 4 rfl))) (ns' := nsC) ⟨.loc (.loc (.cell (.nth 4 rfl) (.cell (.nth 6 rfl) .nil))), rfl, by decide +kernel, by decide +kernel, (by intro sl h; cases h), rfl⟩
      (cutComp both (cutF both size) _ rfl (both.map (·.1)) fun _ h => h) (by rw [nums, List.length_map, List.length_map]; show _ ≤ 2 ^ 24; omega)))
end
end Mine
namespace Mine

section
variable {X : Cx} {k : Nat}
noncomputable def streamsF : List Int → List (List Int) → List Int → List (List Int) × List Int
  | [], done, last => (done, last)
  | s :: t, done, last => if s = 0 then streamsF t (done ++ [last]) [] else streamsF t done (last ++ [s])
noncomputable abbrev lists (l : List (List Int)) : List AV := l.map fun x => .list (nums x)

theorem streamLoop (F : Facts X) {syms : List Int} : ∀ (items : List Int) (done : List (List Int)) (last : List Int), done.length + last.length + items.length < 2 ^ 20 →
    ∃ o, Fors X (k + 1) (fscope 74) [some (.val (.list (nums syms))), some (.own2 (lists done) (nums last)), none] (forOf (fbody 74)[1]?).1 (forOf (fbody 74)[1]?).2 (nums items) (.next [some (.val (.list (nums syms))), some (.own2 (lists (streamsF items done last).1) (nums (streamsF items done last).2)), o])
  | [], done, last, _ => ⟨none, F_nil fun _ _ => rfl⟩
  | s :: items, done, last, hb => by
    rw [List.length_cons] at hb
    by_cases hs : s = 0
    · obtain ⟨o, hf⟩ := streamLoop F items (done ++ [last]) [] (by simp; omega)
      have e : streamsF (s :: items) done last = streamsF items (done ++ [last]) [] := by show (if _ then _ else _) = _; rw [if_pos hs]
      rw [e]
      exact ⟨o, F_cons (.nth 2 rfl) (by exact S_cons (S_ifT (T_is (by simpa using hs) (T_bool (E_call (E_glob (.nth 3 rfl) F.g_ISEOF fun _ _ => .val _) (keep70 F) (L_cons (E_name (.nth 2 rfl)) L_nil) K_nil (iseof_ok F s)))) (S_cons (S_own2push (.nth 1 rfl) (by rw [List.length_map]; show _ ≤ 2 ^ 24; omega) (.nth 1 rfl)) S_nil)) S_nil) (F_less (by simp only [lists, List.map_append, List.map_cons, List.map_nil]; exact .keep (.keep (.drop .nil))) hf)⟩
    · obtain ⟨o, hf⟩ := streamLoop F items done (last ++ [s]) (by simp; omega)
      have e : streamsF (s :: items) done last = streamsF items done (last ++ [s]) := by show (if _ then _ else _) = _; rw [if_neg hs]
      rw [e]
      exact ⟨o, F_cons (.nth 2 rfl) (by exact S_cons (S_ifF (T_isnt (by simpa using hs) (T_bool (E_call (E_glob (.nth 3 rfl) F.g_ISEOF fun _ _ => .val _) (keep70 F) (L_cons (E_name (.nth 2 rfl)) L_nil) K_nil (iseof_ok F s)))) (S_cons (S_own2app (.nth 1 rfl) (E_neg E_int) (E_name (.nth 2 rfl)) (by rw [List.length_map]; show _ ≤ 2 ^ 24; omega) (by rw [List.length_map]; omega) (.nth 1 rfl)) S_nil)) S_nil) (F_less (by simp only [nums, List.map_append, List.map_cons, List.map_nil]; exact .keep (.keep (.drop .nil))) hf)⟩
theorem streamsF_len : ∀ (items : List Int) (done : List (List Int)) (last : List Int), (streamsF items done last).1.length ≤ done.length + items.length
  | [], _, _ => Nat.le_refl _
  | s :: items, done, last => by
    unfold streamsF
    split
    · refine Nat.le_trans (streamsF_len items _ _) ?_
      simp only [List.length_append, List.length_cons, List.length_nil]; omega
    · refine Nat.le_trans (streamsF_len items _ _) ?_
      simp only [List.length_cons]; omega
theorem streams_ok (F : Facts X) {syms : List Int} (hb : syms.length < 2 ^ 18) : CallV X (k + 2) true (.ref 157) [.list (nums syms)] [] (.list (lists (streamsF syms [] []).1)) := by
  refine ownFn F.f74 sc74 pb74 rfl F.nolim (by decide +kernel) (by decide +kernel) ?_
  obtain ⟨o, hf⟩ := streamLoop (k := k) F (syms := syms) syms [] [] (by simp; omega)
  have hl := streamsF_len syms [] []
  refine X_less (Γ₁ := [some (.val (.list (nums syms))), none, none]) (by exact .keep (.pad (.pad .nil))) ?_
  exact S_cons (S_own2new (.nth 1 rfl)) (S_cons (S_for (I_list (E_name .here)) hf) (S_consR (S_retOwn2 (.nth 1 rfl) (E_neg E_int) (by rw [List.length_map]; show _ ≤ 2 ^ 24; simp at hl; omega))))
end
end Mine
namespace Mine

section
variable {X : Cx} {b : Bool} {k : Nat} {sc : Scope} {U W : Addr → Prop} {Γ Γ' Γ₁ Γ₂ : List (Option Slot)} {A : Around} {env : Env} {s : Shared} {r : Fl}

/-- a call of a def that closes over cells of the base heap -/
theorem call_clo {f : Addr} {o : Obj} {name qual : Str} {params : Arguments} {body : List Stmt} {scope : Scope} {clos : List (Str × Addr)} {doc pm cdv ct : Value} {vs : List Value} {binds : List (Str × Value)} {U' W0 : Addr → Prop} {ad bd : Nat → Addr} {Q : Value → Shared → Prop} {E : Value → Shared → Prop}
    (hob : X.hb.get? f = some o) (hd : o.data = .func (fnX name qual params body scope clos .none .none doc pm none cdv ct)) (hcr : X.hb.CodeRec cdv qual) (hlim : X.hb.NoLimit)
    (hk : scope.kind = .function) (hnod : (scope.names.map (·.1)).Nodup) (hndb : ∀ p ∈ scope.names, (p.1 == ("__debug__" : Str)) = false ∧ (p.1 == ("__classdict__" : Str)) = false) (hnco : scope.isCoroutine = false) (hngen : scope.isGenerator = false) (hnc : ∀ p ∈ scope.names, p.2 ≠ .cell) (hcod : codeFor scope = none)
    (G : Gr X (k + 1) U W A s) (hB : BindsTo s (fnX name qual params body scope clos .none .none doc pm none cdv ct) ⟨vs, []⟩ binds) (hloc : ∀ y ∈ binds, scope.names.lookup y.1 = some .local)
    (hclos : ∀ x c, clos.lookup x = some c → ∃ v, X.hb.IsCell c v) (hinj : ∀ x y c, clos.lookup x = some c → clos.lookup y = some c → x = y) (hfree : ∀ (i : Nat) x, scope.names[i]? = some (x, NameKind.free) → ∃ c, clos.lookup x = some c)
    (hU' : ∀ y, U' y → UW U W y) (Ut : ∀ a ∈ tabs, U' a) (Us : U' sysModules) (hW0 : ∀ y, W0 y → W y) (hd0 : ∀ y, W0 y → ¬ U' y)
    (hdj : ∀ (i j : Nat) sl sl', Γ'[i]? = some (some sl) → Γ'[j]? = some (some sl') → sl.isOwn = true → sl'.isOwn = true → i ≠ j → ad i ≠ ad j ∧ ad i ≠ bd j ∧ bd i ≠ bd j)
    (hsl : ∀ (i : Nat) x kd sl, scope.names[i]? = some (x, kd) → Γ'[i]? = some (some sl) → ∃ v, SlotR X.prog X.w U' W0 s.heap (ad i) (bd i) v sl ∧ ((kd = .local ∧ binds.reverse.lookup x = some v) ∨ (kd = .free ∧ ∃ c, clos.lookup x = some c ∧ X.hb.IsCell c (some v))))
    (h : ∀ env' h₁ tk₁ W' E', Rel X k scope U' W' Γ' (A.deeper env') env' { s with heap := h₁, toks := tk₁ } → (∀ y, W' y → W0 y ∨ s.heap.objs.size ≤ y) → (∀ b o, s.heap.get? b = some o → h₁.get? b = some o) → s.heap.objs.size ≤ h₁.objs.size →
      wpAny (model X.prog X.w) (A.deeper env') (execs body env') (fun fl s' => Q (match fl with | .ret v => v | _ => .none) s') E' { s with heap := h₁, toks := tk₁ }) :
    wpAny (model X.prog X.w) A (call (.ref f) vs) Q E s := by
  refine wpAny_call (codeAny_call_function G.am.room (G.base _ _ hob) hd hnco hngen rfl ?_ (hB _ _ _ _ ?_))
  · obtain ⟨c', oc, us, tq, hc, hoc, r⟩ := hcr
    exact ⟨c', oc, us, tq, hc, G.base _ _ hoc, r⟩
  refine wpAny_newFunctionEnv hnc hloc (fun h₁ hns hsb => ?_) hk
  have old : ∀ b o, s.heap.get? b = some o → h₁.get? b = some o := fun b o e => hsb.extBut b o (Nat.ne_of_lt (Heap.lt_size e)) (Heap.get?_push_of_some _ e)
  have sz : h₁.objs.size = s.heap.objs.size + 1 := by rw [hsb.1, Heap.size_push]
  refine ⟨(hlim.keeps G.base).keeps old, codeAny_func ?_⟩
  have hobj : ∀ b o', s.heap.get? b = some o' → ¬ UW U' W0 b → h₁.get? b = some o' ∧ ¬ UW U' (fun y => W0 y ∨ y = s.heap.objs.size) b := fun b o' e n => ⟨old b o' e, by
    rintro (z | z | z)
    · exact n (.inl z)
    · exact n (.inr z)
    · exact absurd (Heap.lt_size e) (Nat.not_lt.mpr (by rw [z]; exact Nat.le_refl _))⟩
  refine h _ h₁ _ (fun y => W0 y ∨ y = s.heap.objs.size) _ ?_ (fun y hy => hy.imp id fun z => by rw [z]; exact Nat.le_refl _) old (by rw [sz]; exact Nat.le_succ _)
  refine G.enter old (by rw [sz]; exact Nat.le_succ _) G.am.deeper rfl (fun a q e => (by rw [hcod] at e; cases e)) hk hnod hndb rfl rfl hU' Ut Us (fun y hy => hy.imp (hW0 y) fun z => ⟨Nat.le_of_eq z.symm, by rw [sz, z]; exact Nat.lt_succ_self _⟩)
    (fun y hy hu => hy.elim (fun z => hd0 y z hu) fun z => absurd ((hU' y hu).elim (G.Ult y) (G.Wlt y)) (Nat.not_lt.mpr (by rw [z]; exact Nat.le_refl _))) ⟨.inr rfl, _, hns⟩ (fun x c hc => ?_) hinj (fun i x kd e hkd => ?_) ⟨ad, bd, ?_, ?_⟩
  · obtain ⟨v, o, e, r⟩ := hclos x c hc
    exact ⟨.inr ⟨o, e⟩, v, o, old _ _ (G.base _ _ e), r⟩
  · rcases hkd with rfl | rfl
    · exact absurd rfl (hnc _ (List.mem_of_getElem? e))
    · obtain ⟨c, hc⟩ := hfree i x e
      exact ⟨c, hc, fun z => by cases z⟩
  · intro i j p p' sl sl' _ _ e1 e2
    exact hdj i j sl sl' e1 e2
  · intro i x kd sl e1 e2
    obtain ⟨v, hs, hw⟩ := hsl i x kd sl e1 e2
    refine ⟨v, ?_, ?_⟩
    · rcases hw with ⟨rfl, hb⟩ | ⟨rfl, c, hc, o, e, r⟩
      · exact ⟨_, hns, hb⟩
      · exact ⟨c, hc, o, old _ _ (G.base _ _ e), r⟩
    · cases sl with
      | val av => exact VR.change hobj hs
      | own l o =>
        obtain ⟨rfl, hba, hw, us, n, e, r⟩ := hs
        exact ⟨rfl, hba, .inl hw, us, n, old _ _ e, r.change hobj⟩
      | own2 l last =>
        obtain ⟨rfl, hw, hw2, ne, us, n, ws, m, e, e2, r, r2⟩ := hs
        exact ⟨rfl, .inl hw, .inl hw2, ne, us, n, ws, m, old _ _ e, old _ _ e2, r.change hobj, r2.change hobj⟩

/-- a def inside a def -/
theorem def_clo {name q₀ qual : Str} {params : Arguments} {body : List Stmt} {scope : Scope} {pos : Pos} {c P : Addr} {mg : Str → Option Value} {i : Nat} {kd : NameKind} {Γf : Addr → List (Option Slot)} {Q : Flow → Shared → Prop} {E : Value → Shared → Prop}
    (R : Rel X k sc U W Γ A env s) (hcf : codeFor sc = some (c, q₀)) (hq : qual = q₀ ++ (".<locals>." : Str) ++ name) (hT : (P, pos, qual) ∈ X.T) (hTu : ∀ y ∈ X.T, y.1 = P → y = (P, pos, qual)) (hC : CodeHd X.hb c P) (hg : X.hb.Ns mainGlobals mg) (hbm : X.hb.BuiltinsAt mg P)
    (hd0 : params.defaults = []) (hk0 : params.kw_defaults = []) (ha : ∀ env, annTrees params none env = []) (hnf : ∀ p ∈ scope.names, p.2 = .free → ∃ (j : Nat) (kd : NameKind), sc.names[j]? = some (p.1, kd) ∧ (kd = .cell ∨ kd = .free)) (hname : sc.names[i]? = some (name, kd))
    (p : ∀ f, Put sc.names Γ i name kd (.val (.val (.ref f))) (Γf f)) (hkd : kd = .local ∨ kd = .cell)
    (q : ∀ f c' ctv doc pm h' tk, Rel X k sc U W (Γf f) A env { s with heap := h', toks := tk } → (∀ b o, s.heap.get? b = some o → ¬ W b → b ∉ tabs → h'.get? b = some o) → s.heap.objs.size ≤ h'.objs.size → s.heap.objs.size ≤ f → ¬ UW U W f → ¬ UW U W c' → c' ∉ tabs →
      h'.get? f = some { cls := .type "function", data := .func (fnX name qual params body scope (closL env scope.names []) .none .none doc pm none (.ref c') ctv) } → h'.CodeRec (.ref c') qual → Q .next { s with heap := h', toks := tk }) :
    wpAny (model X.prog X.w) A (exec (.FunctionDef name params body [] none [] scope none name pos) env) Q E s := by
  have hcl : closureFor scope env = pure (closL env scope.names []) := closureFor_at fun p hp hf => by
    obtain ⟨j, kd, e, hkd⟩ := hnf p hp hf
    obtain ⟨c, hc, _⟩ := R.chas _ _ _ e hkd
    exact ⟨c, hc⟩
  obtain ⟨hcode, hqual⟩ := R.cod c q₀ hcf
  have hqn : qualnameIn env name name = qual := by
    unfold qualnameIn
    rw [R.kindOf hname, hqual, hq]
    rcases hkd with rfl | rfl <;> rfl
  have hPt : P ∈ tabs := X.hT _ hT
  have hgs := hg.keeps R.base
  have hCs := hC.keeps R.base
  have hgP : mainGlobals ≠ P := fun z => by
    obtain ⟨o, es, ep, e, _⟩ := hg
    exact (R.bW _ _ e).2 (z ▸ hPt)
  obtain ⟨bm, ob, b1, b2, b3, b4, b5, b6⟩ := hbm
  have hbs : s.heap.BuiltinsAt mg P := ⟨bm, ob, b1, b2, b3, b4, R.base _ _ b5, b6⟩
  refine nestDef_K hd0 hk0 (ha env) ?_
  rw [hqn]
  -- the end, alike for both ways
  have fin : ∀ c' ctv doc h' tk, Aft X.T (UW U W) s.heap h' → ¬ UW U W c' → c' ∉ tabs → h'.CodeRec (.ref c') qual →
      wpAny (model X.prog X.w) A (storeName env name (.ref h'.objs.size)) (fun _ s'' => Q .next s'') E { s with heap := h'.push { cls := .type "function", data := .func (fnX name qual params body scope (closL env scope.names []) .none .none doc ((mg "__name__").getD .none) none (.ref c') ctv) }, toks := tk } := by
    intro c' ctv doc h' tk a hc1 hc2 hrec
    have a' := a.trans (.push a.tab { cls := .type "function", data := .func (fnX name qual params body scope (closL env scope.names []) .none .none doc ((mg "__name__").getD .none) none (.ref c') ctv) })
    have R₁ := R.after (tk := tk) a'
    have hf : (h'.push { cls := .type "function", data := .func (fnX name qual params body scope (closL env scope.names []) .none .none doc ((mg "__name__").getD .none) none (.ref c') ctv) }).get? h'.objs.size = some { cls := .type "function", data := .func (fnX name qual params body scope (closL env scope.names []) .none .none doc ((mg "__name__").getD .none) none (.ref c') ctv) } := Heap.get?_push_size _ rfl
    have hff : ¬ UW U W h'.objs.size := R.fresh a.size
    obtain ⟨ad, bd, V⟩ := R₁.vars
    refine R₁.store (a := 0) (c := 0) V (p h'.objs.size) hkd (.val _) (fun o => by cases o) fun h₃ tk₃ R₃ kp sz => ?_
    refine q h'.objs.size c' ctv doc _ h₃ tk₃ R₃ (fun b o e nW nt => kp b o (a'.keep b o e nt) nW) (Nat.le_trans a'.size sz) a.size hff hc1 hc2 (kp _ _ hf fun z => hff (.inr z)) ?_
    obtain ⟨c2, oc, us, tq, hc, hoc, r⟩ := hrec
    cases hc
    exact ⟨_, oc, us, tq, rfl, kp _ _ (Heap.get?_push_of_some _ hoc) (fun z => hc1 (.inr z)), r⟩
  rcases R.tab.at_ _ hT with e | ⟨c', h1, h2, h3, e⟩
  · refine makeFunction_K (ps := #[]) hcl R.glob hgs hcode hCs e trivial rfl hgP hbs fun c' ctv doc h' tk hx hge hlt hrec htb => ?_
    refine fin c' ctv doc h' tk ⟨fun b o eb nt => hx b o (fun z => nt (z ▸ hPt)) eb, Nat.le_of_lt (Nat.lt_of_le_of_lt hge hlt), ⟨fun y hy => ?_⟩⟩ (R.fresh hge) (fun z => R.fresh hge (.inl (R.Ut _ z))) hrec
    by_cases hyP : y.1 = P
    · have := hTu y hy hyP
      subst this
      exact .inr ⟨c', R.fresh hge, fun z => R.fresh hge (.inl (R.Ut _ z)), hrec, by simpa using htb⟩
    · rcases R.tab.at_ y hy with e' | ⟨c2, h1, h2, ⟨c3, oc, us, tq, hc, hoc, r⟩, e'⟩
      · exact .inl (hx _ _ hyP e')
      · refine .inr ⟨c2, h1, h2, ⟨c3, oc, us, tq, hc, hx _ _ ?_ hoc, r⟩, hx _ _ hyP e'⟩
        cases hc
        exact fun z => h2 (z ▸ hPt)
  · refine makeFunction_hit (ps := #[rawInt pos.line, rawInt pos.col, .ref c']) hcl R.glob hgs hcode hCs e trivial (cv := .ref c') ?_ hbs fun ctv doc h' tk hk sz => ?_
    · exact codeAmong_snoc [] trivial rfl
    · refine fin c' ctv doc h' tk (.ext R.tab hk sz) h1 h2 ?_
      obtain ⟨c3, oc, us, tq, hc, hoc, r⟩ := h3
      exact ⟨c3, oc, us, tq, hc, hk _ _ hoc, r⟩
end
end Mine
namespace Mine

noncomputable section
open Classical in
/-- a heap with some of its places hidden -/
@[irreducible] noncomputable def hidP (h : Heap) (V : Addr → Prop) : Heap := hideAll h ((List.range h.objs.size).filter fun a => decide (V a))
end
open Classical in
theorem hidP_eq (h : Heap) (V : Addr → Prop) : hidP h V = hideAll h ((List.range h.objs.size).filter fun a => decide (V a)) := by unfold hidP; rfl
theorem hidP_get {h : Heap} {V : Addr → Prop} {b : Addr} {o : Obj} (e : h.get? b = some o) (n : ¬ V b) : (hidP h V).get? b = some o := by
  rw [hidP_eq]
  exact hideAll_get _ e fun q => n (by simpa using (List.mem_filter.mp q).2)
theorem of_hidP {h : Heap} {V : Addr → Prop} {b : Addr} {o : Obj} (e : (hidP h V).get? b = some o) : h.get? b = some o ∧ ¬ V b := by
  rw [hidP_eq] at e
  have e' := of_hideAll _ e
  refine ⟨e', fun v => ?_⟩
  rw [hideAll_none _ (List.mem_filter.mpr ⟨List.mem_range.mpr (Heap.lt_size e'), by simpa using v⟩)] at e
  cases e

/-- what a frame makes stable: all but what it keeps to change -/
noncomputable def upV (U W D : Addr → Prop) (y : Addr) : Prop := U y ∨ (W y ∧ D y)
noncomputable def upW (W D : Addr → Prop) (y : Addr) : Prop := W y ∧ D y
noncomputable def upX (X : Cx) (U W D : Addr → Prop) (h : Heap) : Cx := { X with hb := hidP h (upV U W D) }

section
variable {X : Cx} {b : Bool} {k : Nat} {sc : Scope} {U W D : Addr → Prop} {Γ Γ' Γ₁ Γ₂ : List (Option Slot)} {A : Around} {env : Env} {s : Shared} {r : Fl}

theorem upX_get {h : Heap} {b : Addr} {o : Obj} (e : h.get? b = some o) (n : ¬ U b) (n2 : ¬ (W b ∧ D b)) : (upX X U W D h).hb.get? b = some o :=
  hidP_get e fun q => q.elim n n2
theorem upX_mono (R : Rel X k sc U W Γ A env s) : ∀ b o, X.hb.get? b = some o → (upX X U W D s.heap).hb.get? b = some o := fun b o e =>
  hidP_get (R.base b o e) fun q => q.elim (R.bU b o e) fun q => (R.bW b o e).1 q.1
theorem Rel.up (R : Rel X k sc U W Γ A env s) : Gr (upX X U W D s.heap) k U (upW W D) A s := by
  refine ⟨R.am, fun b o e => (of_hidP e).1, fun b o e => ⟨fun z => (of_hidP e).2 (.inr z), fun z => (of_hidP e).2 (.inl (R.Ut _ z))⟩, fun b o e z => (of_hidP e).2 (.inl z), R.tab.sub fun y hy => hy.imp id (·.1), R.Ult, fun a h => R.Wlt a h.1, fun a h => R.dis a h.1, R.Ut, R.Us⟩
theorem Gr.down (G : Gr X (k + 1) U W A s) : Gr X k U W A s := ⟨G.am.down, G.base, G.bW, G.bU, G.tab, G.Ult, G.Wlt, G.dis, G.Ut, G.Us⟩
theorem Gr.after {h' : Heap} {tk : Nat} (G : Gr X k U W A s) (a : Aft X.T (UW U W) s.heap h') : Gr X k U W A { s with heap := h', toks := tk } :=
  ⟨G.am, fun b o e => a.keep b o (G.base b o e) (G.bW b o e).2, G.bW, G.bU, a.tab, fun b hb => Nat.lt_of_lt_of_le (G.Ult b hb) a.size, fun b hb => Nat.lt_of_lt_of_le (G.Wlt b hb) a.size, G.dis, G.Ut, G.Us⟩

/-- a call on a ground: whoever calls -/
noncomputable def CallG (X : Cx) (k : Nat) (f : Value) (as : List AV) (c : AV) : Prop :=
  ∀ ⦃U W A s Q E vs⦄, Gr X k U W A s → VBs false X.prog X.w U W s.heap vs as →
    (∀ r h' tk, Aft X.T (UW U W) s.heap h' → VB true X.prog X.w U W h' r c → Q r { s with heap := h', toks := tk }) → wpAny (model X.prog X.w) A (call f vs) Q E s
theorem CallG.v {f : Value} {as : List AV} {c : AV} (h : CallG X k f as c) : CallV X k false f as [] c := by
  intro sc U W Γ A env s Q E vs ks R hv hk q
  cases hk
  exact h R.gr hv q

/-- a call of a function that lies in the heap -/
theorem E_callR {func e : Expr} {rest : List Expr} {pos : Pos} {fa : Addr} {o : Obj} {fd : FuncData} {as : List AV} {b' : Bool} {Q : Value → Shared → Prop} {E : Value → Shared → Prop}
    (hf : Evals X false k sc Γ func (.val (.ref fa))) (ho : s.heap.get? fa = some o) (hd : o.data = .func fd) (hnt : fa ∉ tabs) (ha : EvalsL X b' k sc Γ (e :: rest) as) (R : Rel X k sc U W Γ A env s)
    (q : ∀ vs h' tk, Aft X.T (UW U W) s.heap h' → VBs b' X.prog X.w U W h' vs as → wpAny (model X.prog X.w) A (call (.ref fa) vs) Q E { s with heap := h', toks := tk })
    (he : ∀ env, eval (.Call func (e :: rest) [] pos) env = (do callWith pos (← eval func env) [] (backTo pos (starEach (e :: rest) env)) (backToKw pos (keywordEach [] env))) := by intro _; rfl)
    (hns : ∀ env, (backTo pos (starEach (e :: rest) env)).any (·.1) = false := by intro _; rfl) (hst : ∀ env, starEach (e :: rest) env = (false, eval e env) :: starEach rest env := by intro _; rfl) :
    wpAny (model X.prog X.w) A (eval (.Call func (e :: rest) [] pos) env) Q E s := by
  rw [he]
  refine wpAny_bind (hf R fun v h₁ t₁ a₁ q₁ => ?_)
  cases q₁.val
  have R₁ := R.after (tk := t₁) a₁
  have hkw : EvalsK X b' k sc Γ [] [] := K_nil
  have hk0 := hkw pos (Q := fun vs s => True) (E := fun _ _ => True) R
  refine callWith_of (P := fun h => h.get? fa = some o) (by rw [hns, hk0.2.2.1]; rfl) (fun h hb => ?_) ?_
  · refine ⟨.frame, .inl rfl, fun A Q E s kk q => ?_⟩
    unfold keeperOf
    refine wpAny_bind (wpAny_load (kk _ _ hb) ?_)
    rw [hd]
    exact wpAny_pure q
  refine evalArgs_kw2 hk0.2.1 (ha pos R₁ fun vs h₂ t₂ a₂ q₂ => ?_) (hst env)
  have R₂ := R₁.after (tk := t₂) a₂
  refine (hkw pos R₂).2.2.2 fun ks h₃ t₃ a₃ q₃ => ?_
  cases q₃
  refine ⟨a₃.keep _ _ (a₂.keep _ _ (a₁.keep _ _ ho hnt) hnt) hnt, ?_⟩
  exact q _ _ _ ((a₁.trans a₂).trans a₃) (q₂.after R₁ a₃)
end
end Mine
namespace Mine

section
variable {X : Cx} {b : Bool} {k : Nat} {sc : Scope} {U W D : Addr → Prop} {Γ Γ' Γ₁ Γ₂ : List (Option Slot)} {A : Around} {env : Env} {s : Shared} {r : Fl}

/-- a call that changes the list at one place -/
noncomputable def CallM (X : Cx) (k : Nat) (f : Value) (ad : Addr) (l : List Int) (as : List AV) (l' : List Int) : Prop :=
  ∀ ⦃U W A s Q E vs us n⦄, Gr X k U W A s → W ad → s.heap.get? ad = some (LObj us n) → IntsAre us l → VBs false X.prog X.w U W s.heap vs as →
    (∀ h' tk us' n', (∀ b o, s.heap.get? b = some o → b ≠ ad → b ∉ tabs → h'.get? b = some o) → s.heap.objs.size ≤ h'.objs.size → TabOk X.T (UW U W) h' → h'.get? ad = some (LObj us' n') → IntsAre us' l' → Q .none { s with heap := h', toks := tk }) →
    wpAny (model X.prog X.w) A (call f vs) Q E s

theorem S_cloCall {i : Nat} {x : Str} {kd : NameKind} {l l' : List Int} {ad : Addr} {func e : Expr} {rest : List Expr} {pos spos : Pos} {f : Value} {as : List AV}
    (L : Look sc.names Γ i x kd (.own (nums l) (some ad))) (hf : Evals X false k sc Γ func (.val f)) (hk : KeepF X f) (ha : EvalsL X false k sc Γ (e :: rest) as) (hm : CallM X k f ad l as l') (p : Put sc.names Γ i x kd (.own (nums l') (some ad)) Γ')
    (he : ∀ env, eval (.Call func (e :: rest) [] pos) env = (do callWith pos (← eval func env) [] (backTo pos (starEach (e :: rest) env)) (backToKw pos (keywordEach [] env))) := by intro _; rfl)
    (hns : ∀ env, (backTo pos (starEach (e :: rest) env)).any (·.1) = false := by intro _; rfl) (hst : ∀ env, starEach (e :: rest) env = (false, eval e env) :: starEach rest env := by intro _; rfl)
    (hs : ∀ env, swapsWith (.Call func (e :: rest) [] pos) none spos.line env = pure false := by intro _; rfl) :
    Exec X k sc Γ (.Expr (.Call func (e :: rest) [] pos) spos) (.next Γ') := by
  intro U W A env s Q E R q
  refine wpAny_Expr ?_ (interactive_fn R.isFn) (hs env)
  refine E_callC hf hk ha K_nil R (fun vs ks h₁ t₁ a₁ h1 h2 => ?_) he hns hst
  cases h2
  have R₁ := R.after (tk := t₁) a₁
  obtain ⟨a, us, n, hao, hw, e0, hr, _, mt⟩ := R₁.own_at L
  cases hao _ rfl
  refine hm R₁.gr hw e0 hr.areInts h1 fun h₄ t₄ us' n' kp sz ht e4 hr4 => ?_
  obtain ⟨R₄, c⟩ := mt h₄ t₄ _ us' n' Γ' p kp sz ht e4 (.of_ints hr4)
  exact q W h₄ t₄ R₄ ((Chg.of_aft a₁).trans c)

/-- a body that ends, with or without a bare return -/
noncomputable def ExecsM (X : Cx) (k : Nat) (sc : Scope) (Γ : List (Option Slot)) (ss : List Stmt) (Γ₂ : List (Option Slot)) : Prop :=
  ∀ ⦃U W A env s Q E⦄, Rel X k sc U W Γ A env s → (∀ W' h' tk fl, fl = Flow.next ∨ fl = Flow.ret .none → Rel X k sc U W' Γ₂ A env { s with heap := h', toks := tk } → Chg W W' s.heap h' → Q fl { s with heap := h', toks := tk }) →
    wpAny (model X.prog X.w) A (execs ss env) Q E s
theorem ExecsM.of {ss : List Stmt} (h : Execs X k sc Γ ss (.next Γ₂)) : ExecsM X k sc Γ ss Γ₂ := fun _ _ _ _ _ _ _ R q => h R fun W' h' tk R' c => q W' h' tk _ (.inl rfl) R' c
theorem XM_cons {st : Stmt} {rest : List Stmt} (h1 : Exec X k sc Γ st (.next Γ₁)) (h2 : ExecsM X k sc Γ₁ rest Γ₂) : ExecsM X k sc Γ (st :: rest) Γ₂ := by
  intro U W A env s Q E R q
  refine wpAny_execs_cons (h1 R ?_)
  intro W' h' tk R' c
  exact h2 R' fun W'' h'' tk' fl hf R'' c' => q W'' h'' tk' fl hf R'' (c.trans c')
theorem XM_ret {pos : Pos} {rest : List Stmt} : ExecsM X k sc Γ (.Return none pos :: rest) Γ := by
  intro U W A env s Q E R q
  exact wpAny_execs_cons (wpAny_Return_none (q W s.heap s.toks _ (.inr rfl) R (.of_aft (Aft.refl R))))
theorem XM_ifRet {c : Expr} {ss ss' rest : List Stmt} {pos : Pos} (h1 : Tests X k sc Γ c true) (h2 : ∀ ⦃U W A env s Q E⦄, Rel X k sc U W Γ A env s → (∀ W' h' tk, Rel X k sc U W' Γ₂ A env { s with heap := h', toks := tk } → Chg W W' s.heap h' → Q (Flow.ret .none) { s with heap := h', toks := tk }) →
    wpAny (model X.prog X.w) A (execs ss env) Q E s) : ExecsM X k sc Γ (.If c ss ss' pos :: rest) Γ₂ := by
  intro U W A env s Q E R q
  refine wpAny_execs_cons (wpAny_If (h1 R fun h₁ t₁ a₁ => h2 (R.after a₁) fun W' h' tk R' ch => ?_))
  exact q W' h' tk _ (.inr rfl) R' ((Chg.of_aft a₁).trans ch)
end
end Mine
namespace Mine
noncomputable def inB (s : Option Stmt) : List Stmt := match s with | some (.FunctionDef _ _ b ..) => b | _ => []
noncomputable def inP (s : Option Stmt) : Arguments := match s with | some (.FunctionDef _ p ..) => p | _ => { posonlyargs := [], args := [], vararg := none, kwonlyargs := [], kw_defaults := [], kwarg := none, defaults := [] }
noncomputable def inS (s : Option Stmt) : Scope := match s with | some (.FunctionDef _ _ _ _ _ _ s ..) => s | _ => { kind := .function, names := [], isGenerator := false, isCoroutine := false }
noncomputable abbrev d11 : Option Stmt := (fbody 11)[0]?
noncomputable abbrev q11 : Str := ("_digits2int" : Str) ++ (".<locals>." : Str) ++ ("inner" : Str)
noncomputable abbrev ns11 : List (Str × NameKind) := [(("L" : Str), .local), (("R" : Str), .local), (("mid" : Str), .local), (("shift" : Str), .local), (("digits" : Str), .free), (("inner" : Str), .free), (("n" : Str), .free)]
theorem en11 : (inS d11).names = ns11 := by rfl

/-- scopes of nested functions -/
structure ScIn (sc : Scope) : Prop where
  kind : sc.kind = .function
  nod : (sc.names.map (·.1)).Nodup
  ndb : ∀ p ∈ sc.names, (p.1 == ("__debug__" : Str)) = false ∧ (p.1 == ("__classdict__" : Str)) = false
  nco : sc.isCoroutine = false
  ngen : sc.isGenerator = false
  nc : ∀ p ∈ sc.names, p.2 ≠ .cell
  cod : codeFor sc = none
noncomputable def scIn (sc : Scope) : Bool := sc.kind == .function && decide (sc.names.map (·.1)).Nodup && (sc.names.all fun p => !(p.1 == ("__debug__" : Str)) && !(p.1 == ("__classdict__" : Str)) && p.2 != .cell) && !sc.isCoroutine && !sc.isGenerator && (codeFor sc).isNone
theorem ScIn.of {sc : Scope} (h : scIn sc = true) : ScIn sc := by
  unfold scIn at h
  simp only [Bool.and_eq_true, List.all_eq_true, Bool.not_eq_true', decide_eq_true_eq, bne_iff_ne] at h
  obtain ⟨⟨⟨⟨⟨h1, h2⟩, h3⟩, h4⟩, h5⟩, h6⟩ := h
  exact ⟨eq_of_beq h1, h2, fun p hp => (h3 p hp).1, h4, h5, fun p hp => (h3 p hp).2, Option.isNone_iff_eq_none.mp h6⟩
theorem si11 : ScIn (inS d11) := .of (by decide +kernel)

theorem VR.base {prog : Program} {w : World} {h h' : Heap} {V : Addr → Prop} {v : Value} {a : AV} (q : VR prog w (fun _ => False) h v a) (hb : ∀ b o, h.get? b = some o → h'.get? b = some o ∧ ¬ V b) : VR prog w V h' v a :=
  q.change fun b o e _ => hb b o e

noncomputable def d2i (n : Nat) : List Int → Int
  | [] => 0
  | d :: t => d + d2i n t * 2 ^ n
theorem d2i_append {n : Nat} : ∀ {xs ys : List Int}, d2i n (xs ++ ys) = d2i n xs + d2i n ys * 2 ^ (n * xs.length)
  | [], ys => by simp [d2i]
  | x :: xs, ys => by
    show x + d2i n (xs ++ ys) * 2 ^ n = x + d2i n xs * 2 ^ n + d2i n ys * 2 ^ (n * (xs.length + 1))
    rw [d2i_append, Nat.mul_add, Nat.mul_one, Int.pow_add, Int.add_mul, Int.mul_assoc, Int.add_assoc]
theorem d2i_bits {n m : Nat} : ∀ {xs : List Int}, (∀ x ∈ xs, Builtin.Int.intBits x ≤ m) → Builtin.Int.intBits (d2i n xs) ≤ m + (n + 2) * xs.length
  | [], _ => by simp [d2i]; rw [intBits_le_iff]; exact Nat.pow_pos (by decide)
  | x :: xs, h => by
    have h1 := d2i_bits (n := n) fun y hy => h y (.tail _ hy)
    have h2 : Builtin.Int.intBits ((2 : Int) ^ n) ≤ n + 1 := intBits_le_iff.mpr (by rw [Int.natAbs_pow]; show 2 ^ n < 2 ^ (n + 1); exact Nat.pow_lt_pow_right (by decide) (Nat.lt_succ_self _))
    refine Nat.le_trans (intBits_add_le (h x (.head _)) (intBits_mul_le h1 h2)) ?_
    rw [List.length_cons, Nat.mul_add]
    omega
noncomputable abbrev seg (xs : List Int) (L R : Nat) : List Int := (xs.drop L).take (R - L)
theorem seg_split {xs : List Int} {L M R : Nat} (h1 : L ≤ M) (h2 : M ≤ R) : seg xs L R = seg xs L M ++ seg xs M R := by
  have : R - L = (M - L) + (R - M) := by rw [Nat.add_comm, Nat.sub_add_sub_cancel h2 h1]
  unfold seg
  rw [this, List.take_add, List.drop_drop]
  rw [Nat.add_sub_cancel' h1]
theorem seg_len {xs : List Int} {L R : Nat} (h2 : R ≤ xs.length) : (seg xs L R).length = R - L := by
  unfold seg
  rw [List.length_take, List.length_drop, Nat.min_eq_left (Nat.sub_le_sub_right h2 _)]
theorem seg_one {xs : List Int} {L : Nat} (h : L < xs.length) : seg xs L (L + 1) = [xs[L]] := by
  unfold seg
  rw [List.drop_eq_getElem_cons h, Nat.add_sub_cancel_left]; rfl
theorem seg_mem {xs : List Int} {L R : Nat} {x : Int} (h : x ∈ seg xs L R) : x ∈ xs := List.mem_of_mem_drop (List.mem_of_mem_take h)

section
variable {X : Cx} {k : Nat}
structure In11 (X : Cx) (f : Addr) (xs : List Int) (n : Nat) : Prop where
  at_ : ∃ o doc pm cdv ct cd cn ci vd tn, X.hb.get? f = some o ∧ o.data = .func (fnX ("inner" : Str) q11 (inP d11) (inB d11) (inS d11) [(("n" : Str), cn), (("inner" : Str), ci), (("digits" : Str), cd)] .none .none doc pm none cdv ct) ∧ X.hb.CodeRec cdv q11 ∧
    X.hb.IsCell cd (some vd) ∧ VR X.prog X.w (fun _ => False) X.hb vd (.list (nums xs)) ∧ X.hb.IsCell cn (some (.int n tn)) ∧ X.hb.IsCell ci (some (.ref f)) ∧ cd ≠ cn ∧ cd ≠ ci ∧ cn ≠ ci

theorem bits64 {i : Int} (h0 : -2 ^ 40 < i) (h1 : i < 2 ^ 40) : Builtin.Int.intBits i ≤ 64 := intBits_le_iff.mpr (by
  have : (2 : Nat) ^ 64 = 18446744073709551616 := by decide
  omega)
theorem inner11_body {f : Addr} {xs : List Int} {n m : Nat} (hk : KeepF X (.ref f)) (hx : ∀ x ∈ xs, Builtin.Int.intBits x ≤ m) (hn : n ≤ 64) (hm : m ≤ 64) (hl : xs.length ≤ 2 ^ 10) {L R : Nat} (hLR : L < R) (hR : R ≤ xs.length)
    (ih : ∀ L' R' : Nat, L' < R' → R' ≤ xs.length → R' - L' < R - L → CallG X (k + 1) (.ref f) [.int (L' : Nat), .int (R' : Nat)] (.int (d2i n (seg xs L' R')))) :
    Execs X (k + 1) (inS d11) [some (.val (.int (L : Nat))), some (.val (.int (R : Nat))), none, none, some (.val (.list (nums xs))), some (.val (.val (.ref f))), some (.val (.int (n : Nat)))] (inB d11) (.ret (.int (d2i n (seg xs L R)))) := by
  have kf := hk
  by_cases h1 : L + 1 = R
  · subst h1
    have hL : (nums xs)[L]? = some (.int (d2i n (seg xs L (L + 1)))) := by
      rw [List.getElem?_map, List.getElem?_eq_getElem hR, seg_one hR]
      simp [d2i]
    exact S_consR (S_ifT (T_is (by simp) (T_cmp (E_bin (E_name .here) E_int (B_add)) (E_name (.nth 1 rfl)) (C_eq))) (S_consR (S_ret (E_sub (E_name (.nth 4 rfl)) (E_name .here) (I_at hL (by omega))))))
  · have hm1 : L < (L + R) / 2 := by omega
    have hm2 : (L + R) / 2 < R := by omega
    generalize hM : (L + R) / 2 = M at hm1 hm2
    have hr1 := ih M R hm2 hR (by omega)
    have hr2 := ih L M hm1 (by omega) (by omega)
    have e1 : AV.int (((L : Int) + (R : Int)).fdiv (2 ^ (1 : Int).toNat)) = .int (M : Nat) := by
      congr 1
      show ((L : Int) + (R : Int)).fdiv 2 = _
      rw [Int.fdiv_eq_ediv_of_nonneg _ (by decide)]
      omega
    have e2 : AV.int (((M : Int) - (L : Int)) * (n : Int)) = .int (((M - L) * n : Nat) : Int) := by
      congr 1
      rw [Int.natCast_mul, Int.ofNat_sub (Nat.le_of_lt hm1)]
    have hb := d2i_bits (n := n) (xs := seg xs M R) (m := m) fun x hx' => hx x (seg_mem hx')
    rw [seg_len hR] at hb
    have hb1 : (n + 2) * (R - M) ≤ 66 * 1024 := Nat.mul_le_mul (by omega) (by omega)
    have hb2 : (M - L) * n ≤ 1024 * 64 := Nat.mul_le_mul (by omega) (by omega)
    have hshl : (Builtin.Int.intBits (d2i n (seg xs M R)) : Int) + (((M - L) * n : Nat) : Int) ≤ 2 ^ 27 := by omega
    have e3 : AV.int (d2i n (seg xs M R) * 2 ^ ((((M - L) * n : Nat) : Int)).toNat + d2i n (seg xs L M)) = .int (d2i n (seg xs L R)) := by
      congr 1
      rw [Int.toNat_natCast, seg_split (Nat.le_of_lt hm1) (Nat.le_of_lt hm2), d2i_append, seg_len (by omega), Nat.mul_comm n, Int.add_comm]
    refine S_cons (S_ifF (T_isnt (by simpa using fun h => h1 (by omega)) (T_cmp (E_bin (E_name .here) E_int (B_add)) (E_name (.nth 1 rfl)) (C_eq))) S_nil) ?_
    refine S_cons (S_assign (E_is e1 (E_bin (E_bin (E_name .here) (E_name (.nth 1 rfl)) (B_add)) E_int (B_shr (by decide)))) (.nth 2 rfl)) ?_
    refine S_cons (S_assign (E_is e2 (E_bin (E_bin (E_name (.nth 2 rfl)) (E_name .here) (B_sub)) (E_name (.nth 6 rfl)) (B_mul (.of_left (bits64 (by omega) (by omega)))))) (.nth 3 rfl)) ?_
    exact S_consR (S_ret (E_is e3 (E_bin (E_bin (E_call (E_name (.nth 5 rfl)) (kf) (L_cons (E_name (.nth 2 rfl)) (L_cons (E_name (.nth 1 rfl)) L_nil)) K_nil (hr1.v)) (E_name (.nth 3 rfl)) (B_shl (by omega) hshl)) (E_call (E_name (.nth 5 rfl)) (kf) (L_cons (E_name .here) (L_cons (E_name (.nth 2 rfl)) L_nil)) K_nil (hr2.v)) (B_add))))

theorem inner11 {f : Addr} {xs : List Int} {n m : Nat} (F : Facts X) (H : In11 X f xs n) (hx : ∀ x ∈ xs, Builtin.Int.intBits x ≤ m) (hn : n ≤ 64) (hm : m ≤ 64) (hl : xs.length ≤ 2 ^ 10) : ∀ (d L R k : Nat), L < R → R ≤ xs.length → R - L ≤ d →
    CallG X (k + 1 + d) (.ref f) [.int (L : Nat), .int (R : Nat)] (.int (d2i n (seg xs L R)))
  | 0, L, R, k, h1, _, h3 => by omega
  | d + 1, L, R, k, h1, h2, h3 => by
    intro U W A s Q E vs G hv q
    obtain ⟨o, doc, pm, cdv, ct, cd, cn, ci, vd, tn, ho, hd, hcr, hcd, hvd, hcn, hci, n1, n2, n3⟩ := H.at_
    obtain ⟨_, _, rfl, hv1, hv⟩ := hv.inv
    obtain ⟨_, _, rfl, hv2, hv⟩ := hv.inv
    cases hv.inv0
    obtain ⟨t1, rfl⟩ := hv1.int
    obtain ⟨t2, rfl⟩ := hv2.int
    have hbase : ∀ {V : Addr → Prop}, (∀ y, V y → UW U W y) → ∀ b o, X.hb.get? b = some o → s.heap.get? b = some o ∧ ¬ V b := fun hV b o e => ⟨G.base b o e, fun z => (hV b z).elim (G.bU b o e) (G.bW b o e).1⟩
    have clk : ∀ x c, List.lookup x [(("n" : Str), cn), (("inner" : Str), ci), (("digits" : Str), cd)] = some c → (x = "n" ∧ c = cn) ∨ (x = "inner" ∧ c = ci) ∨ (x = "digits" ∧ c = cd) := fun x c h => by
      rw [List.lookup_cons] at h
      split at h
      next e => exact .inl ⟨eq_of_beq e, (Option.some.inj h).symm⟩
      rw [List.lookup_cons] at h
      split at h
      next e => exact .inr (.inl ⟨eq_of_beq e, (Option.some.inj h).symm⟩)
      rw [List.lookup_cons] at h
      split at h
      next e => exact .inr (.inr ⟨eq_of_beq e, (Option.some.inj h).symm⟩)
      cases h
    have hk : KeepF X (.ref f) := .inl ⟨f, o, _, rfl, ho, hd⟩
    have body := inner11_body (k := k + d) hk hx hn hm hl h1 h2 fun L' R' g1 g2 g3 => by
      have := inner11 F H hx hn hm hl d L' R' k g1 g2 (by omega)
      rwa [show k + 1 + d = k + d + 1 by omega] at this
    refine call_clo (k := k + d + 1) (Γ' := [some (.val (.int (L : Nat))), some (.val (.int (R : Nat))), none, none, some (.val (.list (nums xs))), some (.val (.val (.ref f))), some (.val (.int (n : Nat)))])
      (U' := UW U W) (W0 := fun _ => False) (ad := fun _ => 0) (bd := fun _ => 0) (binds := [(("L" : Str), .int L t1), (("R" : Str), .int R t2)]) ho hd hcr F.nolim si11.kind si11.nod si11.ndb si11.nco si11.ngen si11.nc si11.cod ?_ (.of_eq rfl) ?_ ?_ ?_ ?_ (fun _ h => h) (fun a h => .inl (G.Ut a h)) (.inl G.Us) (fun _ h => h.elim) (fun _ h => h.elim) ?_ ?_ ?_
    · rwa [show k + 1 + (d + 1) = k + d + 1 + 1 by omega] at G
    · rintro y hy
      rw [en11]
      simp only [List.mem_cons, List.not_mem_nil, or_false] at hy
      rcases hy with rfl | rfl <;> rfl
    · intro x c h
      rcases clk x c h with ⟨_, rfl⟩ | ⟨_, rfl⟩ | ⟨_, rfl⟩
      · exact ⟨_, hcn⟩
      · exact ⟨_, hci⟩
      · exact ⟨_, hcd⟩
    · intro x y c h h'
      rcases clk x c h with ⟨rfl, e⟩ | ⟨rfl, e⟩ | ⟨rfl, e⟩ <;> rcases clk y c h' with ⟨rfl, e'⟩ | ⟨rfl, e'⟩ | ⟨rfl, e'⟩ <;> first | rfl | (subst e; exact absurd e' (by first | assumption | exact Ne.symm (by assumption)))
    · intro i x hi
      rw [en11] at hi
      exact names_all (P := fun _ x kd => kd = .free → ∃ c, List.lookup x [(("n" : Str), cn), (("inner" : Str), ci), (("digits" : Str), cd)] = some c) (l := ns11) (.cons (fun h => absurd h (by decide)) (.cons (fun h => absurd h (by decide)) (.cons (fun h => absurd h (by decide)) (.cons (fun h => absurd h (by decide)) (.cons (fun _ => ⟨cd, rfl⟩) (.cons (fun _ => ⟨ci, rfl⟩) (.cons (fun _ => ⟨cn, rfl⟩) .nil))))))) i x .free hi rfl
    · intro i j sl sl' e1 _ o1
      exact absurd (AllAt.get (P := fun _ o => ∀ sl, o = some sl → sl.isOwn = false) (.cons (fun _ e => by cases e; rfl) (.cons (fun _ e => by cases e; rfl) (.cons (fun _ e => by cases e) (.cons (fun _ e => by cases e) (.cons (fun _ e => by cases e; rfl) (.cons (fun _ e => by cases e; rfl) (.cons (fun _ e => by cases e; rfl) .nil))))))) e1 sl rfl) (by rw [o1]; decide)
    · refine names_sl (l := ns11) ?_
      exact .cons (fun _ e => by cases e; exact ⟨_, .int _ _, .inl ⟨rfl, rfl⟩⟩) (.cons (fun _ e => by cases e; exact ⟨_, .int _ _, .inl ⟨rfl, rfl⟩⟩) (.cons (fun _ e => by cases e) (.cons (fun _ e => by cases e) (.cons (fun _ e => by cases e; exact ⟨vd, hvd.base (hbase fun y z => z.elim id False.elim), .inr ⟨rfl, cd, rfl, hcd⟩⟩) (.cons (fun _ e => by cases e; exact ⟨_, .val _, .inr ⟨rfl, ci, rfl, hci⟩⟩) (.cons (fun _ e => by cases e; exact ⟨_, .int _ _, .inr ⟨rfl, cn, rfl, hcn⟩⟩) .nil))))))
    · intro env' h₁ tk₁ W' E' R' hW' old sz
      refine body R' fun W'' v h' tk c ht hr => ?_
      exact q v h' tk ⟨fun b o e nt => c.keep b o (old b o e) (fun z => (hW' b z).elim id fun z => absurd (Heap.lt_size e) (Nat.not_lt.mpr z)) nt, Nat.le_trans sz c.size, ht⟩ (.inl hr)

theorem Rel.cellAt {U W D : Addr → Prop} {sc : Scope} {Γ : List (Option Slot)} {A : Around} {env : Env} {s : Shared} (R : Rel X k sc U W Γ A env s) (hD : ∀ y v, D y → ¬ s.heap.IsCell y v) {i : Nat} {x : Str} {av : AV} (L : Look sc.names Γ i x .cell (.val av)) :
    ∃ c v, env.cells.lookup x = some c ∧ (upX X U W D s.heap).hb.IsCell c (some v) ∧ VR X.prog X.w (fun _ => False) (upX X U W D s.heap).hb v av := by
  obtain ⟨ad, bd, _, hv⟩ := R.vars
  obtain ⟨v, ⟨c, hc, o, e, hd⟩, h2⟩ := hv i x .cell _ L.at.1 L.at.2
  obtain ⟨c', hc', hw⟩ := R.chas i x .cell L.at.1 (.inl rfl)
  rw [hc] at hc'; cases hc'
  refine ⟨c, v, hc, ⟨o, upX_get e (R.dis _ (hw rfl)) (fun z => hD c _ z.2 ⟨o, e, hd⟩), hd⟩, ?_⟩
  exact VR.change (fun b o e n => ⟨hidP_get e fun z => n (z.imp id (·.1)), id⟩) h2

theorem sc11 : ScOk (fscope 11) := .of (by decide +kernel)
theorem pb11 : PosBind 11 2 := by
  intro vs h name qual dV kV doc pm cdv ct hd
  subst hd
  obtain ⟨v0, v1, rfl⟩ := ofLen2 h
  rfl
theorem tabT_at : ∀ y ∈ tabT, y.1 = 90 → y = (90, posOf d11, q11) := by
  intro y hy h
  simp only [tabT, List.mem_cons, List.not_mem_nil, or_false] at hy
  rcases hy with rfl | rfl | rfl
  · rfl
  · cases h
  · cases h

theorem d2i_body {xs : List Int} {n m : Nat} (F : Facts X) (hx : ∀ x ∈ xs, Builtin.Int.intBits x ≤ m) (hn : n ≤ 64) (hm : m ≤ 64) (hl : xs.length ≤ 2 ^ 10) :
    Execs X (k + 1 + xs.length) (fscope 11) [some (.val (.list (nums xs))), some (.val (.int (n : Nat))), none, none] (fbody 11) (.ret (.int (d2i n xs))) := by
  intro U W A env s Q E R p
  obtain ⟨mg, hmg, hbm⟩ := F.mgA
  refine wpAny_execs_cons ?_
  refine def_clo (i := 2) (kd := .cell) (params := inP d11) (body := inB d11) (scope := inS d11) (Γf := fun f => [some (.val (.list (nums xs))), some (.val (.int (n : Nat))), some (.val (.val (.ref f))), none]) (pos := posOf d11) (qual := q11) R rfl rfl (by rw [F.tT]; exact .head _) (by rw [F.tT]; exact tabT_at) (F.cds (94, 90) (.head _)) hmg (hbm 90 (by decide)) rfl rfl (fun _ => rfl) ?_ rfl (fun f => (.nth 2 rfl)) (.inr rfl) ?_
  · intro q hq hf
    have hq' : q ∈ ns11 := hq
    simp only [List.mem_cons, List.not_mem_nil, or_false] at hq'
    rcases hq' with rfl | rfl | rfl | rfl | rfl | rfl | rfl <;> first | exact absurd hf (by decide) | exact ⟨0, .cell, rfl, .inl rfl⟩ | exact ⟨2, .cell, rfl, .inl rfl⟩ | exact ⟨1, .cell, rfl, .inl rfl⟩
  · intro f c' ctv doc pm h' tk R' kp sz hfge hf hc1 hc2 hfo hcr
    refine wpAny_execs_cons ?_
    refine wpAny_Return_some (wpAny_IfExp ?_)
    refine (T_list (E_name .here) (by rw [List.length_map]; omega)) R' fun h₁ t₁ a₁ => ?_
    have R₁ := R'.after (tk := t₁) a₁
    cases hxs : xs with
    | nil =>
      subst hxs
      refine E_int (b := true) R₁ fun v h₂ t₂ a₂ q₂ => ?_
      have a := a₁.trans a₂
      exact p W v _ _ ⟨fun _ h => .inl h, fun b o e nW nt => a.keep b o (kp b o e nW nt) nt, Nat.le_trans sz a.size⟩ (a.tab.sub fun _ h => .inl h) (q₂.vr.sub fun _ h => .inl h)
    | cons x0 xt =>
      have hpos : 0 < xs.length := by rw [hxs]; exact Nat.succ_pos _
      refine E_callR (E_name (.nth 2 rfl)) (a₁.keep _ _ hfo fun z => hf (.inl (R.Ut _ z))) rfl (fun z => hf (.inl (R.Ut _ z))) (b' := false) (L_cons E_int (L_cons (E_is (by rw [List.length_map]) (E_call (E_glob (.nth 3 rfl) F.g_len fun _ _ => .val _) (keepB) (L_cons (E_name .here) L_nil) K_nil (C_len_list (by rw [List.length_map]; omega)))) L_nil)) R₁ fun vs h₂ t₂ a₂ hvs => ?_
      have R₂ := R₁.after (tk := t₂) a₂
      have hD : ∀ y v, y = env.locals → ¬ h₂.IsCell y v := by
        rintro y v rfl ⟨o, e, hd⟩
        obtain ⟨_, m', o', es, ep, e', hd', _⟩ := R₂.loc
        have e' : h₂.get? env.locals = some o' := e'
        rw [e] at e'; cases e'; rw [hd] at hd'; cases hd'
      obtain ⟨cd, vd, lcd, hcd, hvd⟩ := R₂.cellAt hD (i := 0) (x := "digits") .here
      obtain ⟨cn, vn, lcn, hcn, hvn⟩ := R₂.cellAt hD (i := 1) (x := "n") (.nth 1 rfl)
      obtain ⟨ci, vi, lci, hci, hvi⟩ := R₂.cellAt hD (i := 2) (x := "inner") (.nth 2 rfl)
      cases hvn with
      | int _ tn =>
      cases hvi
      have F₂ : Facts (upX X U W (fun y => y = env.locals) h₂) := F.mono (upX_mono R₂) rfl
      have a := a₁.trans a₂
      have nt : ∀ {y : Addr}, ¬ UW U W y → y ∉ tabs := fun h z => h (.inl (R.Ut _ z))
      have H : In11 (upX X U W (fun y => y = env.locals) h₂) f xs n := by
        obtain ⟨c2, oc, us, tq, hc, hoc, r⟩ := hcr
        cases hc
        refine ⟨_, doc, pm, .ref c', ctv, cd, cn, ci, vd, tn, upX_get (a.keep _ _ hfo (nt hf)) (fun z => hf (.inl z)) (fun z => hf (.inr z.1)), ?_, ⟨c', oc, us, tq, rfl, upX_get (a.keep _ _ hoc (nt hc1)) (fun z => hc1 (.inl z)) (fun z => hc1 (.inr z.1)), r⟩, hcd, hvd, hcn, hci, ?_, ?_, ?_⟩
        · have : closL env (inS d11).names [] = [(("n" : Str), cn), (("inner" : Str), ci), (("digits" : Str), cd)] := by
            rw [en11]
            show [(("n" : Str), (env.cells.lookup ("n" : Str)).getD 0), (("inner" : Str), (env.cells.lookup ("inner" : Str)).getD 0), (("digits" : Str), (env.cells.lookup ("digits" : Str)).getD 0)] = _
            rw [lcd, lcn, lci]; rfl
          exact congrArg (fun cl => Data.func (fnX ("inner" : Str) q11 (inP d11) (inB d11) (inS d11) cl .none .none doc pm none (.ref c') ctv)) this
        · exact fun z => absurd (R₂.cinj _ _ _ (z ▸ lcd) lcn) (by decide)
        · exact fun z => absurd (R₂.cinj _ _ _ (z ▸ lcd) lci) (by decide)
        · exact fun z => absurd (R₂.cinj _ _ _ (z ▸ lcn) lci) (by decide)
      have hvs' : VBs false X.prog X.w U (upW W fun y => y = env.locals) h₂ vs [.int ((0 : Nat) : Int), .int (xs.length : Nat)] := by
        obtain ⟨_, _, rfl, hv1, hv⟩ := hvs.inv
        obtain ⟨_, _, rfl, hv2, hv⟩ := hv.inv
        cases hv.inv0
        obtain ⟨t1, rfl⟩ := hv1.int
        obtain ⟨t2, rfl⟩ := hv2.int
        exact .cons (.inl (.int _ _)) (.cons (.inl (.int _ _)) .nil)
      refine inner11 F₂ H hx hn hm hl xs.length 0 xs.length k hpos (Nat.le_refl _) (Nat.le_refl _) R₂.up hvs' fun v h₃ t₃ a₃ q₃ => ?_
      have e : seg xs 0 xs.length = xs := by simp [seg]
      rw [e] at q₃
      refine p W v _ _ ⟨fun _ h => .inl h, fun b o e nW nt => a₃.keep b o (a.keep b o (kp b o e nW nt) nt) nt, Nat.le_trans sz (Nat.le_trans a.size a₃.size)⟩ (a₃.tab.sub fun _ h => .inl h) ?_
      exact q₃.vr.sub fun _ h => .inl h
theorem d2i_ok {xs : List Int} {n m : Nat} (F : Facts X) (hx : ∀ x ∈ xs, Builtin.Int.intBits x ≤ m) (hn : n ≤ 64) (hm : m ≤ 64) (hl : xs.length ≤ 2 ^ 10) : CallV X (k + 1 + xs.length + 1) false (.ref 95) [.list (nums xs), .int (n : Nat)] [] (.int (d2i n xs)) :=
  borFn F.f11 sc11 pb11 rfl F.nolim Atom.int (by decide +kernel) (by decide +kernel) (X_less (Γ₁ := [some (.val (.list (nums xs))), some (.val (.int (n : Nat))), none, none]) (by exact .keep (.keep (.pad (.pad .nil)))) (d2i_body F hx hn hm hl))
end
end Mine
namespace Mine
noncomputable abbrev d10 : Option Stmt := (fbody 10)[1]?
noncomputable abbrev q10 : Str := ("_int2digits" : Str) ++ (".<locals>." : Str) ++ ("inner" : Str)
noncomputable abbrev ns10 : List (Str × NameKind) := [(("x" : Str), .local), (("L" : Str), .local), (("R" : Str), .local), (("mid" : Str), .local), (("shift" : Str), .local), (("upper" : Str), .local), (("lower" : Str), .local), (("a_digits" : Str), .free), (("inner" : Str), .free), (("n" : Str), .free)]
theorem en10 : (inS d10).names = ns10 := by rfl
theorem si10 : ScIn (inS d10) := .of (by decide +kernel)

noncomputable def digs (n : Nat) : Nat → Nat → List Int
  | 0, _ => []
  | 1, x => [(x : Int)]
  | m + 2, x => ((x % 2 ^ n : Nat) : Int) :: digs n (m + 1) (x / 2 ^ n)
theorem digs_len {n : Nat} : ∀ (m x : Nat), (digs n m x).length = m
  | 0, _ => rfl
  | 1, _ => rfl
  | m + 2, x => by show _ + 1 = _; rw [digs_len]
theorem digs_split {n : Nat} : ∀ (a b x : Nat), 0 < b → digs n (a + 1 + b) x = digs n (a + 1) (x % 2 ^ (n * (a + 1))) ++ digs n b (x / 2 ^ (n * (a + 1)))
  | 0, b, x, hb => by
    obtain ⟨c, rfl⟩ : ∃ c, b = c + 1 := ⟨b - 1, by omega⟩
    have e : 0 + 1 + (c + 1) = c + 2 := by omega
    rw [e]
    simp [digs]
  | a + 1, b, x, hb => by
    have e : a + 1 + 1 + b = (a + b) + 2 := by omega
    have e2 : a + 1 + 1 = a + 2 := rfl
    rw [e, e2]
    show ((x % 2 ^ n : Nat) : Int) :: digs n (a + b + 1) (x / 2 ^ n) = (((x % 2 ^ (n * (a + 2))) % 2 ^ n : Nat) : Int) :: digs n (a + 1) (x % 2 ^ (n * (a + 2)) / 2 ^ n) ++ _
    have e3 : 2 ^ (n * (a + 2)) = 2 ^ n * 2 ^ (n * (a + 1)) := by rw [← Nat.pow_add]; congr 1; rw [Nat.mul_add, Nat.mul_add]; omega
    have e4 : a + b + 1 = a + 1 + b := by omega
    rw [e3, Nat.mod_mul_right_mod, Nat.mod_mul_right_div_self, e4, digs_split a b _ hb, Nat.div_div_eq_div_mul]
    rfl
noncomputable def putSeg (l : List Int) (L : Nat) (ds : List Int) : List Int := l.take L ++ ds ++ l.drop (L + ds.length)
theorem putSeg_len {l : List Int} {L : Nat} {ds : List Int} (h : L + ds.length ≤ l.length) : (putSeg l L ds).length = l.length := by
  unfold putSeg
  simp only [List.length_append, List.length_take, List.length_drop]
  omega
theorem putSeg_set {l : List Int} {L : Nat} {x : Int} (h : L < l.length) : l.set L x = putSeg l L [x] := by
  unfold putSeg
  rw [List.set_eq_take_append_cons_drop, if_pos h]; simp
theorem putSeg_two {l : List Int} {L : Nat} {d1 d2 : List Int} (h : L + d1.length + d2.length ≤ l.length) : putSeg (putSeg l L d1) (L + d1.length) d2 = putSeg l L (d1 ++ d2) := by
  unfold putSeg
  have e1 : (l.take L ++ d1).length = L + d1.length := by simp only [List.length_append, List.length_take]; omega
  rw [List.take_append_of_le_length (by omega), List.take_of_length_le (by omega), List.drop_append, e1, List.drop_eq_nil_of_le (by omega), List.drop_drop]
  simp only [List.append_assoc, List.nil_append, List.length_append]
  congr 4
  omega
theorem putSeg_all {l ds : List Int} (h : ds.length = l.length) : putSeg l 0 ds = ds := by
  unfold putSeg
  simp [h]
theorem xor_low (x s : Nat) : Builtin.bitXor (x : Int) (((x / 2 ^ s * 2 ^ s : Nat)) : Int) = ((x % 2 ^ s : Nat) : Int) := by
  rw [bitXor_and, bitAnd_pp (Int.natCast_nonneg _) (Int.natCast_nonneg _), Int.toNat_natCast, Int.toNat_natCast]
  have e : x &&& (x / 2 ^ s * 2 ^ s) = x / 2 ^ s * 2 ^ s := by
    rw [← Nat.shiftLeft_eq, ← Nat.shiftRight_eq_div_pow]
    apply Nat.eq_of_testBit_eq
    intro i
    rw [Nat.testBit_and, Nat.testBit_shiftLeft, Nat.testBit_shiftRight]
    by_cases h : i ≥ s
    · have : s + (i - s) = i := by omega
      simp [h, this]
    · simp [h]
  rw [e]
  have := Nat.div_add_mod x (2 ^ s)
  rw [Nat.mul_comm] at this
  omega

section
variable {X : Cx} {k : Nat}
structure In10 (X : Cx) (f ad : Addr) (n : Nat) : Prop where
  at_ : ∃ o doc pm cdv ct ca cn ci tn, X.hb.get? f = some o ∧ o.data = .func (fnX ("inner" : Str) q10 (inP d10) (inB d10) (inS d10) [(("n" : Str), cn), (("inner" : Str), ci), (("a_digits" : Str), ca)] .none .none doc pm none cdv ct) ∧ X.hb.CodeRec cdv q10 ∧
    X.hb.IsCell ca (some (.ref ad)) ∧ X.hb.IsCell cn (some (.int n tn)) ∧ X.hb.IsCell ci (some (.ref f)) ∧ ca ≠ cn ∧ ca ≠ ci ∧ cn ≠ ci

theorem inner10_body {f ad : Addr} {l : List Int} {n x : Nat} (hk : KeepF X (.ref f)) (hx : x < 2 ^ 64) (hn : n ≤ 64) (hl : l.length ≤ 2 ^ 10) {L R : Nat} (hLR : L < R) (hR : R ≤ l.length)
    (ih : ∀ (l : List Int) (x L' R' : Nat), x < 2 ^ 64 → l.length ≤ 2 ^ 10 → L' < R' → R' ≤ l.length → R' - L' < R - L → CallM X (k + 1) (.ref f) ad l [.int (x : Nat), .int (L' : Nat), .int (R' : Nat)] (putSeg l L' (digs n (R' - L') x))) :
    ∃ Γ₂, Look ns10 Γ₂ 7 "a_digits" .free (.own (nums (putSeg l L (digs n (R - L) x))) (some ad)) ∧ ExecsM X (k + 1) (inS d10) [some (.val (.int (x : Nat))), some (.val (.int (L : Nat))), some (.val (.int (R : Nat))), none, none, none, none, some (.own (nums l) (some ad)), some (.val (.val (.ref f))), some (.val (.int (n : Nat)))] (inB d10) Γ₂ := by
  by_cases h1 : L + 1 = R
  · subst h1
    have e : putSeg l L (digs n (L + 1 - L) x) = l.set L x := by
      rw [putSeg_set (by omega), Nat.add_sub_cancel_left]; rfl
    have e' : nums (l.set L x) = (nums l).set L (.int (x : Nat)) := by
      show List.map _ _ = _
      rw [List.map_set]
    refine ⟨[some (.val (.int (x : Nat))), some (.val (.int (L : Nat))), some (.val (.int (L + 1 : Nat))), none, none, none, none, some (.own (nums (putSeg l L (digs n (L + 1 - L) x))) (some ad)), some (.val (.val (.ref f))), some (.val (.int (n : Nat)))], (.nth 7 rfl), ?_⟩
    refine XM_ifRet (T_is (by simp) (T_cmp (E_bin (E_name (.nth 1 rfl)) E_int (B_add)) (E_name (.nth 2 rfl)) (C_eq))) ?_
    intro U W A env s Q E R q
    refine wpAny_execs_cons ?_
    rw [e, e'] at q
    refine S_setItem (i := 7) (x := "a_digits") (E_name .here) (.nth 7 rfl) (E_name (.nth 1 rfl)) (by rw [List.length_map]; omega) (by rw [List.length_map]; show _ ≤ 2 ^ 24; omega) (.nth 7 rfl) (hs := fun _ => rfl) R ?_
    intro W' h' tk R' c
    exact wpAny_execs_cons (wpAny_Return_none (q W' h' tk R' c))
  · have hm1 : L < (L + R) / 2 := by omega
    have hm2 : (L + R) / 2 < R := by omega
    generalize hM : (L + R) / 2 = M at hm1 hm2
    have hp : 0 < 2 ^ ((M - L) * n) := Nat.pow_pos (by decide)
    have hx1 : x % 2 ^ ((M - L) * n) < 2 ^ 64 := Nat.lt_of_le_of_lt (Nat.mod_le _ _) hx
    have hx2 : x / 2 ^ ((M - L) * n) < 2 ^ 64 := Nat.lt_of_le_of_lt (Nat.div_le_self _ _) hx
    have hd1 : (digs n (M - L) (x % 2 ^ ((M - L) * n))).length = M - L := digs_len _ _
    have hd2 : (digs n (R - M) (x / 2 ^ ((M - L) * n))).length = R - M := digs_len _ _
    have hr1 := ih l _ L M hx1 hl hm1 (by omega) (by omega)
    have hl1 := putSeg_len (l := l) (L := L) (ds := digs n (M - L) (x % 2 ^ ((M - L) * n))) (by rw [hd1]; omega)
    have hr2 := ih (putSeg l L (digs n (M - L) (x % 2 ^ ((M - L) * n)))) _ M R hx2 (by rw [hl1]; exact hl) hm2 (by rw [hl1]; exact hR) (by omega)
    have e1 : AV.int (((L : Int) + (R : Int)).fdiv (2 ^ (1 : Int).toNat)) = .int (M : Nat) := by
      congr 1
      show ((L : Int) + (R : Int)).fdiv 2 = _
      rw [Int.fdiv_eq_ediv_of_nonneg _ (by decide)]
      omega
    have e2 : AV.int (((M : Int) - (L : Int)) * (n : Int)) = .int (((M - L) * n : Nat) : Int) := by
      congr 1
      rw [Int.natCast_mul, Int.ofNat_sub (Nat.le_of_lt hm1)]
    have hb2 : (M - L) * n ≤ 1024 * 64 := Nat.mul_le_mul (by omega) (by omega)
    have e3 : AV.int ((x : Int).fdiv (2 ^ (((M - L) * n : Nat) : Int).toNat)) = .int ((x / 2 ^ ((M - L) * n) : Nat) : Int) := by
      congr 1
      rw [Int.toNat_natCast, Int.fdiv_eq_ediv_of_nonneg _ (by exact_mod_cast Nat.zero_le _)]
      norm_cast
    have hshl : (Builtin.Int.intBits ((x / 2 ^ ((M - L) * n) : Nat) : Int) : Int) + (((M - L) * n : Nat) : Int) ≤ 2 ^ 27 := by
      have := intBits_le_iff (m := 64) (x := ((x / 2 ^ ((M - L) * n) : Nat) : Int)) |>.mpr (by rw [Int.natAbs_natCast]; exact hx2)
      omega
    have e4 : AV.int (Builtin.bitXor (x : Int) (((x / 2 ^ ((M - L) * n) : Nat) : Int) * 2 ^ (((M - L) * n : Nat) : Int).toNat)) = .int ((x % 2 ^ ((M - L) * n) : Nat) : Int) := by
      congr 1
      rw [Int.toNat_natCast, ← xor_low]
      norm_cast
    have e5 : putSeg (putSeg l L (digs n (M - L) (x % 2 ^ ((M - L) * n)))) M (digs n (R - M) (x / 2 ^ ((M - L) * n))) = putSeg l L (digs n (R - L) x) := by
      have hM' : M = L + (digs n (M - L) (x % 2 ^ ((M - L) * n))).length := by rw [hd1]; omega
      have := putSeg_two (l := l) (L := L) (d1 := digs n (M - L) (x % 2 ^ ((M - L) * n))) (d2 := digs n (R - M) (x / 2 ^ ((M - L) * n))) (by rw [hd1, hd2]; omega)
      rw [← hM'] at this
      rw [this]
      congr 1
      have hs := digs_split (n := n) (M - L - 1) (R - M) x (by omega)
      have g1 : M - L - 1 + 1 = M - L := by omega
      have g2 : M - L + (R - M) = R - L := by omega
      rw [g1, g2, Nat.mul_comm n] at hs
      exact hs.symm
    rw [e5] at hr2
    refine ⟨[some (.val (.int (x : Nat))), some (.val (.int (L : Nat))), some (.val (.int (R : Nat))), some (.val (.int ((M : Nat) : Int))), some (.val (.int (((M - L) * n : Nat) : Int))), some (.val (.int ((x / 2 ^ ((M - L) * n) : Nat) : Int))), some (.val (.int ((x % 2 ^ ((M - L) * n) : Nat) : Int))), some (.own (nums (putSeg l L (digs n (R - L) x))) (some ad)), some (.val (.val (.ref f))), some (.val (.int (n : Nat)))], (.nth 7 rfl), ExecsM.of ?_⟩
    refine S_cons (S_ifF (T_isnt (by simpa using fun h => h1 (by omega)) (T_cmp (E_bin (E_name (.nth 1 rfl)) E_int (B_add)) (E_name (.nth 2 rfl)) (C_eq))) S_nil) ?_
    refine S_cons (S_assign (E_is e1 (E_bin (E_bin (E_name (.nth 1 rfl)) (E_name (.nth 2 rfl)) (B_add)) E_int (B_shr (by decide)))) (.nth 3 rfl)) ?_
    refine S_cons (S_assign (E_is e2 (E_bin (E_bin (E_name (.nth 3 rfl)) (E_name (.nth 1 rfl)) (B_sub)) (E_name (.nth 9 rfl)) (B_mul (.of_left (bits64 (by omega) (by omega)))))) (.nth 4 rfl)) ?_
    refine S_cons (S_assign (E_is e3 (E_bin (E_name .here) (E_name (.nth 4 rfl)) (B_shr (by omega)))) (.nth 5 rfl)) ?_
    refine S_cons (S_assign (E_is e4 (E_bin (E_name .here) (E_bin (E_name (.nth 5 rfl)) (E_name (.nth 4 rfl)) (B_shl (by omega) hshl)) (B_xor))) (.nth 6 rfl)) ?_
    refine S_cons (S_cloCall (.nth 7 rfl) (E_name (.nth 8 rfl)) hk (L_cons (E_name (.nth 6 rfl)) (L_cons (E_name (.nth 1 rfl)) (L_cons (E_name (.nth 3 rfl)) L_nil))) hr1 (.nth 7 rfl)) ?_
    exact S_cons (S_cloCall (.nth 7 rfl) (E_name (.nth 8 rfl)) hk (L_cons (E_name (.nth 5 rfl)) (L_cons (E_name (.nth 3 rfl)) (L_cons (E_name (.nth 2 rfl)) L_nil))) hr2 (.nth 7 rfl)) S_nil

theorem inner10 {f ad : Addr} {n : Nat} (F : Facts X) (H : In10 X f ad n) (hn : n ≤ 64) : ∀ (d k : Nat) (l : List Int) (x L R : Nat), x < 2 ^ 64 → l.length ≤ 2 ^ 10 → L < R → R ≤ l.length → R - L ≤ d →
    CallM X (k + 1 + d) (.ref f) ad l [.int (x : Nat), .int (L : Nat), .int (R : Nat)] (putSeg l L (digs n (R - L) x))
  | 0, k, l, x, L, R, _, _, h1, _, h3 => by omega
  | d + 1, k, l, x, L, R, hx, hl, h1, h2, h3 => by
    intro U W A s Q E vs us nu G hw e0 hints hv q
    obtain ⟨o, doc, pm, cdv, ct, ca, cn, ci, tn, ho, hd, hcr, hca, hcn, hci, n1, n2, n3⟩ := H.at_
    obtain ⟨_, _, rfl, hv0, hv⟩ := hv.inv
    obtain ⟨_, _, rfl, hv1, hv⟩ := hv.inv
    obtain ⟨_, _, rfl, hv2, hv⟩ := hv.inv
    cases hv.inv0
    obtain ⟨t0, rfl⟩ := hv0.int
    obtain ⟨t1, rfl⟩ := hv1.int
    obtain ⟨t2, rfl⟩ := hv2.int
    have clk : ∀ x c, List.lookup x [(("n" : Str), cn), (("inner" : Str), ci), (("a_digits" : Str), ca)] = some c → (x = "n" ∧ c = cn) ∨ (x = "inner" ∧ c = ci) ∨ (x = "a_digits" ∧ c = ca) := fun x c h => by
      rw [List.lookup_cons] at h
      split at h
      next e => exact .inl ⟨eq_of_beq e, (Option.some.inj h).symm⟩
      rw [List.lookup_cons] at h
      split at h
      next e => exact .inr (.inl ⟨eq_of_beq e, (Option.some.inj h).symm⟩)
      rw [List.lookup_cons] at h
      split at h
      next e => exact .inr (.inr ⟨eq_of_beq e, (Option.some.inj h).symm⟩)
      cases h
    have hk : KeepF X (.ref f) := .inl ⟨f, o, _, rfl, ho, hd⟩
    obtain ⟨Γ₂, hlook, body⟩ := inner10_body (k := k + d) (ad := ad) hk hx hn hl h1 h2 fun l' x' L' R' g0 gl g1 g2 g3 => by
      have := inner10 F H hn d k l' x' L' R' g0 gl g1 g2 (by omega)
      rwa [show k + 1 + d = k + d + 1 by omega] at this
    refine call_clo (k := k + d + 1) (Γ' := [some (.val (.int (x : Nat))), some (.val (.int (L : Nat))), some (.val (.int (R : Nat))), none, none, none, none, some (.own (nums l) (some ad)), some (.val (.val (.ref f))), some (.val (.int (n : Nat)))])
      (U' := fun y => UW U W y ∧ y ≠ ad) (W0 := fun y => y = ad) (ad := fun _ => ad) (bd := fun _ => ad) (binds := [(("x" : Str), .int x t0), (("L" : Str), .int L t1), (("R" : Str), .int R t2)]) ho hd hcr F.nolim si10.kind si10.nod si10.ndb si10.nco si10.ngen si10.nc si10.cod ?_ (.of_eq rfl) ?_ ?_ ?_ ?_ (fun _ h => h.1) (fun a h => ⟨.inl (G.Ut a h), fun z => G.dis ad hw (z ▸ G.Ut a h)⟩) ⟨.inl G.Us, fun z => G.dis ad hw (z ▸ G.Us)⟩ (fun y h => h ▸ hw) (fun y h z => z.2 h) ?_ ?_ ?_
    · rwa [show k + 1 + (d + 1) = k + d + 1 + 1 by omega] at G
    · rintro y hy
      rw [en10]
      simp only [List.mem_cons, List.not_mem_nil, or_false] at hy
      rcases hy with rfl | rfl | rfl <;> rfl
    · intro x c h
      rcases clk x c h with ⟨_, rfl⟩ | ⟨_, rfl⟩ | ⟨_, rfl⟩
      · exact ⟨_, hcn⟩
      · exact ⟨_, hci⟩
      · exact ⟨_, hca⟩
    · intro x y c h h'
      rcases clk x c h with ⟨rfl, e⟩ | ⟨rfl, e⟩ | ⟨rfl, e⟩ <;> rcases clk y c h' with ⟨rfl, e'⟩ | ⟨rfl, e'⟩ | ⟨rfl, e'⟩ <;> first | rfl | (subst e; exact absurd e' (by first | assumption | exact Ne.symm (by assumption)))
    · intro i x hi
      rw [en10] at hi
      exact names_all (P := fun _ x kd => kd = .free → ∃ c, List.lookup x [(("n" : Str), cn), (("inner" : Str), ci), (("a_digits" : Str), ca)] = some c) (l := ns10) (.cons (fun h => absurd h (by decide)) (.cons (fun h => absurd h (by decide)) (.cons (fun h => absurd h (by decide)) (.cons (fun h => absurd h (by decide)) (.cons (fun h => absurd h (by decide)) (.cons (fun h => absurd h (by decide)) (.cons (fun h => absurd h (by decide)) (.cons (fun _ => ⟨ca, rfl⟩) (.cons (fun _ => ⟨ci, rfl⟩) (.cons (fun _ => ⟨cn, rfl⟩) .nil)))))))))) i x .free hi rfl
    · intro i j sl sl' e1 e2 o1 o2 hne
      have own : ∀ {i : Nat} {sl : Slot}, [some (.val (.int (x : Nat))), some (.val (.int (L : Nat))), some (.val (.int (R : Nat))), none, none, none, none, some (.own (nums l) (some ad)), some (.val (.val (.ref f))), some (.val (.int (n : Nat)))][i]? = some (some sl) → sl.isOwn = true → i = 7 := fun {i sl} e o =>
        AllAt.get (P := fun i o => ∀ sl, o = some sl → sl.isOwn = true → i = 7) (.cons (fun _ e o => by cases e; cases o) (.cons (fun _ e o => by cases e; cases o) (.cons (fun _ e o => by cases e; cases o) (.cons (fun _ e => by cases e) (.cons (fun _ e => by cases e) (.cons (fun _ e => by cases e) (.cons (fun _ e => by cases e) (.cons (fun _ _ _ => rfl) (.cons (fun _ e o => by cases e; cases o) (.cons (fun _ e o => by cases e; cases o) .nil)))))))))) e sl rfl o
      exact absurd ((own e1 o1).trans (own e2 o2).symm) hne
    · refine names_sl (l := ns10) ?_
      exact .cons (fun _ e => by cases e; exact ⟨_, .int _ _, .inl ⟨rfl, rfl⟩⟩) (.cons (fun _ e => by cases e; exact ⟨_, .int _ _, .inl ⟨rfl, rfl⟩⟩) (.cons (fun _ e => by cases e; exact ⟨_, .int _ _, .inl ⟨rfl, rfl⟩⟩) (.cons (fun _ e => by cases e) (.cons (fun _ e => by cases e) (.cons (fun _ e => by cases e) (.cons (fun _ e => by cases e) (.cons (fun _ e => by cases e; exact ⟨_, ⟨rfl, ⟨rfl, fun c h => Option.some.inj h⟩, rfl, us, nu, e0, .of_ints hints⟩, .inr ⟨rfl, ca, rfl, hca⟩⟩) (.cons (fun _ e => by cases e; exact ⟨_, .val _, .inr ⟨rfl, ci, rfl, hci⟩⟩) (.cons (fun _ e => by cases e; exact ⟨_, .int _ _, .inr ⟨rfl, cn, rfl, hcn⟩⟩) .nil)))))))))
    · intro env' h₁ tk₁ W' E' R' hW' old sz
      refine body R' fun W'' h' tk fl hfl R'' c => ?_
      have hlook' : Look (inS d10).names Γ₂ 7 "a_digits" .free (.own (nums (putSeg l L (digs n (R - L) x))) (some ad)) := by rw [en10]; exact hlook
      obtain ⟨a, us', nu', hao, hwa, e1, hr1, _, _⟩ := R''.own_at hlook'
      cases hao _ rfl
      have hq : Q .none { s with heap := h', toks := tk } := q h' tk us' nu' (fun b o e ne nt => c.keep b o (old b o e) (fun z => (hW' b z).elim ne fun z => absurd (Heap.lt_size e) (Nat.not_lt.mpr z)) nt) (Nat.le_trans sz c.size)
        (R''.tab.sub fun y hy => by
          by_cases h : y = ad
          · exact .inr (h ▸ hwa)
          · exact .inl ⟨hy, h⟩) e1 hr1.areInts
      rcases hfl with rfl | rfl
      · exact hq
      · exact hq

theorem Rel.nameOwn {U W : Addr → Prop} {sc : Scope} {Γ : List (Option Slot)} {Γf : Addr → List (Option Slot)} {A : Around} {env : Env} {s : Shared} (R : Rel X k sc U W Γ A env s) {i : Nat} {x : Str} {kd : NameKind} {l : List AV} {o : Option Addr} (L : Look sc.names Γ i x kd (.own l o)) (p : ∀ a, Put sc.names Γ i x kd (.own l (some a)) (Γf a)) :
    ∃ a us n, Rel X k sc U W (Γf a) A env s ∧ VarAt env s.heap x (.ref a) kd ∧ W a ∧ s.heap.get? a = some (LObj us n) ∧ VRs X.prog X.w (UW U W) s.heap us l := by
  obtain ⟨ad, bd, V⟩ := R.vars
  obtain ⟨v, hv1, hv2⟩ := V.2 i x kd _ L.at.1 L.at.2
  obtain ⟨rfl, hba, hw, vs, n, e, hr⟩ := hv2
  refine ⟨ad i, vs, n, { am := R.am, scp := R.scp, cod := R.cod, kind := R.kind, nod := R.nod, ndb := R.ndb, glob := R.glob, blt := R.blt, base := R.base, bW := R.bW, bU := R.bU, tab := R.tab, Ult := R.Ult, Wlt := R.Wlt, dis := R.dis, Ut := R.Ut, Us := R.Us, loc := R.loc, cel := R.cel, cinj := R.cinj, chas := R.chas, vars := ⟨ad, bd, ?_, ?_⟩ }, hv1, hw, e, hr⟩
  · intro j j' p₁ p₂ sl sl' n1 n2 e1 e2 o1 o2 hne
    have back : ∀ {j : Nat} {sl : Slot}, (Γf (ad i))[j]? = some (some sl) → sl.isOwn = true → ∃ sl', Γ[j]? = some (some sl') ∧ sl'.isOwn = true := by
      intro j sl e1 o1
      by_cases q : j = i
      · subst q; exact ⟨_, L.at.2, rfl⟩
      · exact ⟨sl, (p _).at.2.2 j sl q e1, o1⟩
    obtain ⟨t1, g1, p1⟩ := back e1 o1
    obtain ⟨t2, g2, p2⟩ := back e2 o2
    exact V.1 j j' p₁ p₂ t1 t2 n1 n2 g1 g2 p1 p2 hne
  · intro j y kd' sl e1 e2
    by_cases q : j = i
    · subst q
      have e2' := (p (ad j)).at.2.1
      rw [e2] at e2'; cases e2'
      have e1' := (p (ad j)).at.1
      rw [e1] at e1'; cases e1'
      exact ⟨_, hv1, rfl, ⟨hba.1, fun c h => Option.some.inj h⟩, hw, vs, n, e, hr⟩
    · exact V.2 j y kd' sl e1 ((p _).at.2.2 j sl q e2)

noncomputable def noT (X : Cx) : Cx := { X with T := [], hT := fun _ h => nomatch h }
theorem Rel.noT {U W : Addr → Prop} {sc : Scope} {Γ : List (Option Slot)} {A : Around} {env : Env} {s : Shared} (R : Rel X k sc U W Γ A env s) : Rel (noT X) k sc U W Γ A env s :=
  { am := R.am, scp := R.scp, cod := R.cod, kind := R.kind, nod := R.nod, ndb := R.ndb, glob := R.glob, blt := R.blt, base := R.base, bW := R.bW, bU := R.bU, tab := .none, Ult := R.Ult, Wlt := R.Wlt, dis := R.dis, Ut := R.Ut, Us := R.Us, loc := R.loc, cel := R.cel, cinj := R.cinj, chas := R.chas, vars := R.vars }

theorem sc10 : ScOk (fscope 10) := .of (by decide +kernel)
theorem pb10 : PosBind 10 2 := by
  intro vs h name qual dV kV doc pm cdv ct hd
  subst hd
  obtain ⟨v0, v1, rfl⟩ := ofLen2 h
  rfl
theorem tabT_at10 : ∀ y ∈ tabT, y.1 = 83 → y = (83, posOf d10, q10) := by
  intro y hy h
  simp only [tabT, List.mem_cons, List.not_mem_nil, or_false] at hy
  rcases hy with rfl | rfl | rfl
  · cases h
  · rfl
  · cases h
noncomputable abbrev cntI (n a : Nat) : Nat := (Builtin.Int.intBits (a : Int) + n - 1) / n
noncomputable def i2d (n a : Nat) : List Int := digs n (cntI n a) a
theorem flat_rep {x : AV} : ∀ n : Nat, (List.replicate n [x]).flatten = List.replicate n x
  | 0 => rfl
  | n + 1 => by rw [List.replicate_succ, List.flatten_cons, flat_rep n]; rfl

theorem i2d_body {n a : Nat} (F : Facts X) (h1 : 0 < n) (hn : n ≤ 64) (ha : a < 2 ^ 64) :
    Execs X (k + 1 + 64) (fscope 10) [some (.val (.int (a : Nat))), some (.val (.int (n : Nat))), none, none, none] (fbody 10) (.ret (.list (nums (i2d n a)))) := by
  intro U W A env s Q E R p
  obtain ⟨mg, hmg, hbm⟩ := F.mgA
  have hbits : Builtin.Int.intBits (a : Int) ≤ 64 := intBits_le_iff.mpr (by rw [Int.natAbs_natCast]; exact ha)
  have hcnt : cntI n a ≤ 64 := by
    refine Nat.le_of_lt_succ (Nat.div_lt_of_lt_mul ?_)
    have : 1 * 64 ≤ n * 64 := Nat.mul_le_mul h1 (Nat.le_refl _)
    have e : n * (64 + 1) = n * 64 + n := by rw [Nat.mul_add, Nat.mul_one]
    show _ < n * (64 + 1)
    rw [e]
    omega
  have hn0 : (n : Int) ≠ 0 := by omega
  have hc : ((Builtin.Int.intBits (a : Int) : Nat) : Int) + (n : Int) - 1 = ((Builtin.Int.intBits (a : Int) + n - 1 : Nat) : Int) := by omega
  have ec : (((Builtin.Int.intBits (a : Int) : Nat) : Int) + (n : Int) - 1).fdiv (n : Int) = ((cntI n a : Nat) : Int) := by
    rw [hc, Int.fdiv_eq_ediv_of_nonneg _ (by omega)]
    norm_cast
  refine wpAny_execs_cons ?_
  refine S_own (Γ' := [some (.val (.int (a : Nat))), some (.val (.int (n : Nat))), some (.own (nums (List.replicate (cntI n a) 0)) none), none, none]) (i := 2) (N_is (l' := nums (List.replicate (cntI n a) 0)) ?_ (N_bin (EvalsN.evals (N_list (L_cons E_int L_nil) (by decide))) (E_bin (E_bin (E_bin (E_meth0 (E_name .here) (V_bits) (C_bits)) (E_name (.nth 1 rfl)) (B_add)) E_int (B_sub)) (E_name (.nth 1 rfl)) (B_div hn0 (noPy (by omega)))) (BN_mul (by omega) (by omega) (by simp) (by simp only [List.length_cons, List.length_nil]; omega)))) (.nth 2 rfl) (.inr rfl) (hs := fun _ => rfl) R ?_
  · rw [ec, Int.toNat_natCast, flat_rep]
    show _ = List.map _ _
    rw [List.map_replicate]
  intro W₁ h₁ t₁ R₁ c₁
  have p₁ := p.after (tk := t₁) c₁
  refine wpAny_execs_cons ?_
  refine def_clo (i := 3) (kd := .cell) (params := inP d10) (body := inB d10) (scope := inS d10) (Γf := fun f => [some (.val (.int (a : Nat))), some (.val (.int (n : Nat))), some (.own (nums (List.replicate (cntI n a) 0)) none), some (.val (.val (.ref f))), none]) (pos := posOf d10) (qual := q10) R₁ rfl rfl (by rw [F.tT]; exact .tail _ (.head _)) (by rw [F.tT]; exact tabT_at10) (F.cds (87, 83) (.tail _ (.head _))) hmg (hbm 83 (by decide)) rfl rfl (fun _ => rfl) ?_ rfl (fun f => (.nth 3 rfl)) (.inr rfl) ?_
  · intro q hq hf
    have hq' : q ∈ ns10 := hq
    simp only [List.mem_cons, List.not_mem_nil, or_false] at hq'
    rcases hq' with rfl | rfl | rfl | rfl | rfl | rfl | rfl | rfl | rfl | rfl <;> first | exact absurd hf (by decide) | exact ⟨2, .cell, rfl, .inl rfl⟩ | exact ⟨3, .cell, rfl, .inl rfl⟩ | exact ⟨1, .cell, rfl, .inl rfl⟩
  intro f c' ctv doc pm h₂ t₂ R₂ kp sz hfge hf hc1 hc2 hfo hcr
  have p₂ := p₁.after (tk := t₂) (W₁ := W₁) (h₁ := h₂) ⟨fun _ h => .inl h, kp, sz⟩
  have nt : ∀ {y : Addr}, ¬ UW U W₁ y → y ∉ tabs := fun h z => h (.inl (R.Ut _ z))
  refine wpAny_execs_cons ?_
  refine wpAny_If ((T_int (E_name .here)) R₂ fun h₃ t₃ a₃ => ?_)
  have R₃ := R₂.after (tk := t₃) a₃
  have p₃ := p₂.after (tk := t₃) (.of_aft a₃)
  by_cases h0 : a = 0
  · subst h0
    have e0 : cntI n 0 = 0 := by
      show (Builtin.Int.intBits ((0 : Nat) : Int) + n - 1) / n = 0
      have : Builtin.Int.intBits ((0 : Nat) : Int) ≤ 0 := intBits_le_iff.mpr (by decide)
      exact Nat.div_eq_of_lt (by omega)
    refine wpAny_execs_nil ?_
    refine wpAny_execs_cons (S_retOwn (.nth 2 rfl) R₃ ?_)
    have e1 : i2d n 0 = List.replicate (cntI n 0) 0 := by
      unfold i2d; rw [e0]; rfl
    rw [e1] at p₃
    exact p₃
  · have hb : 0 < Builtin.Int.intBits (a : Int) := by
      refine Nat.pos_of_ne_zero fun z => ?_
      have := intBits_le_iff (m := 0) (x := (a : Int)) |>.mp (by omega)
      rw [Int.natAbs_natCast] at this
      omega
    have hpos : 0 < cntI n a := Nat.div_pos (by omega) h1
    have hbt : ((a : Int) != 0) = true := by
      rw [bne_iff_ne]; omega
    rw [hbt]
    refine wpAny_execs_cons ?_
    refine wpAny_Expr ?_ (interactive_fn R₃.isFn) rfl
    refine E_callR (E_name (.nth 3 rfl)) (a₃.keep _ _ hfo (nt hf)) rfl (nt hf) (b' := false) (L_cons (E_name .here) (L_cons E_int (L_cons (E_is (by rw [List.length_map, List.length_replicate]) (E_call (E_glob (.nth 4 rfl) F.g_len fun _ _ => .val _) (keepB) (L_cons (E_own (.nth 2 rfl)) L_nil) K_nil (C_len_list (by rw [List.length_map, List.length_replicate]; omega)))) L_nil))) R₃ fun vs h₄ t₄ a₄ hvs => ?_
    have R₄ := R₃.after (tk := t₄) a₄
    have p₄ := p₃.after (tk := t₄) (.of_aft a₄)
    obtain ⟨ad, us, nu, R₅, hva, hwa, e5, hr5⟩ := R₄.nameOwn (i := 2) (.nth 2 rfl) (Γf := fun ad => [some (.val (.int (a : Nat))), some (.val (.int (n : Nat))), some (.own (nums (List.replicate (cntI n a) 0)) (some ad)), some (.val (.val (.ref f))), none]) fun ad => (.nth 2 rfl)
    obtain ⟨ca, lca, oca, eca, hdca⟩ := hva
    have wca : W₁ ca := by
      obtain ⟨c2, hc2, hw2⟩ := R₄.chas 2 ("a_digits" : Str) .cell rfl (.inl rfl)
      rw [lca] at hc2; cases hc2
      exact hw2 rfl
    have e5' : h₄.get? ad = some (LObj us nu) := e5
    have hD : ∀ y v, (y = env.locals ∨ y = ad) → ¬ h₄.IsCell y v := by
      rintro y v (rfl | rfl) ⟨o, e, hd⟩
      · obtain ⟨_, m', o', es, ep, e', hd', _⟩ := R₄.loc
        have e' : h₄.get? env.locals = some o' := e'
        rw [e] at e'; cases e'; rw [hd] at hd'; cases hd'
      · rw [e] at e5'; cases e5'; cases hd
    obtain ⟨cn, vn, lcn, hcn, hvn⟩ := R₄.cellAt hD (i := 1) (x := "n") (.nth 1 rfl)
    obtain ⟨ci, vi, lci, hci, hvi⟩ := R₄.cellAt hD (i := 3) (x := "inner") (.nth 3 rfl)
    cases hvn with
    | int _ tn =>
    cases hvi
    have F₂ : Facts (upX X U W₁ (fun y => y = env.locals ∨ y = ad) h₄) := F.mono (upX_mono R₄) rfl
    have a34 := a₃.trans a₄
    have H : In10 (upX X U W₁ (fun y => y = env.locals ∨ y = ad) h₄) f ad n := by
      obtain ⟨c2, oc, us, tq, hc, hoc, r⟩ := hcr
      cases hc
      refine ⟨_, doc, pm, .ref c', ctv, ca, cn, ci, tn, upX_get (a34.keep _ _ hfo (nt hf)) (fun z => hf (.inl z)) (fun z => hf (.inr z.1)), ?_, ⟨c', oc, us, tq, rfl, upX_get (a34.keep _ _ hoc (nt hc1)) (fun z => hc1 (.inl z)) (fun z => hc1 (.inr z.1)), r⟩, ⟨oca, upX_get eca (R₄.dis _ wca) (fun z => hD ca _ z.2 ⟨oca, eca, hdca⟩), hdca⟩, hcn, hci, ?_, ?_, ?_⟩
      · have : closL env (inS d10).names [] = [(("n" : Str), cn), (("inner" : Str), ci), (("a_digits" : Str), ca)] := by
          rw [en10]
          show [(("n" : Str), (env.cells.lookup ("n" : Str)).getD 0), (("inner" : Str), (env.cells.lookup ("inner" : Str)).getD 0), (("a_digits" : Str), (env.cells.lookup ("a_digits" : Str)).getD 0)] = _
          rw [lca, lcn, lci]; rfl
        exact congrArg (fun cl => Data.func (fnX ("inner" : Str) q10 (inP d10) (inB d10) (inS d10) cl .none .none doc pm none (.ref c') ctv)) this
      · exact fun z => absurd (R₄.cinj _ _ _ (z ▸ lca) lcn) (by decide)
      · exact fun z => absurd (R₄.cinj _ _ _ (z ▸ lca) lci) (by decide)
      · exact fun z => absurd (R₄.cinj _ _ _ (z ▸ lcn) lci) (by decide)
    have hvs' : VBs false X.prog X.w U (upW W₁ fun y => y = env.locals ∨ y = ad) h₄ vs [.int (a : Nat), .int ((0 : Nat) : Int), .int (cntI n a : Nat)] := by
      obtain ⟨_, _, rfl, hv0, hv⟩ := hvs.inv
      obtain ⟨_, _, rfl, hv1, hv⟩ := hv.inv
      obtain ⟨_, _, rfl, hv2, hv⟩ := hv.inv
      cases hv.inv0
      obtain ⟨t0, rfl⟩ := hv0.int
      obtain ⟨t1, rfl⟩ := hv1.int
      obtain ⟨t2, rfl⟩ := hv2.int
      exact .cons (.inl (.int _ _)) (.cons (.inl (.int _ _)) (.cons (.inl (.int _ _)) .nil))
    have hrl : (List.replicate (cntI n a) (0 : Int)).length = cntI n a := List.length_replicate
    refine inner10 F₂ H hn 64 k (List.replicate (cntI n a) 0) a 0 (cntI n a) ha (by rw [hrl]; omega) hpos (by rw [hrl]; exact Nat.le_refl _) (by omega) R₄.up ⟨hwa, .inr rfl⟩ e5 hr5.areInts hvs' fun h₆ t₆ us' nu' kp6 sz6 tb6 e6 hi6 => ?_
    rw [Nat.sub_zero, putSeg_all (by rw [digs_len, hrl])] at hi6
    obtain ⟨a', us2, nu2, hao, hw2, e2, hr2, _, mt⟩ := R₅.noT.own_at (i := 2) (.nth 2 rfl)
    cases hao _ rfl
    obtain ⟨R₆, c₆⟩ := mt h₆ t₆ (nums (i2d n a)) us' nu' [some (.val (.int (a : Nat))), some (.val (.int (n : Nat))), some (.own (nums (i2d n a)) (some ad)), some (.val (.val (.ref f))), none] (.nth 2 rfl) kp6 sz6 .none e6 (.of_ints hi6)
    refine wpAny_execs_nil (wpAny_execs_cons (wpAny_Return_some ?_))
    obtain ⟨ad2, bd2, V2⟩ := R₆.vars
    obtain ⟨v, hv1, rfl, _, hw6, us6, n6, e7, r7⟩ := V2.2 2 ("a_digits" : Str) .cell _ rfl rfl
    exact wpAny_Name (R₆.load (i := 2) (kd := .cell) rfl hv1 (p₄ W₁ _ h₆ t₆ c₆ (tb6.sub fun _ h => .inl h) (.list (R₆.dis _ hw6) e7 (r7.sub fun _ h => .inl h)))) (R₆.dbg (i := 2) (kd := .cell) rfl).1
theorem i2d_ok {n a : Nat} (F : Facts X) (h1 : 0 < n) (hn : n ≤ 64) (ha : a < 2 ^ 64) : CallV X (k + 1 + 64 + 1) true (.ref 88) [.int (a : Nat), .int (n : Nat)] [] (.list (nums (i2d n a))) :=
  ownFn F.f10 sc10 pb10 rfl F.nolim (by decide +kernel) (by decide +kernel) (X_less (Γ₁ := [some (.val (.int (a : Nat))), some (.val (.int (n : Nat))), none, none, none]) (by exact .keep (.keep (.pad (.pad (.pad .nil))))) (i2d_body F h1 hn ha))
end
end Mine
namespace Mine

section
variable {X : Cx} {k : Nat}
theorem Am.le {k k' : Nat} {A : Around} (h : k ≤ k') (a : Am k' A) : Am k A := ⟨a.1, by have := a.2; omega, by have := a.3; omega⟩
theorem CallV.up {k k' : Nat} {b : Bool} {f : Value} {as : List AV} {kw : List (Str × AV)} {c : AV} (h : k ≤ k') (H : CallV X k b f as kw c) : CallV X k' b f as kw c :=
  fun _ _ _ _ _ _ _ _ _ _ _ R hv hk q => H { R with am := R.am.le h } hv hk q

noncomputable def dvS (b : Int) (n : Nat) : List Int → Int → List Int → Int × List Int
  | [], r, qs => (r, qs)
  | d :: t, r, qs => dvS b n t ((r * 2 ^ n + d).fmod b) (qs ++ [(r * 2 ^ n + d).fdiv b])
theorem dvS_ok {b : Int} {n : Nat} (hb : 0 < b) : ∀ (items : List Int) (r : Int) (qs : List Int), 0 ≤ r → r < b → 
    ∃ r' q', dvS b n items r qs = (r', qs ++ q') ∧ q'.length = items.length ∧ 0 ≤ r' ∧ r' < b ∧ r * 2 ^ (n * items.length) + d2i n items.reverse = d2i n q'.reverse * b + r'
  | [], r, qs, h0, h1 => ⟨r, [], by simp [dvS], rfl, h0, h1, by simp [d2i]⟩
  | d :: t, r, qs, h0, h1 => by
    have em : (r * 2 ^ n + d).fmod b = (r * 2 ^ n + d) % b := Int.fmod_eq_emod_of_nonneg _ (by omega)
    have ed : (r * 2 ^ n + d).fdiv b = (r * 2 ^ n + d) / b := Int.fdiv_eq_ediv_of_nonneg _ (by omega)
    obtain ⟨r', q', e1, e2, e3, e4, e5⟩ := dvS_ok (n := n) hb t ((r * 2 ^ n + d) % b) (qs ++ [(r * 2 ^ n + d) / b]) (Int.emod_nonneg _ (by omega)) (Int.emod_lt_of_pos _ hb)
    refine ⟨r', ((r * 2 ^ n + d) / b) :: q', ?_, by rw [List.length_cons, List.length_cons, e2], e3, e4, ?_⟩
    · show dvS b n t ((r * 2 ^ n + d).fmod b) (qs ++ [(r * 2 ^ n + d).fdiv b]) = _
      rw [em, ed, e1, List.append_assoc]; rfl
    · have e6 := Int.mul_ediv_add_emod (r * 2 ^ n + d) b
      rw [List.reverse_cons, List.reverse_cons, d2i_append, d2i_append, List.length_cons, Nat.mul_add, Nat.mul_one, Int.pow_add, List.length_reverse, List.length_reverse, e2]
      show _ + (_ + (d + 0 * _) * _) = (_ + (_ + 0 * _) * _) * b + r'
      generalize (2 : Int) ^ (n * t.length) = P at *
      generalize (2 : Int) ^ n = N at *
      generalize (r * N + d) / b = Q at *
      generalize (r * N + d) % b = M at *
      rw [Int.zero_mul, Int.add_zero, Int.add_zero]
      have e7 : (r * N + d) * P = (b * Q + M) * P := by rw [e6]
      rw [Int.add_mul, Int.add_mul] at e7
      rw [Int.add_mul]
      have e8 : r * (P * N) = r * N * P := by rw [Int.mul_comm P N, Int.mul_assoc]
      have e9 : Q * P * b = b * Q * P := by rw [Int.mul_comm, Int.mul_assoc]
      rw [e8, e9]
      omega
theorem dv_bd {r d : Int} {n : Nat} (h0 : 0 ≤ r) (h1 : r < 2 ^ 20) (hn : n ≤ 20) (hd0 : 0 ≤ d) (hd1 : d < 2 ^ 40) : 0 ≤ r * 2 ^ n + d ∧ r * 2 ^ n + d < 2 ^ 41 := by
  have p0 : (0 : Int) < 2 ^ n := Int.pow_pos (by decide)
  have p1 : (2 : Int) ^ n ≤ 2 ^ 20 := by
    have : 2 ^ n ≤ 2 ^ 20 := Nat.pow_le_pow_right (by decide) hn
    exact_mod_cast this
  have m0 : 0 ≤ r * 2 ^ n := Int.mul_nonneg h0 (by omega)
  have m1 : r * 2 ^ n ≤ (2 ^ 20 - 1) * 2 ^ 20 := Int.mul_le_mul (by omega) p1 (by omega) (by decide)
  omega
theorem dvS_bits {b : Int} {n : Nat} (hb : 0 < b) (hb2 : b < 2 ^ 20) (hn : n ≤ 20) : ∀ (items : List Int) (r : Int) (qs : List Int), 0 ≤ r → r < b → (∀ d ∈ items, 0 ≤ d ∧ d < 2 ^ 40) → (∀ q ∈ qs, Builtin.Int.intBits q ≤ 64) → ∀ q ∈ (dvS b n items r qs).2, Builtin.Int.intBits q ≤ 64
  | [], _, _, _, _, _, h => h
  | d :: t, r, qs, h0, h1, hd, h => by
    have em : (r * 2 ^ n + d).fmod b = (r * 2 ^ n + d) % b := Int.fmod_eq_emod_of_nonneg _ (by omega)
    have ed : (r * 2 ^ n + d).fdiv b = (r * 2 ^ n + d) / b := Int.fdiv_eq_ediv_of_nonneg _ (by omega)
    show ∀ q ∈ (dvS b n t ((r * 2 ^ n + d).fmod b) (qs ++ [(r * 2 ^ n + d).fdiv b])).2, _
    rw [em, ed]
    refine dvS_bits hb hb2 hn t _ _ (Int.emod_nonneg _ (by omega)) (Int.emod_lt_of_pos _ hb) (fun x hx => hd x (.tail _ hx)) fun q hq => ?_
    rcases List.mem_append.mp hq with hq | hq
    · exact h q hq
    · rw [List.mem_singleton] at hq
      subst hq
      obtain ⟨hd0, hd1⟩ := hd d (.head _)
      have ht : 0 ≤ r * 2 ^ n + d ∧ r * 2 ^ n + d < 2 ^ 41 := dv_bd h0 (by omega) hn hd0 hd1
      refine intBits_le_iff.mpr ?_
      have h2 := Int.ediv_nonneg ht.1 (Int.le_of_lt hb)
      have h3 : (r * 2 ^ n + d) / b ≤ r * 2 ^ n + d := Int.ediv_le_self _ ht.1
      omega

theorem digs_val {n : Nat} : ∀ (m x : Nat), 0 < m → d2i n (digs n m x) = x
  | 1, x, _ => by simp [digs, d2i]
  | m + 2, x, _ => by
    show ((x % 2 ^ n : Nat) : Int) + d2i n (digs n (m + 1) (x / 2 ^ n)) * 2 ^ n = x
    rw [digs_val (m + 1) _ (by omega)]
    have := Nat.mod_add_div x (2 ^ n)
    rw [Nat.mul_comm] at this
    exact_mod_cast this
theorem digs_le {n : Nat} : ∀ (m x : Nat) (d : Int), d ∈ digs n m x → 0 ≤ d ∧ d ≤ x
  | 0, _, _, h => nomatch h
  | 1, x, d, h => by
    simp only [digs, List.mem_singleton] at h
    omega
  | m + 2, x, d, h => by
    rcases List.mem_cons.mp h with h | h
    · subst h
      have := Nat.mod_le x (2 ^ n)
      omega
    · have h1 := digs_le (m + 1) _ d h
      have := Nat.div_le_self x (2 ^ n)
      omega
theorem i2d_val {n a : Nat} (h1 : 0 < n) : d2i n (i2d n a) = a := by
  unfold i2d
  by_cases h : 0 < cntI n a
  · exact digs_val _ _ h
  · have h2 : cntI n a = 0 := by omega
    have h3 : Builtin.Int.intBits (a : Int) = 0 := by
      unfold cntI at h2
      rcases Nat.div_eq_zero_iff.mp h2 with q | q <;> omega
    have h4 : (a : Int).natAbs < 2 ^ 0 := intBits_le_iff.mp (by omega)
    rw [h2]
    simp only [digs, d2i]
    omega
theorem i2d_le {n a : Nat} {d : Int} (h : d ∈ i2d n a) : 0 ≤ d ∧ d ≤ a := digs_le _ _ d h
theorem i2d_len {n a m : Nat} (h1 : 0 < n) (h : a < 2 ^ m) (_ : 0 < m) : (i2d n a).length ≤ m := by
  unfold i2d
  rw [digs_len]
  have h2 : Builtin.Int.intBits (a : Int) ≤ m := intBits_le_iff.mpr (by omega)
  refine Nat.le_of_lt_succ (Nat.div_lt_of_lt_mul ?_)
  have : 1 * m ≤ n * m := Nat.mul_le_mul h1 (Nat.le_refl _)
  rw [Nat.mul_succ]
  omega

theorem dvLoop (F : Facts X) (hk : 70 ≤ k) {a b n : Nat} (hb0 : 0 < b) (hb : b < 2 ^ 20) (hn : n ≤ 20) : ∀ (items : List Int) (r : Int) (qs : List Int), 0 ≤ r → r < b → (∀ d ∈ items, 0 ≤ d ∧ d < 2 ^ 40) → qs.length + items.length < 2 ^ 20 →
    ∃ o1 o2, Fors X k (fscope 12) [some (.val (.int (a : Nat))), some (.val (.int (b : Nat))), some (.val (.int (n : Nat))), some (.val (.list (nums (i2d n a)))), some (.val (.int r)), some (.own (nums qs) none), none, none, none] (forOf (fbody 12)[4]?).1 (forOf (fbody 12)[4]?).2 (nums items) (.next [some (.val (.int (a : Nat))), some (.val (.int (b : Nat))), some (.val (.int (n : Nat))), some (.val (.list (nums (i2d n a)))), some (.val (.int (dvS b n items r qs).1)), some (.own (nums (dvS b n items r qs).2) none), o1, o2, none])
  | [], r, qs, _, _, _, _ => ⟨none, none, F_nil fun _ _ => rfl⟩
  | d :: items, r, qs, h0, h1, hd, hl => by
    rw [List.length_cons] at hl
    have em : (r * 2 ^ n + d).fmod (b : Int) = (r * 2 ^ n + d) % (b : Int) := Int.fmod_eq_emod_of_nonneg _ (by omega)
    obtain ⟨o1, o2, hf⟩ := dvLoop F hk hb0 hb hn items ((r * 2 ^ n + d).fmod (b : Int)) (qs ++ [(r * 2 ^ n + d).fdiv (b : Int)]) (by rw [em]; exact Int.emod_nonneg _ (by omega)) (by rw [em]; exact Int.emod_lt_of_pos _ (by omega)) (fun x hx => hd x (.tail _ hx)) (by simp; omega)
    obtain ⟨hd0, hd1⟩ := hd d (.head _)
    have hr := dv_bd (n := n) h0 (show r < 2 ^ 20 by omega) hn hd0 hd1
    have hsh : (Builtin.Int.intBits r : Int) + (n : Int) ≤ 2 ^ 27 := by
      have : Builtin.Int.intBits r ≤ 20 := intBits_le_iff.mpr (by omega)
      omega
    have hd2 : (Builtin.Int.intBits (r * 2 ^ n + d) : Int) - (n : Int) ≤ 4000 := by
      have : Builtin.Int.intBits (r * 2 ^ n + d) ≤ 41 := intBits_le_iff.mpr (by omega)
      omega
    refine ⟨o1, o2, F_cons (.nth 6 rfl) (by exact S_cons (S_pair (E_call (E_glob (.nth 11 rfl) F.g_div2n1n fun _ _ => .val _) (keep8 F) (L_cons (E_bin (E_bin (E_name (.nth 4 rfl)) (E_name (.nth 2 rfl)) (B_shl (by omega) hsh)) (E_name (.nth 6 rfl)) (B_add)) (L_cons (E_name (.nth 1 rfl)) (L_cons (E_name (.nth 2 rfl)) L_nil))) K_nil ((div2n1n_ok (k := 0) F (by omega) (by omega) hd2).up (by omega))) (.nth 7 rfl) (.nth 4 rfl)) (S_cons (S_meth (.nth 5 rfl) (L_cons (E_name (.nth 7 rfl)) L_nil) (GetM.of slot_list_append type_list_append) (M_append (by rw [List.length_map]; show _ ≤ 2 ^ 24; omega)) (.nth 5 rfl)) S_nil)) (F_less (by simp only [nums, List.map_append, List.map_cons, List.map_nil]; exact .keep (.keep (.keep (.keep (.keep (.keep (.drop (.drop (.keep .nil))))))))) hf)⟩
theorem dvp_ok (F : Facts X) (hk : 70 ≤ k) {a b : Nat} (ha : a < 2 ^ 40) (hb0 : 0 < b) (hb : b < 2 ^ 20) : CallV X (k + 1) true (.ref 102) [.int (a : Nat), .int (b : Nat)] [] (.tup [((a / b : Nat) : Int), ((a % b : Nat) : Int)]) := by
  refine ownFn F.f12 sc12 pb12 rfl F.nolim (by decide +kernel) (by decide +kernel) ?_
  refine X_less (Γ₁ := [some (.val (.int (a : Nat))), some (.val (.int (b : Nat))), none, none, none, none, none, none, none]) (by exact .keep (.keep (.pad (.pad (.pad (.pad (.pad (.pad (.pad .nil))))))))) ?_
  obtain ⟨n, hn⟩ : ∃ n, n = Builtin.Int.intBits (b : Int) := ⟨_, rfl⟩
  have hnb : n ≤ 20 := by rw [hn]; exact intBits_le_iff.mpr (by omega)
  have hn0 : 0 < n := by
    refine Nat.pos_of_ne_zero fun q => ?_
    have : (b : Int).natAbs < 2 ^ 0 := intBits_le_iff.mp (by omega)
    omega
  have hlen := i2d_len (n := n) (a := a) (m := 40) hn0 ha (by decide)
  obtain ⟨r', q', e1, e2, e3, e4, e5⟩ := dvS_ok (b := (b : Int)) (n := n) (by omega) (i2d n a).reverse 0 [] (by omega) (by omega)
  obtain ⟨o1, o2, hf⟩ := dvLoop F hk (a := a) hb0 hb hnb (i2d n a).reverse 0 [] (by omega) (by omega) (fun d hd => by
    have := i2d_le (List.mem_reverse.mp hd); omega) (by simp; omega)
  have hbt := dvS_bits (b := (b : Int)) (n := n) (by omega) (by omega) hnb (i2d n a).reverse 0 [] (by omega) (by omega) (fun d hd => by
    have := i2d_le (List.mem_reverse.mp hd); omega) (fun _ h => nomatch h)
  rw [e1, List.nil_append] at hf hbt
  rw [List.reverse_reverse, i2d_val hn0, Int.zero_mul, Int.zero_add] at e5
  have hq : d2i n q'.reverse = ((a / b : Nat) : Int) ∧ r' = ((a % b : Nat) : Int) := by
    have h1 : (a : Int) / (b : Int) = d2i n q'.reverse := by
      rw [e5, Int.add_comm, Int.add_mul_ediv_right _ _ (by omega), Int.ediv_eq_zero_of_lt e3 e4, Int.zero_add]
    have h2 : (a : Int) % (b : Int) = r' := by
      rw [e5, Int.add_comm, Int.add_mul_emod_self_right, Int.emod_eq_of_lt e3 e4]
    exact ⟨by rw [← h1]; rfl, by rw [← h2]; rfl⟩
  have hql : q'.reverse.length ≤ 40 := by rw [List.length_reverse, e2, List.length_reverse]; exact hlen
  have hqb : ∀ x ∈ q'.reverse, Builtin.Int.intBits x ≤ 64 := fun x hx => hbt x (List.mem_reverse.mp hx)
  refine S_cons (S_assign (E_is (c := .int (n : Nat)) (by rw [hn]) (E_meth0 (E_name (.nth 1 rfl)) (V_bits) (C_bits))) (.nth 2 rfl)) ?_
  refine S_cons (S_assign (E_call (E_glob (.nth 9 rfl) F.g_int2digits fun _ _ => .val _) (keep10 F) (L_cons (E_name .here) (L_cons (E_name (.nth 2 rfl)) L_nil)) K_nil ((i2d_ok (k := 0) F hn0 (by omega) (by omega)).up (by omega))) (.nth 3 rfl)) ?_
  refine S_cons (S_assign E_int (.nth 4 rfl)) ?_
  refine S_cons (S_own (N_list L_nil (by decide)) (.nth 5 rfl)) ?_
  refine S_cons (S_for (I_rev (l := nums (i2d n a)) (.nth 10 rfl) F.g_reversed (E_name (.nth 3 rfl))) (by rw [nums, ← List.map_reverse]; exact hf)) ?_
  refine S_cons (S_meth0 (.nth 5 rfl) (GetM.of PySem.F.slot_list_reverse PySem.F.type_list_reverse) (M_reverse (by rw [List.length_map]; show q'.length ≤ 2 ^ 24; rw [List.length_reverse] at hql; omega)) (.nth 5 rfl)) ?_
  rw [nums, ← List.map_reverse]
  refine S_cons (S_assign (E_call (E_glob (.nth 12 rfl) F.g_digits2int fun _ _ => .val _) (keep11 F) (L_cons (E_own (.nth 5 rfl)) (L_cons (E_name (.nth 2 rfl)) L_nil)) K_nil ((d2i_ok (k := 0) (m := 64) F hqb (by omega) (by omega) (by omega)).up (by omega))) (.nth 8 rfl)) ?_
  rw [← hq.1, ← hq.2]
  exact S_consR (S_ret (E_tup (L_cons (E_name (.nth 8 rfl)) (L_cons (E_name (.nth 4 rfl)) L_nil)) (by simp only [List.length_cons, List.length_nil]; decide)))

theorem idm_ok (F : Facts X) (hk : 70 ≤ k) {a b : Nat} (ha : a < 2 ^ 40) (hb0 : 0 < b) (hb : b < 2 ^ 20) : CallV X (k + 1 + 1) true (.ref 109) [.int (a : Nat), .int (b : Nat)] [] (.tup [((a / b : Nat) : Int), ((a % b : Nat) : Int)]) := by
  refine ownFn F.f13 sc13 pb13 rfl F.nolim (by decide +kernel) (by decide +kernel) ?_
  have h1 : ((b : Int) == 0) = false := by rw [beq_eq_false_iff_ne]; omega
  have h2 : decide ((b : Int) < 0) = false := by rw [decide_eq_false_iff_not]; omega
  have h3 : decide ((a : Int) < 0) = false := by rw [decide_eq_false_iff_not]; omega
  exact S_consR (S_ifF (T_isnt h1 (T_cmp (E_name (.nth 1 rfl)) E_int (C_eq))) (S_consR (S_ifF (T_isnt h2 (T_cmp (E_name (.nth 1 rfl)) E_int (C_lt))) (S_consR (S_ifF (T_isnt h3 (T_cmp (E_name .here) E_int (C_lt))) (S_consR (S_ret (E_call (E_glob (.nth 6 rfl) F.g_divmod_pos fun _ _ => .val _) (keep12 F) (L_cons (E_name .here) (L_cons (E_name (.nth 1 rfl)) L_nil)) K_nil (dvp_ok F hk ha hb0 hb)))))))))
end
end Mine
namespace Mine

section
variable {X : Cx} {b bor : Bool} {k : Nat} {sc : Scope} {U W : Addr → Prop} {Γ Γ' Γ₁ : List (Option Slot)} {A : Around} {env : Env} {s : Shared} {r : Fl}

theorem C_neTup {l : List Int} : CmpV X k .NotEq (.tup l) (.tup l) false := by
  intro sc U W Γ A env s Q E v u R hv hu q
  obtain ⟨a, vs, n, rfl, e, hi⟩ := hv.tup
  obtain ⟨a', vs', n', rfl, e', hi'⟩ := hu.tup
  have hl : ∀ {vs : List Value} {l : List Int}, IntsAre vs l → vs.length = l.length := fun h => (VRs.of_ints (prog := X.prog) (w := X.w) (V := fun _ => True) (h := s.heap) h).length.trans (List.length_map ..)
  have key := SeqAt.RcNeAt.tuples (A := A) (s := s) (items := vs.toArray) (items2 := vs'.toArray) (e := fun _ => true) ⟨_, e, rfl, n, rfl⟩ ⟨_, e', rfl, n', rfl⟩ R.am.croom (fun j h1 h2 => by
    have h1' : j < vs.length := by simpa using h1
    have h2' : j < vs'.length := by simpa using h2
    have hj : j < l.length := by rw [← hl hi]; exact h1'
    obtain ⟨t, e1⟩ := ints_get hi (List.getElem?_eq_getElem hj)
    obtain ⟨t', e2⟩ := ints_get hi' (List.getElem?_eq_getElem hj)
    have g1 : vs.toArray[j] = .int l[j] t := by simpa [List.getElem?_eq_getElem h1'] using e1
    have g2 : vs'.toArray[j] = .int l[j] t' := by simpa [List.getElem?_eq_getElem h2'] using e2
    rw [g1, g2]
    have := SeqAt.EqAt.int_int (A := A.in1) (s := s) l[j] t l[j] t'
    rwa [beq_self_eq_true] at this)
  refine key X.prog X.w E Q ?_
  have : (!((List.range (min vs.toArray.size vs'.toArray.size)).all (fun _ => true) && vs.toArray.size == vs'.toArray.size)) = false := by
    have h3 : vs.toArray.size = vs'.toArray.size := by rw [List.size_toArray, List.size_toArray, hl hi, hl hi']
    rw [h3]; simp
  rw [this]
  exact q _ _ (Aft.refl R)

theorem T_chain2 {l r₁ r₂ : Expr} {op₁ op₂ : CmpOp} {pos : Pos} {x y z : AV} {t : Bool} (h1 : Evals X false k sc Γ l x) (h2 : Evals X false k sc Γ r₁ y) (h3 : CmpV X k op₁ x y true) (h4 : Evals X false k sc Γ r₂ z) (h5 : CmpV X k op₂ y z t)
    (hm : lastMarks [op₁, op₂] [r₁, r₂] = false := by with_unfolding_all rfl) : Tests X k sc Γ (.Compare l [op₁, op₂] [r₁, r₂] pos) t := by
  intro U W A env s Q E R q
  refine isTrue_chain (h1 R fun v h₁ t₁ a₁ q₁ => ?_) hm
  have R₁ := R.after (tk := t₁) a₁
  refine test_link (h2 R₁ fun u h₂ t₂ a₂ q₂ => ?_)
  have R₂ := R₁.after (tk := t₂) a₂
  refine h3 R₂ (q₁.after R a₂) q₂ fun h₃ t₃ a₃ => wpAny_truthy_bool ?_
  have R₃ := R₂.after (tk := t₃) a₃
  simp only [if_true]
  show wpAny _ A (testChain pos u [op₂] [eval r₂ env]) _ _ _
  refine test_last (h4 R₃ fun u' h₄ t₄ a₄ q₄ => ?_)
  have R₄ := R₃.after (tk := t₄) a₄
  refine h5 R₄ ((q₂.after R a₃).after R a₄) q₄ fun h₅ t₅ a₅ => wpAny_truthy_bool (q _ _ ((((a₁.trans a₂).trans a₃).trans a₄).trans a₅))
end
end Mine
namespace Mine

/-- what _law_followed keeps from hour to hour -/
structure St where
  row : List (List Int)
  names : List Int
  number : Nat
  digits : List Int
  kept : List (Int × Int)

noncomputable def rowAt (row : List (List Int)) (k j : Nat) : Int := (row.getD k []).getD j 0
noncomputable def slotsF (size : Nat) (kind : Int) (row : List (List Int)) : List Int := ((List.range (size + 1)).filter fun j => rowAt row j 1 == kind).map Int.ofNat
noncomputable def heldF (size : Nat) (kind : Int) (names digits : List Int) : List Int := ((List.range size).filter fun j => names.getD j 0 == kind && !(digits.getD j 0 == 0)).map Int.ofNat
noncomputable def freeF (size : Nat) (digits : List Int) : List Int := ((List.range size).filter fun j => digits.getD j 0 == 0).map Int.ofNat
noncomputable def keptF (size : Nat) (names digits : List Int) : List (Int × Int) := ((List.range size).filterMap fun j => if 0 < digits.getD j 0 then some (names.getD j 0, digits.getD j 0) else none).foldl (fun l p => dput l p.1 p.2) []
noncomputable def overF (least : Int) (row : List (List Int)) : List (Int × Int) := (row.filterMap fun o => if least < o.getD 0 0 then some (o.getD 1 0, o.getD 0 0 - least) else none).foldl (fun l p => dput l p.1 p.2) []
noncomputable def placeF (late : Bool) (row : List (List Int)) (x : Int) : Nat := if late then bisL (keysOf row) x row.length 0 row.length else bisR (keysOf row) x row.length 0 row.length

noncomputable def rowF (size hour : Nat) (late : Bool) (kind : Int) (row : List (List Int)) : List (List Int) :=
  let slot := ((slotsF size kind row).headD 0).toNat
  let x := rowAt row slot 0 + 1
  let row' := row.take slot ++ row.drop (slot + 1)
  row'.take (placeF late row' x) ++ [x, kind, ((hour + 1 : Nat) : Int)] :: row'.drop (placeF late row' x)
/-- names and number after an hour; none: below nothing -/
noncomputable def countF (size wide : Nat) (kind : Int) (names : List Int) (number : Nat) (digits : List Int) : List Int × Int :=
  match heldF size kind names digits, freeF size digits with
  | h :: _, _ => (names, ((number + 2 ^ (wide * h.toNat) : Nat) : Int))
  | [], f :: _ => (names.set f.toNat kind, ((number + 2 ^ (wide * f.toNat) : Nat) : Int))
  | [], [] => (names, (number : Int) - d2i wide (List.replicate size 1))
noncomputable def digitsF (size wide number : Nat) : List Int := i2d wide number ++ List.replicate (size - (i2d wide number).length) 0
noncomputable def stepF (size wide : Nat) (late : Bool) (hour : Nat) (kind : Int) (S : St) : Option St :=
  let row := rowF size hour late kind S.row
  let c := countF size wide kind S.names S.number S.digits
  let number := c.2.toNat
  let digits := digitsF size wide number
  let kept := keptF size c.1 digits
  let least := rowAt row 0 0
  let over := overF least row
  if decide (0 ≤ c.2) && decide (c.2 < 2 ^ 40) && row.length == size + 1 && (row.all fun o => o.length == 3) && c.1.length == size && digits.length == size && (digits.all fun d => decide (0 ≤ d) && decide (d < 2 ^ 40)) &&
    kept.length == over.length && (kept.all fun p => atL over p.1 == some p.2) && decide (0 ≤ ((hour + 1 : Nat) : Int) - digits.sum) && ((hour + 1 : Nat) : Int) - digits.sum == least * ((size + 1 : Nat) : Int) then
    some ⟨row, c.1, number, digits, kept⟩
  else none
noncomputable def runF (size wide : Nat) (late : Bool) : Nat → List Int → St → Option St
  | _, [], S => some S
  | hour, kind :: t, S => match stepF size wide late hour kind S with
    | some S' => runF size wide late (hour + 1) t S'
    | none => none
noncomputable def keyF (late : Bool) (o : List Int) : Int × Int := (o.getD 0 0, if late then -(o.getD 2 0) else o.getD 2 0)
noncomputable def ascF (late : Bool) : List (List Int) → Bool
  | a :: b :: t => (decide ((keyF late a).1 < (keyF late b).1) || ((keyF late a).1 == (keyF late b).1 && decide ((keyF late a).2 ≤ (keyF late b).2))) && ascF late (b :: t)
  | _ => true
noncomputable def endF (late : Bool) (stream : List Int) (S : St) : Bool :=
  (stream.all fun kind => decide ((stream.count kind : Int) - rowAt S.row 0 0 ≤ (atL S.kept kind).getD 0) && decide ((atL S.kept kind).getD 0 ≤ (stream.count kind : Int))) && ascF late S.row
noncomputable def st0 (size : Nat) : St := ⟨List.replicate (size + 1) [0, 0, 0], List.replicate size 0, 0, List.replicate size 0, []⟩
noncomputable def followF (stream : List Int) (size wide : Nat) (late : Bool) : Option (List (Int × Int)) :=
  match runF size wide late 0 stream (st0 size) with
  | some S => if endF late stream S then some S.kept else none
  | none => none
end Mine
namespace Mine

section
variable {X : Cx} {k : Nat}
theorem MutF.up {k k' : Nat} {f : Value} {l : List AV} {as : List AV} {kw : List (Str × AV)} {l' : List AV} (h : k ≤ k') (H : MutF X k f l as kw l') : MutF X k' f l as kw l' :=
  fun _ _ _ _ _ _ _ _ _ _ _ _ _ _ R hw e hr hv hk q => H { R with am := R.am.le h } hw e hr hv hk q
noncomputable abbrev ns1 : List (Str × NameKind) := [((".0" : Str), .local), (("k" : Str), .local), (("kind" : Str), .cell), (("row" : Str), .cell)]
noncomputable abbrev ns2 : List (Str × NameKind) := [((".0" : Str), .local), (("k" : Str), .local), (("ISEOF" : Str), .globalImplicit), (("digits" : Str), .cell), (("kind" : Str), .cell), (("names" : Str), .cell)]
noncomputable abbrev ns3 : List (Str × NameKind) := [((".0" : Str), .local), (("k" : Str), .local), (("ISEOF" : Str), .globalImplicit), (("digits" : Str), .cell)]
noncomputable abbrev ns4 : List (Str × NameKind) := [((".0" : Str), .local), (("k" : Str), .local), (("digits" : Str), .cell), (("names" : Str), .cell)]
noncomputable abbrev ns5 : List (Str × NameKind) := [((".0" : Str), .local), (("one" : Str), .local), (("least" : Str), .cell)]

noncomputable def lcOf : Option Stmt → Expr × List Expr
  | some (.Assign _ (.ListComp a [⟨_, _, ifs, _⟩] _ _) _) => (a, ifs)
  | _ => (.Constant .none 0 ⟨0, 0, 0, 0⟩, [])
/-- the dict comprehension at a comparison's right end, in an if -/
noncomputable def dcIf : Option Stmt → Expr × Expr × List Expr
  | some (.If (.Compare _ _ [.DictComp a b [⟨_, _, ifs, _⟩] _ _] _) _ _ _) => (a, b, ifs)
  | _ => (.Constant .none 0 ⟨0, 0, 0, 0⟩, .Constant .none 0 ⟨0, 0, 0, 0⟩, [])
noncomputable abbrev hourB : List Stmt := (forOf (fbody 76)[5]?).2
theorem row_get {row : List (List Int)} {j i : Nat} (hr : ∀ o ∈ row, o.length = 3) (hj : j < row.length) (hi : i < 3) : (row.getD j [])[i]? = some (rowAt row j i) := by
  have h : (row.getD j []).length = 3 := hr _ (by rw [List.getD_eq_getElem?_getD, List.getElem?_eq_getElem hj]; exact List.getElem_mem hj)
  unfold rowAt
  rw [List.getD_eq_getElem?_getD (l := row.getD j []), List.getElem?_eq_getElem (by omega)]
  rfl
theorem one_get {o : List Int} {i : Nat} (h : o.length = 3) (hi : i < 3) : o[i]? = some (o.getD i 0) := by
  rw [List.getD_eq_getElem?_getD, List.getElem?_eq_getElem (by omega)]; rfl

theorem comp1 (row : List (List Int)) (kind : Int) (hr : ∀ o ∈ row, o.length = 3) (hl : row.length < 2 ^ 20) (sc : Scope) (hsc : sc.names = ns1) : ∀ js : List Nat, (∀ j ∈ js, j < row.length) → Comps X k sc [none, none, some (.val (.int kind)), some (.val (.list (tups row)))] 1 ("k" : Str) (lcOf hourB[1]?).2 (lcOf hourB[1]?).1 (js.map fun i => AV.int (i : Nat)) (nums ((js.filter fun j => rowAt row j 1 == kind).map Int.ofNat))
  | [], _ => .nil
  | j :: js, h => by
    obtain ⟨kind_, names_, gen, co, more⟩ := sc
    simp only at hsc; subst hsc
    have hj := h j (List.mem_cons_self ..)
    have ih := comp1 row kind hr hl ⟨kind_, ns1, gen, co, more⟩ rfl js fun z hz => h z (List.mem_cons_of_mem _ hz)
    by_cases hc : (rowAt row j 1 == kind) = true
    · rw [List.filter_cons_of_pos (by exact hc)]
      exact .keep (.nth 1 rfl) (show Tests _ _ _ _ _ _ from T_is hc (T_cmp (E_sub (E_sub (E_name (.nth 3 rfl)) (E_name (.nth 1 rfl)) (I_at (tups_at hj) (by omega))) E_int (I_tup (row_get hr hj (by decide)) (by decide))) (E_name (.nth 2 rfl)) (C_eq))) (E_name (.nth 1 rfl)) ih
    · rw [List.filter_cons_of_neg (by exact hc)]
      exact .skip (.nth 1 rfl) (show Tests _ _ _ _ _ _ from T_isnt (by simpa using hc) (T_cmp (E_sub (E_sub (E_name (.nth 3 rfl)) (E_name (.nth 1 rfl)) (I_at (tups_at hj) (by omega))) E_int (I_tup (row_get hr hj (by decide)) (by decide))) (E_name (.nth 2 rfl)) (C_eq))) ih

theorem comp3 (F : Facts X) (hk : 1 ≤ k) (digits : List Int) (hl : digits.length < 2 ^ 20) (sc : Scope) (hsc : sc.names = ns3) : ∀ js : List Nat, (∀ j ∈ js, j < digits.length) → Comps X k sc [none, none, none, some (.val (.list (nums digits)))] 1 ("k" : Str) (lcOf hourB[7]?).2 (lcOf hourB[7]?).1 (js.map fun i => AV.int (i : Nat)) (nums ((js.filter fun j => digits.getD j 0 == 0).map Int.ofNat))
  | [], _ => .nil
  | j :: js, h => by
    obtain ⟨kind_, names_, gen, co, more⟩ := sc
    simp only at hsc; subst hsc
    have hj := h j (List.mem_cons_self ..)
    have ih := comp3 F hk digits hl ⟨kind_, ns3, gen, co, more⟩ rfl js fun z hz => h z (List.mem_cons_of_mem _ hz)
    by_cases hc : (digits.getD j 0 == 0) = true
    · rw [List.filter_cons_of_pos (by exact hc)]
      exact .keep (.nth 1 rfl) (show Tests _ _ _ _ _ _ from T_is hc (T_bool (E_call (E_glob (.nth 2 rfl) F.g_ISEOF fun _ _ => .val _) (keep70 F) (L_cons (E_sub (E_name (.nth 3 rfl)) (E_name (.nth 1 rfl)) (I_at (nums_at hj) (by omega))) L_nil) K_nil ((iseof_ok (k := 0) F _).up hk)))) (E_name (.nth 1 rfl)) ih
    · rw [List.filter_cons_of_neg (by exact hc)]
      exact .skip (.nth 1 rfl) (show Tests _ _ _ _ _ _ from T_isnt (by simpa using hc) (T_bool (E_call (E_glob (.nth 2 rfl) F.g_ISEOF fun _ _ => .val _) (keep70 F) (L_cons (E_sub (E_name (.nth 3 rfl)) (E_name (.nth 1 rfl)) (I_at (nums_at hj) (by omega))) L_nil) K_nil ((iseof_ok (k := 0) F _).up hk)))) ih

theorem comp2 (F : Facts X) (hk : 1 ≤ k) (names digits : List Int) (kind : Int) (hl : digits.length < 2 ^ 20) (hl2 : names.length < 2 ^ 20) (sc : Scope) (hsc : sc.names = ns2) : ∀ js : List Nat, (∀ j ∈ js, j < names.length ∧ j < digits.length) →
    Comps X k sc [none, none, none, some (.val (.list (nums digits))), some (.val (.int kind)), some (.val (.list (nums names)))] 1 ("k" : Str) (lcOf hourB[6]?).2 (lcOf hourB[6]?).1 (js.map fun i => AV.int (i : Nat)) (nums ((js.filter fun j => names.getD j 0 == kind && !(digits.getD j 0 == 0)).map Int.ofNat))
  | [], _ => .nil
  | j :: js, h => by
    obtain ⟨kind_, names_, gen, co, more⟩ := sc
    simp only at hsc; subst hsc
    have hj := h j (List.mem_cons_self ..)
    have ih := comp2 F hk names digits kind hl hl2 ⟨kind_, ns2, gen, co, more⟩ rfl js fun z hz => h z (List.mem_cons_of_mem _ hz)
    cases hc1 : names.getD j 0 == kind with
    | true =>
      cases hc2 : digits.getD j 0 == 0 with
      | false =>
        rw [List.filter_cons_of_pos (by rw [hc1, hc2]; rfl)]
        exact .keep (.nth 1 rfl) (show Tests _ _ _ _ _ _ from T_andT (T_is hc1 (T_cmp (E_sub (E_name (.nth 5 rfl)) (E_name (.nth 1 rfl)) (I_at (nums_at hj.1) (by omega))) (E_name (.nth 4 rfl)) (C_eq))) (T_is (t := !(digits.getD j 0 == 0)) (by rw [hc2]; rfl) (T_not (T_bool (E_call (E_glob (.nth 2 rfl) F.g_ISEOF fun _ _ => .val _) (keep70 F) (L_cons (E_sub (E_name (.nth 3 rfl)) (E_name (.nth 1 rfl)) (I_at (nums_at hj.2) (by omega))) L_nil) K_nil ((iseof_ok (k := 0) F _).up hk)))))) (E_name (.nth 1 rfl)) ih
      | true =>
        rw [List.filter_cons_of_neg (by rw [hc1, hc2]; simp)]
        exact .skip (.nth 1 rfl) (show Tests _ _ _ _ _ _ from T_andT (T_is hc1 (T_cmp (E_sub (E_name (.nth 5 rfl)) (E_name (.nth 1 rfl)) (I_at (nums_at hj.1) (by omega))) (E_name (.nth 4 rfl)) (C_eq))) (T_isnt (t := !(digits.getD j 0 == 0)) (by rw [hc2]; rfl) (T_not (T_bool (E_call (E_glob (.nth 2 rfl) F.g_ISEOF fun _ _ => .val _) (keep70 F) (L_cons (E_sub (E_name (.nth 3 rfl)) (E_name (.nth 1 rfl)) (I_at (nums_at hj.2) (by omega))) L_nil) K_nil ((iseof_ok (k := 0) F _).up hk)))))) ih
    | false =>
      rw [List.filter_cons_of_neg (by rw [hc1]; simp)]
      exact .skip (.nth 1 rfl) (show Tests _ _ _ _ _ _ from T_andF (T_isnt hc1 (T_cmp (E_sub (E_name (.nth 5 rfl)) (E_name (.nth 1 rfl)) (I_at (nums_at hj.1) (by omega))) (E_name (.nth 4 rfl)) (C_eq)))) ih

theorem comp4 (names digits : List Int) (hl : digits.length < 2 ^ 20) (hl2 : names.length < 2 ^ 20) (sc : Scope) (hsc : sc.names = ns4) : ∀ js : List Nat, (∀ j ∈ js, j < names.length ∧ j < digits.length) →
    DComps X k sc [none, none, some (.val (.list (nums digits))), some (.val (.list (nums names)))] 1 ("k" : Str) (dcOf hourB[11]?).2.2 (dcOf hourB[11]?).1 (dcOf hourB[11]?).2.1 (js.map fun i => AV.int (i : Nat)) (js.filterMap fun j => if 0 < digits.getD j 0 then some (names.getD j 0, digits.getD j 0) else none)
  | [], _ => .nil
  | j :: js, h => by
    obtain ⟨kind_, names_, gen, co, more⟩ := sc
    simp only at hsc; subst hsc
    have hj := h j (List.mem_cons_self ..)
    have ih := comp4 names digits hl hl2 ⟨kind_, ns4, gen, co, more⟩ rfl js fun z hz => h z (List.mem_cons_of_mem _ hz)
    by_cases hc : 0 < digits.getD j 0
    · rw [List.filterMap_cons, if_pos hc]
      exact .keep (.nth 1 rfl) (show Tests _ _ _ _ _ _ from T_is (by simpa using hc) (T_cmp (E_sub (E_name (.nth 2 rfl)) (E_name (.nth 1 rfl)) (I_at (nums_at hj.2) (by omega))) E_int (C_gt))) (E_sub (E_name (.nth 3 rfl)) (E_name (.nth 1 rfl)) (I_at (nums_at hj.1) (by omega))) (E_sub (E_name (.nth 2 rfl)) (E_name (.nth 1 rfl)) (I_at (nums_at hj.2) (by omega))) ih
    · rw [List.filterMap_cons, if_neg hc]
      exact .skip (.nth 1 rfl) (show Tests _ _ _ _ _ _ from T_isnt (by simpa using hc) (T_cmp (E_sub (E_name (.nth 2 rfl)) (E_name (.nth 1 rfl)) (I_at (nums_at hj.2) (by omega))) E_int (C_gt))) ih

theorem comp5 (least : Int) (sc : Scope) (hsc : sc.names = ns5) : ∀ row : List (List Int), (∀ o ∈ row, o.length = 3) →
    DComps X k sc [none, none, some (.val (.int least))] 1 ("one" : Str) (dcIf hourB[13]?).2.2 (dcIf hourB[13]?).1 (dcIf hourB[13]?).2.1 (tups row) (row.filterMap fun o => if least < o.getD 0 0 then some (o.getD 1 0, o.getD 0 0 - least) else none)
  | [], _ => .nil
  | o :: row, h => by
    obtain ⟨kind_, names_, gen, co, more⟩ := sc
    simp only at hsc; subst hsc
    have ho := h o (List.mem_cons_self ..)
    have ih := comp5 least ⟨kind_, ns5, gen, co, more⟩ rfl row fun z hz => h z (List.mem_cons_of_mem _ hz)
    by_cases hc : least < o.getD 0 0
    · rw [List.filterMap_cons, if_pos hc]
      exact .keep (.nth 1 rfl) (show Tests _ _ _ _ _ _ from T_is (by simpa using hc) (T_cmp (E_sub (E_name (.nth 1 rfl)) E_int (I_tup (one_get ho (by decide)) (by decide))) (E_name (.nth 2 rfl)) (C_gt))) (E_sub (E_name (.nth 1 rfl)) E_int (I_tup (one_get ho (by decide)) (by decide))) (E_bin (E_sub (E_name (.nth 1 rfl)) E_int (I_tup (one_get ho (by decide)) (by decide))) (E_name (.nth 2 rfl)) (B_sub)) ih
    · rw [List.filterMap_cons, if_neg hc]
      exact .skip (.nth 1 rfl) (show Tests _ _ _ _ _ _ from T_isnt (by simpa using hc) (T_cmp (E_sub (E_name (.nth 1 rfl)) E_int (I_tup (one_get ho (by decide)) (by decide))) (E_name (.nth 2 rfl)) (C_gt))) ih
end
end Mine
namespace Mine

theorem MutF.is {X : Cx} {k : Nat} {f : Value} {l : List AV} {as : List AV} {kw : List (Str × AV)} {l' l'' : List AV} (h : l' = l'') (H : MutF X k f l as kw l') : MutF X k f l as kw l'' := h ▸ H
theorem cut_take {α : Type} {l : List α} {a : Nat} (h : a ≤ l.length) : cutL none (some (a : Int)) l = l.take a := by
  unfold cutL
  simp only [Option.elim, List.drop_zero, clipAt_nat, Nat.sub_zero]
  rw [Nat.min_eq_left h]
theorem cut_drop {α : Type} {l : List α} {a : Nat} (h : a ≤ l.length) : cutL (some (a : Int)) none l = l.drop a := by
  unfold cutL
  simp only [Option.elim, clipAt_nat]
  rw [Nat.min_eq_left h, List.take_of_length_le (by rw [List.length_drop]; omega)]

theorem nil_or {α : Type} (l : List α) : l = [] ∨ ∃ a t, l = a :: t := by
  cases l with
  | nil => exact .inl rfl
  | cons a t => exact .inr ⟨a, t, rfl⟩
structure Inv (size : Nat) (S : St) : Prop where
  row : S.row.length = size + 1
  three : ∀ o ∈ S.row, o.length = 3
  names : S.names.length = size
  digits : S.digits.length = size
  num : S.number < 2 ^ 40
  dig : ∀ d ∈ S.digits, 0 ≤ d ∧ d < 2 ^ 40

/-- what an hour's check says -/
theorem step_says {size wide hour : Nat} {late : Bool} {kind : Int} {S S' : St} (h : stepF size wide late hour kind S = some S') :
    ∃ c, c = countF size wide kind S.names S.number S.digits ∧ 0 ≤ c.2 ∧ S' = ⟨rowF size hour late kind S.row, c.1, c.2.toNat, digitsF size wide c.2.toNat, keptF size c.1 (digitsF size wide c.2.toNat)⟩ ∧ Inv size S' ∧
      (S'.kept.length == (overF (rowAt S'.row 0 0) S'.row).length && S'.kept.all fun p => atL (overF (rowAt S'.row 0 0) S'.row) p.1 == some p.2) = true ∧ 0 ≤ ((hour + 1 : Nat) : Int) - S'.digits.sum ∧ ((hour + 1 : Nat) : Int) - S'.digits.sum = rowAt S'.row 0 0 * ((size + 1 : Nat) : Int) := by
  unfold stepF at h
  simp only at h
  split at h
  · rename_i hc
    simp only [Bool.and_eq_true, decide_eq_true_eq, beq_iff_eq, List.all_eq_true] at hc
    obtain ⟨⟨⟨⟨⟨⟨⟨⟨⟨⟨h1, h2⟩, h3⟩, h4⟩, h5⟩, h6⟩, h7⟩, h8⟩, h9⟩, h10⟩, h11⟩ := hc
    cases h
    refine ⟨_, rfl, h1, rfl, ⟨h3, h4, h5, h6, by show Int.toNat _ < _; omega, h7⟩, ?_, h10, h11⟩
    simp only [Bool.and_eq_true, beq_iff_eq, List.all_eq_true]
    exact ⟨h8, h9⟩
  · cases h

theorem slot_lt {size : Nat} {kind : Int} {row : List (List Int)} : ((slotsF size kind row).headD 0).toNat < size + 1 := by
  cases h : slotsF size kind row with
  | nil => simp
  | cons a t =>
    have hm : a ∈ slotsF size kind row := h ▸ List.mem_cons_self ..
    unfold slotsF at hm
    obtain ⟨j, hj, rfl⟩ := List.mem_map.mp hm
    have := List.mem_range.mp (List.mem_filter.mp hj).1
    simpa using this
theorem held_lt {size : Nat} {kind : Int} {names digits : List Int} {a : Int} (hm : a ∈ heldF size kind names digits) : ∃ j : Nat, a = (j : Nat) ∧ j < size := by
  obtain ⟨j, hj, rfl⟩ := List.mem_map.mp hm
  exact ⟨j, rfl, List.mem_range.mp (List.mem_filter.mp hj).1⟩
theorem free_lt {size : Nat} {digits : List Int} {a : Int} (hm : a ∈ freeF size digits) : ∃ j : Nat, a = (j : Nat) ∧ j < size := by
  obtain ⟨j, hj, rfl⟩ := List.mem_map.mp hm
  exact ⟨j, rfl, List.mem_range.mp (List.mem_filter.mp hj).1⟩
theorem nums_atom {l : List Int} : ∀ a ∈ nums l, Atom a := by
  intro a ha
  obtain ⟨i, _, rfl⟩ := List.mem_map.mp ha
  exact Atom.int
theorem place_le {late : Bool} {row : List (List Int)} {x : Int} : placeF late row x ≤ row.length := by
  unfold placeF
  split
  · exact bisL_le _ _ _ _ _ (Nat.zero_le _)
  · exact bisR_le _ _ _ _ _ (Nat.zero_le _)

theorem sum_nonneg : ∀ {l : List Int}, (∀ d ∈ l, 0 ≤ d) → 0 ≤ l.sum
  | [], _ => Int.le_refl _
  | d :: t, h => by
    rw [List.sum_cons]
    have := h d (.head _)
    have := sum_nonneg fun x hx => h x (.tail _ hx)
    omega
section
variable {X : Cx} {k : Nat}

/-- a conditional expression that is stored -/
noncomputable def ifOf : Option Stmt → Expr
  | some (.Assign _ e _) => e
  | _ => .Constant .none 0 ⟨0, 0, 0, 0⟩
noncomputable def stOf : Option Stmt → Stmt
  | some s => s
  | none => .Pass ⟨0, 0, 0, 0⟩
set_option maxHeartbeats 2000000 in
theorem hour_ok (F : Facts X) (hk : 80 ≤ k) {stream : List Int} {size wide hour : Nat} {late : Bool} {S S' : St} {kind : Int} (hki : (nums stream)[hour]? = some (.int kind)) (hst : stream.length < 2 ^ 20) (hs : 0 < size ∧ size ≤ 8) (hw : 0 < wide ∧ wide ≤ 8) (inv : Inv size S)
    (hstep : stepF size wide late hour kind S = some S') :
    ∃ o10 o11 o12 o13 o14 o15 o16, Execs X k (fscope 76) [some (.val (.list (nums stream))), some (.val (.int (size : Nat))), some (.val (.int (wide : Nat))), some (.val (.val (.bool late))), some (.own (tups S.row) none), some (.own (nums S.names) none), some (.val (.int (S.number : Nat))), some (.val (.list (nums S.digits))), some (.val (.dictI S.kept)), some (.val (.int (hour : Nat))), none, none, none, none, none, none, none] hourB (.next [some (.val (.list (nums stream))), some (.val (.int (size : Nat))), some (.val (.int (wide : Nat))), some (.val (.val (.bool late))), some (.own (tups S'.row) none), some (.own (nums S'.names) none), some (.val (.int (S'.number : Nat))), some (.val (.list (nums S'.digits))), some (.val (.dictI S'.kept)), some (.val (.int (hour : Nat))), o10, o11, o12, o13, o14, o15, o16]) := by
  obtain ⟨c, hc, hc0, rfl, inv', hkept, hs0', hleast⟩ := step_says hstep
  have hhour : hour < stream.length := by
    have := (List.getElem?_eq_some_iff.mp hki).1
    simpa using this
  obtain ⟨slot, hslotE⟩ : ∃ slot, slot = ((slotsF size kind S.row).headD 0).toNat := ⟨_, rfl⟩
  have hslot : slot < S.row.length := by rw [inv.row, hslotE]; exact slot_lt
  obtain ⟨x, hx⟩ : ∃ x, x = rowAt S.row slot 0 + 1 := ⟨_, rfl⟩
  obtain ⟨row', hrow'⟩ : ∃ row', row' = S.row.take slot ++ S.row.drop (slot + 1) := ⟨_, rfl⟩
  obtain ⟨row2, hrow2⟩ : ∃ row2, row'.take (placeF late row' x) ++ [x, kind, ((hour + 1 : Nat) : Int)] :: row'.drop (placeF late row' x) = row2 := ⟨_, rfl⟩
  have hrow2E : rowF size hour late kind S.row = row2 := by rw [← hrow2, hrow', hx, hslotE]; rfl
  simp only [hrow2E] at inv' hkept hs0' hleast ⊢
  obtain ⟨held, hheld⟩ : ∃ held, heldF size kind S.names S.digits = held := ⟨_, rfl⟩
  obtain ⟨free, hfree⟩ : ∃ free, freeF size S.digits = free := ⟨_, rfl⟩
  obtain ⟨nm, hnm⟩ : ∃ nm, c.1 = nm := ⟨_, rfl⟩
  obtain ⟨nr, hnr⟩ : ∃ nr, c.2.toNat = nr := ⟨_, rfl⟩
  have hnrI : c.2 = (nr : Int) := by omega
  simp only [hnm, hnr] at inv' hkept hs0' hleast ⊢
  obtain ⟨dg, hdg⟩ : ∃ dg, digitsF size wide nr = dg := ⟨_, rfl⟩
  simp only [hdg] at inv' hkept hs0' hleast ⊢
  obtain ⟨kp, hkp⟩ : ∃ kp, keptF size nm dg = kp := ⟨_, rfl⟩
  simp only [hkp] at inv' hkept hs0' hleast ⊢
  obtain ⟨least, hle⟩ : ∃ least, rowAt row2 0 0 = least := ⟨_, rfl⟩
  simp only [hle] at hkept hleast
  have i1 := inv.row; have i2 := inv.names; have i3 := inv.digits; have i4 := inv.num
  have j1 : row2.length = size + 1 := inv'.row
  have j2 : nm.length = size := inv'.names
  have j3 : dg.length = size := inv'.digits
  have j4 : nr < 2 ^ 40 := inv'.num
  have h3 : ∀ o ∈ row2, o.length = 3 := inv'.three
  have hrl : (tups S.row).length ≤ sizeLine := by rw [List.length_map, i1]; show _ ≤ 2 ^ 24; omega
  have hr'l : row'.length = size := by rw [hrow', List.length_append, List.length_take, List.length_drop]; omega
  have hr'ne : ∀ r ∈ row', r ≠ [] := by
    intro r hr
    have : r ∈ S.row := by
      rw [hrow'] at hr
      rcases List.mem_append.mp hr with hr | hr
      · exact List.mem_of_mem_take hr
      · exact List.mem_of_mem_drop hr
    intro e
    have := inv.three r this
    rw [e] at this; cases this
  have hrow0 : 0 < row2.length := by omega
  have hwb : Builtin.Int.intBits (wide : Int) ≤ 64 := bits64 (by omega) (by omega)
  have hslots : ∃ v : AV, v = .int (slot : Nat) ∧ Evals X true k (fscope 76) [some (.val (.list (nums stream))), some (.val (.int (size : Nat))), some (.val (.int (wide : Nat))), some (.val (.val (.bool late))), some (.own (tups S.row) none), some (.own (nums S.names) none), some (.val (.int (S.number : Nat))), some (.val (.list (nums S.digits))), some (.val (.dictI S.kept)), some (.val (.int (hour : Nat))), some (.val (.int kind)), some (.val (.list (nums (slotsF size kind S.row)))), none, none, none, none, none] (ifOf hourB[2]?) v := by
    refine ⟨_, rfl, ?_⟩
    cases hsl : slotsF size kind S.row with
    | nil =>
      have : slot = 0 := by rw [hslotE, hsl]; rfl
      subst this
      rw [← hsl]
      exact E_ifF (T_isnt (by rw [hsl]; rfl) (T_cmp (E_name (.nth 11 rfl)) (EvalsN.evals (N_list L_nil (by decide))) (C_neInts (l := slotsF size kind S.row) (l' := []) (by omega)))) E_int
    | cons a t =>
      have ha : a = ((slot : Nat) : Int) := by
        obtain ⟨j, hj, rfl⟩ := List.mem_map.mp (show a ∈ slotsF size kind S.row from hsl ▸ List.mem_cons_self ..)
        rw [hslotE, hsl]; rfl
      have hs0 : (nums (slotsF size kind S.row))[0]? = some (.int ((slot : Nat) : Int)) := by rw [hsl, ← ha]; rfl
      rw [← hsl]
      exact E_ifT (T_is (by rw [hsl]; rfl) (T_cmp (E_name (.nth 11 rfl)) (EvalsN.evals (N_list L_nil (by decide))) (C_neInts (l := slotsF size kind S.row) (l' := []) (by omega)))) (E_sub (E_name (.nth 11 rfl)) E_int (I_at (i := 0) hs0 (by decide)))
  have h8 : ∃ o : Option Slot, o = none ∧ Exec X k (fscope 76) [some (.val (.list (nums stream))), some (.val (.int (size : Nat))), some (.val (.int (wide : Nat))), some (.val (.val (.bool late))), some (.own (tups row2) none), some (.own (nums S.names) none), some (.val (.int (S.number : Nat))), some (.val (.list (nums S.digits))), some (.val (.dictI S.kept)), some (.val (.int (hour : Nat))), some (.val (.int kind)), some (.val (.list (nums (slotsF size kind S.row)))), some (.val (.int (slot : Nat))), some (.val (.tup [x, kind, ((hour + 1 : Nat) : Int)])), some (.val (.list (nums held))), some (.val (.list (nums free))), none] (stOf hourB[8]?) (.next [some (.val (.list (nums stream))), some (.val (.int (size : Nat))), some (.val (.int (wide : Nat))), some (.val (.val (.bool late))), some (.own (tups row2) none), some (.own (nums nm) none), some (.val (.int (nr : Nat))), some (.val (.list (nums S.digits))), some (.val (.dictI S.kept)), some (.val (.int (hour : Nat))), some (.val (.int kind)), some (.val (.list (nums (slotsF size kind S.row)))), some (.val (.int (slot : Nat))), some (.val (.tup [x, kind, ((hour + 1 : Nat) : Int)])), some (.val (.list (nums held))), some (.val (.list (nums free))), none]) := by
    refine ⟨none, rfl, ?_⟩
    rcases nil_or held with hH | ⟨a, t, hH⟩
    rotate_left
    · skip
      obtain ⟨j, rfl, hj⟩ := held_lt (show a ∈ heldF size kind S.names S.digits from hheld ▸ hH ▸ List.mem_cons_self ..)
      have hcE : c = (S.names, ((S.number + 2 ^ (wide * j) : Nat) : Int)) := by rw [hc]; unfold countF; rw [hheld, hH]; rfl
      have e1 : nm = S.names := by rw [← hnm, hcE]
      have e2 : nr = S.number + 2 ^ (wide * j) := by rw [← hnr, hcE]; rfl
      subst e1
      rw [e2]
      have hd0 : (nums held)[0]? = some (.int ((j : Nat) : Int)) := by rw [hH]; rfl
      have hmul : (wide : Int) * ((j : Nat) : Int) = ((wide * j : Nat) : Int) := by push_cast; rfl
      have hle8 : wide * j ≤ 64 := Nat.mul_le_mul hw.2 (by omega : j ≤ 8)
      have hsh0 : 0 ≤ (wide : Int) * ((j : Nat) : Int) := by rw [hmul]; omega
      have hsh1 : (Builtin.Int.intBits 1 : Int) + (wide : Int) * ((j : Nat) : Int) ≤ 2 ^ 27 := by
        have : Builtin.Int.intBits 1 ≤ 64 := bits64 (by decide) (by decide)
        rw [hmul]; omega
      exact S_ifT (T_is (by rw [hH]; rfl) (T_cmp (E_name (.nth 14 rfl)) (EvalsN.evals (N_list L_nil (by decide))) (C_neInts (l := held) (l' := []) (by omega)))) (S_cons (S_aug (.nth 6 rfl) (E_bin E_int (E_bin (E_name (.nth 2 rfl)) (E_sub (E_name (.nth 14 rfl)) E_int (I_at (i := 0) hd0 (by decide))) (B_mul (.of_left hwb))) (B_shl hsh0 hsh1)) (A_is (by rw [hmul, Int.toNat_natCast, Int.one_mul]; push_cast; rfl) G_add) (.nth 6 rfl)) S_nil)
    · rcases nil_or free with hFr | ⟨a, t, hFr⟩
      rotate_left
      · skip
        obtain ⟨j, rfl, hj⟩ := free_lt (show a ∈ freeF size S.digits from hfree ▸ hFr ▸ List.mem_cons_self ..)
        have hcE : c = (S.names.set j kind, ((S.number + 2 ^ (wide * j) : Nat) : Int)) := by rw [hc]; unfold countF; rw [hheld, hH, hfree, hFr]; rfl
        have e1 : nm = S.names.set j kind := by rw [← hnm, hcE]
        have e2 : nr = S.number + 2 ^ (wide * j) := by rw [← hnr, hcE]; rfl
        rw [e1, e2]
        have hf0 : (nums free)[0]? = some (.int ((j : Nat) : Int)) := by rw [hFr]; rfl
        have hmul : (wide : Int) * ((j : Nat) : Int) = ((wide * j : Nat) : Int) := by push_cast; rfl
        have hle8 : wide * j ≤ 64 := Nat.mul_le_mul hw.2 (by omega : j ≤ 8)
        have hsh0 : 0 ≤ (wide : Int) * ((j : Nat) : Int) := by rw [hmul]; omega
        have hsh1 : (Builtin.Int.intBits 1 : Int) + (wide : Int) * ((j : Nat) : Int) ≤ 2 ^ 27 := by
          have : Builtin.Int.intBits 1 ≤ 64 := bits64 (by decide) (by decide)
          rw [hmul]; omega
        have hset : (nums S.names).set j (.int kind) = nums (S.names.set j kind) := by rw [nums, nums, List.map_set]
        refine S_ifF (T_isnt (by rw [hH]; rfl) (T_cmp (E_name (.nth 14 rfl)) (EvalsN.evals (N_list L_nil (by decide))) (C_neInts (l := held) (l' := []) (by omega)))) (S_cons (S_ifT (T_is (by rw [hFr]; rfl) (T_cmp (E_name (.nth 15 rfl)) (EvalsN.evals (N_list L_nil (by decide))) (C_neInts (l := free) (l' := []) (by omega)))) (S_cons (Γ' := [some (.val (.list (nums stream))), some (.val (.int (size : Nat))), some (.val (.int (wide : Nat))), some (.val (.val (.bool late))), some (.own (tups row2) none), some (.own ((nums S.names).set j (.int kind)) none), some (.val (.int (S.number : Nat))), some (.val (.list (nums S.digits))), some (.val (.dictI S.kept)), some (.val (.int (hour : Nat))), some (.val (.int kind)), some (.val (.list (nums (slotsF size kind S.row)))), some (.val (.int (slot : Nat))), some (.val (.tup [x, kind, ((hour + 1 : Nat) : Int)])), some (.val (.list (nums held))), some (.val (.list (nums free))), none]) (S_setItem (E_name (.nth 10 rfl)) (.nth 5 rfl) (E_sub (E_name (.nth 15 rfl)) E_int (I_at (i := 0) hf0 (by decide))) (by rw [List.length_map]; omega) (by rw [List.length_map]; show _ ≤ 2 ^ 24; omega) (.nth 5 rfl)) ?_)) S_nil)
        rw [hset]
        exact S_cons (S_aug (.nth 6 rfl) (E_bin E_int (E_bin (E_name (.nth 2 rfl)) (E_sub (E_name (.nth 15 rfl)) E_int (I_at (i := 0) hf0 (by decide))) (B_mul (.of_left hwb))) (B_shl hsh0 hsh1)) (A_is (by rw [hmul, Int.toNat_natCast, Int.one_mul]; push_cast; rfl) G_add) (.nth 6 rfl)) S_nil
      · have hcE : c = (S.names, (S.number : Int) - d2i wide (List.replicate size 1)) := by rw [hc]; unfold countF; rw [hheld, hH, hfree, hFr]
        have e1 : nm = S.names := by rw [← hnm, hcE]
        have e2 : (S.number : Int) - d2i wide (List.replicate size 1) = (nr : Int) := by rw [← hnrI, hcE]
        have h1b : ∀ y ∈ List.replicate size (1 : Int), Builtin.Int.intBits y ≤ 64 := fun y hy => by
          rw [List.eq_of_mem_replicate hy]; exact bits64 (by decide) (by decide)
        rw [e1, ← e2]
        exact S_ifF (T_isnt (by rw [hH]; rfl) (T_cmp (E_name (.nth 14 rfl)) (EvalsN.evals (N_list L_nil (by decide))) (C_neInts (l := held) (l' := []) (by omega)))) (S_cons (S_ifF (T_isnt (by rw [hFr]; rfl) (T_cmp (E_name (.nth 15 rfl)) (EvalsN.evals (N_list L_nil (by decide))) (C_neInts (l := free) (l' := []) (by omega)))) (S_cons (S_aug (.nth 6 rfl) (E_call (E_glob (.nth 22 rfl) F.g_digits2int fun _ _ => .val _) (keep11 F) (L_cons (EvalsN.evals (N_is (l' := nums (List.replicate size 1)) (by rw [Int.toNat_natCast]; show (List.replicate size [AV.int 1]).flatten = _; rw [flat_rep, nums, List.map_replicate]) (N_bin (EvalsN.evals (N_list (L_cons E_int L_nil) (by simp only [List.length_cons, List.length_nil]; decide))) (E_name (.nth 1 rfl)) (BN_mul (by omega) (by omega) (by simp) (by simp only [List.length_cons, List.length_nil]; omega))))) (L_cons (E_name (.nth 2 rfl)) L_nil)) K_nil ((d2i_ok (k := 0) (m := 64) (xs := List.replicate size 1) (n := wide) F h1b (by omega) (by omega) (by rw [List.length_replicate]; omega)).up (by rw [List.length_replicate]; omega))) G_sub (.nth 6 rfl)) S_nil)) S_nil)
  obtain ⟨v2, rfl, hslots⟩ := hslots
  obtain ⟨_, rfl, h8⟩ := h8
  refine ⟨some (.val (.int kind)), some (.val (.list (nums (slotsF size kind S.row)))), some (.val (.int (slot : Nat))), some (.val (.tup [x, kind, ((hour + 1 : Nat) : Int)])), some (.val (.list (nums held))), some (.val (.list (nums free))), some (.val (.int least)), ?_⟩
  refine S_cons (S_assign (E_sub (E_name .here) (E_name (.nth 9 rfl)) (I_at hki (by omega))) (.nth 10 rfl)) ?_
  refine S_cons (Γ' := [some (.val (.list (nums stream))), some (.val (.int (size : Nat))), some (.val (.int (wide : Nat))), some (.val (.val (.bool late))), some (.own (tups S.row) none), some (.own (nums S.names) none), some (.val (.int (S.number : Nat))), some (.val (.list (nums S.digits))), some (.val (.dictI S.kept)), some (.val (.int (hour : Nat))), some (.val (.int kind)), some (.val (.list (nums (slotsF size kind S.row)))), none, none, none, none, none]) (S_listComp (bor := true) (I_range (.nth 17 rfl) F.g_range (E_is (c := .int ((size + 1 : Nat) : Int)) rfl (E_bin (E_name (.nth 1 rfl)) E_int (B_add))) (by omega)) (ns' := ns1) ⟨.loc (.loc (.cell (.nth 10 rfl) (.cellO rfl (.nth 4 rfl) .nil))), rfl, by decide +kernel, by decide +kernel, (by intro sl h; cases h), rfl⟩ (comp1 S.row kind inv.three (by omega) _ rfl (List.range (size + 1)) fun j hj => by rw [i1]; exact List.mem_range.mp hj) (fun _ => nums_atom) (by simp only [List.length_map, List.length_range]; show _ ≤ 2 ^ 24; omega) (.nth 11 rfl) (by decide +kernel) (by decide +kernel)) ?_
  refine S_cons (S_assign hslots (.nth 12 rfl)) ?_
  refine S_cons (S_assign (E_is (c := .tup [x, kind, ((hour + 1 : Nat) : Int)]) (by rw [hx]; rfl) (E_tup (l := [rowAt S.row slot 0 + 1, kind, ((hour : Nat) : Int) + 1]) (L_cons (E_bin (E_sub (E_sub (E_own (.nth 4 rfl)) (E_name (.nth 12 rfl)) (I_at (tups_at hslot) (by omega))) E_int (I_tup (i := 0) (row_get inv.three hslot (by decide)) (by decide))) E_int (B_add)) (L_cons (E_name (.nth 10 rfl)) (L_cons (E_bin (E_name (.nth 9 rfl)) E_int (B_add)) L_nil))) (by simp only [List.length_cons, List.length_nil]; decide))) (.nth 13 rfl)) ?_
  refine S_cons (S_own (N_is (l' := tups row') (by rw [hrow', tups, tups, ← List.map_take, ← List.map_drop, ← List.map_append]) (N_bin (EvalsN.evals (N_cut (E_own (.nth 4 rfl)) PartV.none (.some (E_name (.nth 12 rfl))) hrl (cut_take (by rw [List.length_map]; omega)))) (EvalsN.evals (N_cut (E_own (.nth 4 rfl)) (.some (E_is (c := .int ((slot + 1 : Nat) : Int)) rfl (E_bin (E_name (.nth 12 rfl)) E_int (B_add)))) PartV.none hrl (cut_drop (by rw [List.length_map]; omega)))) (BN_add (by rw [List.length_take, List.length_drop, List.length_map]; show _ ≤ 2 ^ 24; omega)))) (.nth 4 rfl)) ?_
  refine S_cons (Γ' := [some (.val (.list (nums stream))), some (.val (.int (size : Nat))), some (.val (.int (wide : Nat))), some (.val (.val (.bool late))), some (.own (tups row2) none), some (.own (nums S.names) none), some (.val (.int (S.number : Nat))), some (.val (.list (nums S.digits))), some (.val (.dictI S.kept)), some (.val (.int (hour : Nat))), some (.val (.int kind)), some (.val (.list (nums (slotsF size kind S.row)))), some (.val (.int (slot : Nat))), some (.val (.tup [x, kind, ((hour + 1 : Nat) : Int)])), none, none, none]) ?_ ?_
  · cases late with
    | true => exact S_ifT (T_bool (E_name (.nth 3 rfl))) (S_cons (S_mutCall (.nth 4 rfl) (E_glob (.nth 19 rfl) F.g_insort_left fun _ _ => .val _) (keep4 F) (L_cons (E_name (.nth 13 rfl)) L_nil) (K_cons (E_glob (.nth 20 rfl) F.g_law_count fun _ _ => .val _) K_nil) ((MutF.is (by rw [← hrow2]; simp only [tups, List.map_append, List.map_cons, List.map_take, List.map_drop]; rfl) (insortLK (k := 0) F (rows := row') (e := [x, kind, ((hour + 1 : Nat) : Int)]) (x := x) rfl hr'ne (by omega))).up (by omega)) (.nth 4 rfl)) S_nil)
    | false => exact S_ifF (T_bool (E_name (.nth 3 rfl))) (S_cons (S_mutCall (.nth 4 rfl) (E_glob (.nth 21 rfl) F.g_insort_right fun _ _ => .val _) (keep2 F) (L_cons (E_name (.nth 13 rfl)) L_nil) (K_cons (E_glob (.nth 20 rfl) F.g_law_count fun _ _ => .val _) K_nil) ((MutF.is (by rw [← hrow2]; simp only [tups, List.map_append, List.map_cons, List.map_take, List.map_drop]; rfl) (insortRK (k := 0) F (rows := row') (e := [x, kind, ((hour + 1 : Nat) : Int)]) (x := x) rfl hr'ne (by omega))).up (by omega)) (.nth 4 rfl)) S_nil)
  refine S_cons (Γ' := [some (.val (.list (nums stream))), some (.val (.int (size : Nat))), some (.val (.int (wide : Nat))), some (.val (.val (.bool late))), some (.own (tups row2) none), some (.own (nums S.names) none), some (.val (.int (S.number : Nat))), some (.val (.list (nums S.digits))), some (.val (.dictI S.kept)), some (.val (.int (hour : Nat))), some (.val (.int kind)), some (.val (.list (nums (slotsF size kind S.row)))), some (.val (.int (slot : Nat))), some (.val (.tup [x, kind, ((hour + 1 : Nat) : Int)])), some (.val (.list (nums (heldF size kind S.names S.digits)))), none, none]) (S_listComp (bor := true) (I_range (.nth 17 rfl) F.g_range (E_name (.nth 1 rfl)) (by omega)) (ns' := ns2) ⟨.loc (.loc (.glo (.cell (.nth 7 rfl) (.cell (.nth 10 rfl) (.cellO rfl (.nth 5 rfl) .nil))))), rfl, by decide +kernel, by decide +kernel, (by intro sl h; cases h), rfl⟩ (comp2 F (by omega) S.names S.digits kind (by omega) (by omega) _ rfl (List.range size) fun j hj => by rw [i2, i3]; exact ⟨List.mem_range.mp hj, List.mem_range.mp hj⟩) (fun _ => nums_atom) (by simp only [List.length_map, List.length_range]; show _ ≤ 2 ^ 24; omega) (.nth 14 rfl) (by decide +kernel) (by decide +kernel)) ?_
  rw [hheld]
  refine S_cons (Γ' := [some (.val (.list (nums stream))), some (.val (.int (size : Nat))), some (.val (.int (wide : Nat))), some (.val (.val (.bool late))), some (.own (tups row2) none), some (.own (nums S.names) none), some (.val (.int (S.number : Nat))), some (.val (.list (nums S.digits))), some (.val (.dictI S.kept)), some (.val (.int (hour : Nat))), some (.val (.int kind)), some (.val (.list (nums (slotsF size kind S.row)))), some (.val (.int (slot : Nat))), some (.val (.tup [x, kind, ((hour + 1 : Nat) : Int)])), some (.val (.list (nums held))), some (.val (.list (nums (freeF size S.digits)))), none]) (S_listComp (bor := true) (I_range (.nth 17 rfl) F.g_range (E_name (.nth 1 rfl)) (by omega)) (ns' := ns3) ⟨.loc (.loc (.glo (.cell (.nth 7 rfl) .nil))), rfl, by decide +kernel, by decide +kernel, (by intro sl h; cases h), rfl⟩ (comp3 F (by omega) S.digits (by omega) _ rfl (List.range size) fun j hj => by rw [i3]; exact List.mem_range.mp hj) (fun _ => nums_atom) (by simp only [List.length_map, List.length_range]; show _ ≤ 2 ^ 24; omega) (.nth 15 rfl) (by decide +kernel) (by decide +kernel)) ?_
  rw [hfree]
  refine S_cons h8 ?_
  refine S_cons (S_assign (E_call (E_glob (.nth 23 rfl) F.g_int2digits fun _ _ => .val _) (keep10 F) (L_cons (E_name (.nth 6 rfl)) (L_cons (E_name (.nth 2 rfl)) L_nil)) K_nil ((i2d_ok (k := 0) (n := wide) (a := nr) F hw.1 (by omega) (by omega)).up (by omega))) (.nth 7 rfl)) ?_
  have hil : (i2d wide nr).length ≤ 40 := i2d_len hw.1 j4 (by decide)
  have hsub : ((size : Int) - (((nums (i2d wide nr)).length : Nat) : Int)).toNat = size - (i2d wide nr).length := by rw [List.length_map]; omega
  refine S_cons (S_assign (E_is (c := .list (nums dg)) (by rw [hsub, flat_rep, ← hdg]; unfold digitsF; rw [nums, nums, List.map_append, List.map_replicate]) (EvalsN.evals (N_bin (E_name (.nth 7 rfl)) (EvalsN.evals (N_bin (EvalsN.evals (N_list (L_cons E_int L_nil) (by simp only [List.length_cons, List.length_nil]; decide))) (E_bin (E_name (.nth 1 rfl)) (E_call (E_glob (.nth 18 rfl) F.g_len fun _ _ => .val _) (keepB) (L_cons (E_name (.nth 7 rfl)) L_nil) K_nil (C_len_list (by rw [List.length_map]; omega))) (B_sub)) (BN_mul (by rw [List.length_map]; omega) (by omega) (by simp) (by rw [hsub]; simp only [List.length_cons, List.length_nil]; omega)))) (BN_add (by rw [hsub, flat_rep, List.length_map, List.length_replicate]; show _ ≤ 2 ^ 24; omega))))) (.nth 7 rfl)) ?_
  subst hkp
  refine S_cons (S_dictComp (bor := true) (I_range (.nth 17 rfl) F.g_range (E_name (.nth 1 rfl)) (by omega)) (ns' := ns4) ⟨.loc (.loc (.cell (.nth 7 rfl) (.cellO rfl (.nth 5 rfl) .nil))), rfl, by decide +kernel, by decide +kernel, (by intro sl h; cases h), rfl⟩ (comp4 nm dg (by omega) (by omega) _ rfl (List.range size) fun j hj => by rw [j2, j3]; exact ⟨List.mem_range.mp hj, List.mem_range.mp hj⟩) (by simp only [List.length_map, List.length_range]; show _ ≤ 2 ^ 24; omega) (.nth 8 rfl) (by decide +kernel) (by decide +kernel)) ?_
  have ekp : ((List.range size).filterMap fun j => if 0 < dg.getD j 0 then some (nm.getD j 0, dg.getD j 0) else none).foldl (fun l p => dput l p.1 p.2) [] = keptF size nm dg := rfl
  rw [ekp]
  refine S_cons (S_assign (E_is (c := .int least) (by rw [← hle]) (E_sub (E_sub (E_own (.nth 4 rfl)) E_int (I_at (i := 0) (tups_at hrow0) (by decide))) E_int (I_tup (i := 0) (row_get h3 hrow0 (by decide)) (by decide)))) (.nth 16 rfl)) ?_
  refine S_cons (S_ifF (T_isnt (by rw [Bool.not_eq_false']; exact hkept) (T_cmp (E_name (.nth 8 rfl)) (E_dictComp (bor := false) (I_list (E_own (.nth 4 rfl))) (ns' := ns5) ⟨.loc (.loc (.cell (.nth 16 rfl) .nil)), rfl, by decide +kernel, by decide +kernel, (by intro sl h; cases h), rfl⟩ (comp5 least _ rfl row2 h3) (by rw [List.length_map, j1]; show _ ≤ 2 ^ 24; omega)) C_neDict)) S_nil) ?_
  obtain ⟨n, hn⟩ : ∃ n : Nat, ((hour + 1 : Nat) : Int) - dg.sum = (n : Nat) := ⟨_, (Int.toNat_of_nonneg hs0').symm⟩
  have hn40 : n < 2 ^ 40 := by
    have : 0 ≤ dg.sum := sum_nonneg fun d hd => (inv'.dig d hd).1
    omega
  have hln : 0 ≤ least := by
    rw [hn] at hleast
    refine Int.not_lt.mp fun hneg => ?_
    have : least * ((size + 1 : Nat) : Int) < 0 := Int.mul_neg_of_neg_of_pos hneg (by omega)
    omega
  obtain ⟨l', hl'⟩ : ∃ l' : Nat, least = (l' : Nat) := ⟨_, (Int.toNat_of_nonneg hln).symm⟩
  have hnl : n = l' * (size + 1) := by
    rw [hn, hl'] at hleast; exact_mod_cast hleast
  have hdiv : n / (size + 1) = l' := by rw [hnl]; exact Nat.mul_div_cancel _ (by omega)
  have hmod : n % (size + 1) = 0 := by rw [hnl]; exact Nat.mul_mod_left _ _
  refine S_cons (S_ifF (T_isnt rfl (T_cmp (E_is (c := .tup [least, 0]) (by rw [hdiv, hmod, hl']; rfl) (E_call (E_glob (.nth 24 rfl) F.g_int_divmod fun _ _ => .val _) (keep13 F) (L_cons (E_is (c := .int (n : Nat)) (by rw [← hn]; rfl) (E_bin (E_bin (E_name (.nth 9 rfl)) E_int (B_add)) (E_call (E_glob (.nth 25 rfl) F.g_sum fun _ _ => .val _) (keepB) (L_cons (E_name (.nth 7 rfl)) L_nil) K_nil (C_sum)) (B_sub))) (L_cons (E_is (c := .int ((size + 1 : Nat) : Int)) rfl (E_bin (E_name (.nth 1 rfl)) E_int (B_add))) L_nil)) K_nil ((idm_ok (k := 70) F (by omega) (a := n) (b := size + 1) hn40 (by omega) (by omega)).up (by omega)))) (E_tup (L_cons (E_name (.nth 16 rfl)) (L_cons E_int L_nil)) (by simp only [List.length_cons, List.length_nil]; decide)) C_neTup)) S_nil) ?_
  exact S_nil
end
end Mine
namespace Mine

section
variable {X : Cx} {b bor : Bool} {k : Nat} {sc : Scope} {U W : Addr → Prop} {Γ Γ' Γ₁ : List (Option Slot)} {A : Around} {env : Env} {s : Shared} {r : Fl}

theorem E_dict0 {pos : Pos} : Evals X b k sc Γ (.Dict [] [] pos) (.dictI []) := by
  intro U W A env s Q E R q
  refine wpAny_Dict_empty (q _ _ s.toks (Aft.push R.tab _) (.inl (.dictI ?_ (Heap.DictOf.new s.heap) .nil)))
  exact R.fresh (Nat.le_refl _)
end
end Mine
namespace Mine

theorem run_inv {size wide : Nat} {late : Bool} : ∀ {items : List Int} {hour : Nat} {S S' : St}, Inv size S → runF size wide late hour items S = some S' → Inv size S'
  | [], _, S, S', inv, h => by cases h; exact inv
  | kind :: t, hour, S, S', inv, h => by
    unfold runF at h
    split at h
    · rename_i S₁ h1
      obtain ⟨_, _, _, _, inv₁, _⟩ := step_says h1
      exact run_inv inv₁ h
    · cases h
section
variable {X : Cx} {k : Nat}

theorem hoursLoop (F : Facts X) (hk : 80 ≤ k) {stream : List Int} {size wide : Nat} {late : Bool} (hst : stream.length < 2 ^ 20) (hs : 0 < size ∧ size ≤ 8) (hw : 0 < wide ∧ wide ≤ 8) : ∀ (items : List Int) (hour : Nat) (S S' : St), stream.drop hour = items → Inv size S → runF size wide late hour items S = some S' →
    Fors X k (fscope 76) [some (.val (.list (nums stream))), some (.val (.int (size : Nat))), some (.val (.int (wide : Nat))), some (.val (.val (.bool late))), some (.own (tups S.row) none), some (.own (nums S.names) none), some (.val (.int (S.number : Nat))), some (.val (.list (nums S.digits))), some (.val (.dictI S.kept)), none, none, none, none, none, none, none, none] (forOf (fbody 76)[5]?).1 hourB ((List.range' hour items.length).map fun i => .int (i : Nat)) (.next [some (.val (.list (nums stream))), some (.val (.int (size : Nat))), some (.val (.int (wide : Nat))), some (.val (.val (.bool late))), some (.own (tups S'.row) none), some (.own (nums S'.names) none), some (.val (.int (S'.number : Nat))), some (.val (.list (nums S'.digits))), some (.val (.dictI S'.kept)), none, none, none, none, none, none, none, none])
  | [], hour, S, S', _, _, h => by
    cases h
    exact F_nil fun _ _ => rfl
  | kind :: items, hour, S, S', hd, inv, h => by
    unfold runF at h
    split at h
    · rename_i S₁ h1
      obtain ⟨_, _, _, _, inv₁, _⟩ := step_says h1
      have hki : stream[hour]? = some kind := by
        have : (stream.drop hour)[0]? = some kind := by rw [hd]; rfl
        rw [List.getElem?_drop] at this
        simpa using this
      have hd' : stream.drop (hour + 1) = items := by
        rw [← List.drop_drop, hd]; rfl
      obtain ⟨o10, o11, o12, o13, o14, o15, o16, hx⟩ := hour_ok F hk (stream := stream) (by rw [List.getElem?_map, hki]; rfl) hst hs hw inv h1
      rw [List.length_cons, List.range'_succ, List.map_cons]
      exact F_cons (i' := 9) (.nth 9 rfl) hx (F_less (by exact .keep (.keep (.keep (.keep (.keep (.keep (.keep (.keep (.keep (.drop (.drop (.drop (.drop (.drop (.drop (.drop (.drop .nil))))))))))))))))) (hoursLoop F hk hst hs hw items (hour + 1) S₁ S' hd' inv₁ h))
    · cases h

theorem CmpV.is {op : CmpOp} {a c : AV} {t t' : Bool} (h : t = t') (H : CmpV X k op a c t) : CmpV X k op a c t' := h ▸ H
theorem kindLoop (F : Facts X) {stream : List Int} {size wide : Nat} {late : Bool} (hst : stream.length < 2 ^ 20) {S : St} (inv : Inv size S) : ∀ (items : List Int), (∀ kind ∈ items, (stream.count kind : Int) - rowAt S.row 0 0 ≤ (atL S.kept kind).getD 0 ∧ (atL S.kept kind).getD 0 ≤ (stream.count kind : Int)) →
    Fors X k (fscope 76) [some (.val (.list (nums stream))), some (.val (.int (size : Nat))), some (.val (.int (wide : Nat))), some (.val (.val (.bool late))), some (.own (tups S.row) none), some (.own (nums S.names) none), some (.val (.int (S.number : Nat))), some (.val (.list (nums S.digits))), some (.val (.dictI S.kept)), none, none, none, none, none, none, none, none] (forOf (fbody 76)[6]?).1 (forOf (fbody 76)[6]?).2 (nums items) (.next [some (.val (.list (nums stream))), some (.val (.int (size : Nat))), some (.val (.int (wide : Nat))), some (.val (.val (.bool late))), some (.own (tups S.row) none), some (.own (nums S.names) none), some (.val (.int (S.number : Nat))), some (.val (.list (nums S.digits))), some (.val (.dictI S.kept)), none, none, none, none, none, none, none, none])
  | [], _ => F_nil fun _ _ => rfl
  | kind :: items, h => by
    obtain ⟨h1, h2⟩ := h kind (.head _)
    have hrow0 : 0 < S.row.length := by rw [inv.row]; omega
    refine F_cons (Γ₂ := [some (.val (.list (nums stream))), some (.val (.int (size : Nat))), some (.val (.int (wide : Nat))), some (.val (.val (.bool late))), some (.own (tups S.row) none), some (.own (nums S.names) none), some (.val (.int (S.number : Nat))), some (.val (.list (nums S.digits))), some (.val (.dictI S.kept)), none, some (.val (.int kind)), none, none, none, none, none, none]) (i' := 10) (.nth 10 rfl) ?_ (F_less (by exact .keep (.keep (.keep (.keep (.keep (.keep (.keep (.keep (.keep (.keep (.drop (.keep (.keep (.keep (.keep (.keep (.keep .nil))))))))))))))))) (kindLoop F hst inv items fun z hz => h z (.tail _ hz)))
    refine S_cons (S_ifF (T_isnt (t := !true) rfl ?_) S_nil) S_nil
    exact (T_not (T_chain2 (E_bin (E_meth (E_name .here) (V_count) (L_cons (E_name (.nth 10 rfl)) L_nil) (C_count)) (E_sub (E_sub (E_own (.nth 4 rfl)) E_int (I_at (i := 0) (tups_at hrow0) (by decide))) E_int (I_tup (i := 0) (row_get inv.three hrow0 (by decide)) (by decide))) (B_sub)) (E_meth (E_name (.nth 8 rfl)) (V_dget) (L_cons (E_name (.nth 10 rfl)) (L_cons E_int L_nil)) (C_dget)) (CmpV.is (by simpa using h1) C_le) (E_meth (E_name .here) (V_count) (L_cons (E_name (.nth 10 rfl)) L_nil) (C_count)) (CmpV.is (by simpa using h2) C_le)))
end
end Mine
namespace Mine

/-- what a heap keeps while the frame's own namespace may be laid anew, alike -/
structure Kept (T : List (Addr × Pos × Str)) (V : Addr → Prop) (L : Addr) (m : Str → Option Value) (h₁ h : Heap) : Prop where
  keep : ∀ b o, h₁.get? b = some o → b ≠ L → b ∉ tabs → h.get? b = some o
  size : h₁.objs.size ≤ h.objs.size
  tab : TabOk T V h
  ns : h.Ns L m

section
variable {X : Cx} {b bor : Bool} {k : Nat} {sc : Scope} {U W : Addr → Prop} {Γ Γ' Γ₁ : List (Option Slot)} {A : Around} {env : Env} {s : Shared} {r : Fl}

theorem Rel.kept {h' : Heap} {tk : Nat} {m : Str → Option Value} (R : Rel X k sc U W Γ A env s) (hm : s.heap.Ns env.locals m) (K : Kept X.T (UW U W) env.locals m s.heap h') : Rel X k sc U W Γ A env { s with heap := h', toks := tk } := by
  obtain ⟨oL, esL, epL, eL, hdL, hsL, hfL⟩ := hm
  have ne : ∀ {b : Addr} {o : Obj}, s.heap.get? b = some o → (∀ es ep, o.data ≠ .dict es ep) → b ≠ env.locals := fun {b o} e h q => by
    rw [q, eL] at e; cases e; exact h _ _ hdL
  have kw : ∀ b o, Kp X W b → s.heap.get? b = some o → b ≠ env.locals → h'.get? b = some o := fun b o hb e n => K.keep b o e n (R.Kt hb)
  have ch : ∀ b o, s.heap.get? b = some o → ¬ (UW U W) b → h'.get? b = some o ∧ ¬ (UW U W) b := fun b o e n => ⟨K.keep b o e (fun q => n (.inr (q ▸ R.loc.1))) (fun q => n (.inl (R.Ut _ q))), n⟩
  refine { am := R.am, scp := R.scp, cod := R.cod, kind := R.kind, nod := R.nod, ndb := R.ndb, glob := R.glob, blt := R.blt, base := fun b o e => K.keep b o (R.base b o e) (fun q => (R.bW b o e).1 (q ▸ R.loc.1)) (R.bW b o e).2, bW := R.bW, bU := R.bU, tab := K.tab, Ult := fun b hb => Nat.lt_of_lt_of_le (R.Ult b hb) K.size, Wlt := fun b hb => Nat.lt_of_lt_of_le (R.Wlt b hb) K.size, dis := R.dis, Ut := R.Ut, Us := R.Us, loc := ⟨R.loc.1, m, K.ns⟩, cel := ?_, cinj := R.cinj, chas := R.chas, vars := ?_ }
  · intro x c hc
    obtain ⟨h1, v, o, e, rr⟩ := R.cel x c hc
    exact ⟨h1, v, o, kw _ _ h1 e (ne e fun es ep q => by rw [rr] at q; cases q), rr⟩
  · obtain ⟨ad, bd, h1, h2⟩ := R.vars
    refine ⟨ad, bd, h1, fun i x kd sl e1 e2 => ?_⟩
    obtain ⟨v, q1, q2⟩ := h2 i x kd sl e1 e2
    refine ⟨v, ?_, ?_⟩
    · cases kd with
      | «local» =>
        obtain ⟨m', ⟨o, es, ep, eo, hd, hs, hf⟩, hmx⟩ := q1
        rw [eL] at eo; cases eo
        rw [hdL] at hd; cases hd
        exact ⟨m, K.ns, by rw [← hmx, ← hf, hfL]⟩
      | cell =>
        obtain ⟨c, hc, o, e, rr⟩ := q1
        exact ⟨c, hc, o, kw _ _ (R.cel _ _ hc).1 e (ne e fun es ep q => by rw [rr] at q; cases q), rr⟩
      | free =>
        obtain ⟨c, hc, o, e, rr⟩ := q1
        exact ⟨c, hc, o, kw _ _ (R.cel _ _ hc).1 e (ne e fun es ep q => by rw [rr] at q; cases q), rr⟩
      | _ => exact q1.elim
    · cases sl with
      | val av => exact VR.change ch q2
      | own l o =>
        obtain ⟨rfl, hba, hw, vs, n, e, rr⟩ := q2
        exact ⟨rfl, hba, hw, vs, n, kw _ _ (.inl hw) e (ne e fun es ep q => by cases q), rr.change ch⟩
      | own2 l last =>
        obtain ⟨rfl, hw, hw2, ne', vs, n, us, m2, e, e2, rr, r2⟩ := q2
        exact ⟨rfl, hw, hw2, ne', vs, n, us, m2, kw _ _ (.inl hw) e (ne e fun es ep q => by cases q), kw _ _ (.inl hw2) e2 (ne e2 fun es ep q => by cases q), rr.change ch, r2.change ch⟩

/-- a call of a lambda that closes over cells of the base heap -/
theorem call_cloE {f : Addr} {o : Obj} {name qual : Str} {params : Arguments} {body : Expr} {scope : Scope} {clos : List (Str × Addr)} {pm cdv ct : Value} {vs : List Value} {binds : List (Str × Value)} {c : AV} {Q : Value → Shared → Prop} {E : Value → Shared → Prop}
    (hob : X.hb.get? f = some o) (hd : o.data = .func (kla_fn name qual params body scope clos pm cdv ct)) (hcr : X.hb.CodeRec cdv qual) (hlim : X.hb.NoLimit)
    (hk : scope.kind = .function) (hnod : (scope.names.map (·.1)).Nodup) (hndb : ∀ p ∈ scope.names, (p.1 == ("__debug__" : Str)) = false ∧ (p.1 == ("__classdict__" : Str)) = false) (hnco : scope.isCoroutine = false) (hngen : scope.isGenerator = false) (hnc : ∀ p ∈ scope.names, p.2 ≠ .cell) (hcod : codeFor scope = none)
    (G : Gr X (k + 1) U (fun _ => False) A s) (hB : BindsTo s (kla_fn name qual params body scope clos pm cdv ct) ⟨vs, []⟩ binds) (hloc : ∀ y ∈ binds, scope.names.lookup y.1 = some .local)
    (hclos : ∀ x c, clos.lookup x = some c → ∃ v, X.hb.IsCell c v) (hinj : ∀ x y c, clos.lookup x = some c → clos.lookup y = some c → x = y) (hfree : ∀ (i : Nat) x, scope.names[i]? = some (x, NameKind.free) → ∃ c, clos.lookup x = some c)
    (hown : ∀ (i : Nat) sl, Γ'[i]? = some (some sl) → ∃ av, sl = .val av)
    (hsl : ∀ (i : Nat) x kd av, scope.names[i]? = some (x, kd) → Γ'[i]? = some (some (.val av)) → ∃ v, VR X.prog X.w (UW U fun _ => False) s.heap v av ∧ ((kd = .local ∧ binds.reverse.lookup x = some v) ∨ (kd = .free ∧ ∃ c, clos.lookup x = some c ∧ X.hb.IsCell c (some v))))
    (hx : Evals X true k scope Γ' body c)
    (q : ∀ r h' tk, Aft X.T (UW U fun _ => False) s.heap h' → VR X.prog X.w (UW U fun _ => False) h' r c → Q r { s with heap := h', toks := tk }) :
    wpAny (model X.prog X.w) A (call (.ref f) vs) Q E s := by
  refine wpAny_call (kla_callFunE G.am.room (G.base _ _ hob) hd hnco hngen rfl ?_ (hB _ _ _ _ ?_))
  · obtain ⟨c', oc, us, tq, hc, hoc, r⟩ := hcr
    exact ⟨c', oc, us, tq, hc, G.base _ _ hoc, r⟩
  refine wpAny_newFunctionEnv hnc hloc (fun h₁ hns hsb => ?_) hk
  have old : ∀ b o, s.heap.get? b = some o → h₁.get? b = some o := fun b o e => hsb.extBut b o (Nat.ne_of_lt (Heap.lt_size e)) (Heap.get?_push_of_some _ e)
  have sz : h₁.objs.size = s.heap.objs.size + 1 := by rw [hsb.1, Heap.size_push]
  refine ⟨(hlim.keeps G.base).keeps old, kla_codeExpr ?_⟩
  have hobj : ∀ b o', s.heap.get? b = some o' → ¬ UW U (fun _ => False) b → h₁.get? b = some o' ∧ ¬ UW U (fun y => y = s.heap.objs.size) b := fun b o' e n => ⟨old b o' e, by
    rintro (z | z)
    · exact n (.inl z)
    · exact absurd (Heap.lt_size e) (Nat.not_lt.mpr (by rw [z]; exact Nat.le_refl _))⟩
  refine hx (W := fun y => y = s.heap.objs.size) (U := U) ?_ fun v h' tk a hv => ?_
  · refine G.enter old (by rw [sz]; exact Nat.le_succ _) G.am.deeper rfl (fun a q e => (by rw [hcod] at e; cases e)) hk hnod hndb rfl rfl (fun _ => .inl) G.Ut G.Us (fun y hy => .inr ⟨Nat.le_of_eq hy.symm, by rw [sz, hy]; exact Nat.lt_succ_self _⟩)
      (fun y hy hu => absurd (G.Ult y hu) (Nat.not_lt.mpr (by rw [hy]; exact Nat.le_refl _))) ⟨rfl, _, hns⟩ (fun x c hc => ?_) hinj (fun i x kd e hkd => ?_) ⟨fun _ => 0, fun _ => 0, ?_, ?_⟩
    · obtain ⟨v, o, e, r⟩ := hclos x c hc
      exact ⟨.inr ⟨o, e⟩, v, o, old _ _ (G.base _ _ e), r⟩
    · rcases hkd with rfl | rfl
      · exact absurd rfl (hnc _ (List.mem_of_getElem? e))
      · obtain ⟨c, hc⟩ := hfree i x e
        exact ⟨c, hc, fun z => by cases z⟩
    · intro i j p p' sl sl' _ _ e1 e2 o1
      obtain ⟨av, rfl⟩ := hown i sl e1
      cases o1
    · intro i x kd sl e1 e2
      obtain ⟨av, rfl⟩ := hown i sl e2
      obtain ⟨v, hs, hw⟩ := hsl i x kd av e1 e2
      refine ⟨v, ?_, VR.change hobj hs⟩
      rcases hw with ⟨rfl, hb⟩ | ⟨rfl, c, hc, o, e, r⟩
      · exact ⟨_, hns, hb⟩
      · exact ⟨c, hc, o, old _ _ (G.base _ _ e), r⟩
  · exact q v h' tk ⟨fun b o e nt => a.keep b o (old b o e) nt, Nat.le_trans (by rw [sz]; exact Nat.le_succ _) a.size, a.tab.sub fun y hy => hy.imp id (fun z => z.elim)⟩ (hv.vr.sub fun y hy => hy.imp id (fun z => z.elim))

/-- a lambda is made -/
theorem lam_mk {q₀ qual : Str} {params : Arguments} {body : Expr} {scope : Scope} {pos : Pos} {c P : Addr} {mg : Str → Option Value} {Q : Value → Shared → Prop} {E : Value → Shared → Prop}
    (R : Rel X k sc U W Γ A env s) (hcf : codeFor sc = some (c, q₀)) (hq : qual = q₀ ++ (".<locals>." : Str) ++ ("<lambda>" : Str)) (hT : (P, pos, qual) ∈ X.T) (hTu : ∀ y ∈ X.T, y.1 = P → y = (P, pos, qual)) (hC : CodeHd X.hb c P) (hg : X.hb.Ns mainGlobals mg) (hbm : X.hb.BuiltinsAt mg P)
    (hd0 : ∀ env, defaultsOf params env = ([], [])) (hnf : ∀ p ∈ scope.names, p.2 = .free → ∃ (j : Nat) (kd : NameKind), sc.names[j]? = some (p.1, kd) ∧ (kd = .cell ∨ kd = .free))
    (q : ∀ f c' ctv pm h' tk, Aft X.T (UW U W) s.heap h' → s.heap.objs.size ≤ f → ¬ UW U W f → ¬ UW U W c' → c' ∉ tabs →
      h'.get? f = some (kla_obj ("<lambda>" : Str) qual params body scope (closL env scope.names []) pm c' ctv) → h'.CodeRec (.ref c') qual → h'.objs.size = f + 1 → Q (.ref f) { s with heap := h', toks := tk }) :
    wpAny (model X.prog X.w) A (eval (.Lambda params body scope pos) env) Q E s := by
  have hcl : closureFor scope env = pure (closL env scope.names []) := closureFor_at fun p hp hf => by
    obtain ⟨j, kd, e, hkd⟩ := hnf p hp hf
    obtain ⟨c, hc, _⟩ := R.chas _ _ _ e hkd
    exact ⟨c, hc⟩
  obtain ⟨hcode, hqual⟩ := R.cod c q₀ hcf
  have hPt : P ∈ tabs := X.hT _ hT
  have hgs := hg.keeps R.base
  have hCs := hC.keeps R.base
  have hgP : mainGlobals ≠ P := fun z => by
    obtain ⟨o, es, ep, e, _⟩ := hg
    exact (R.bW _ _ e).2 (z ▸ hPt)
  obtain ⟨bm, ob, b1, b2, b3, b4, b5, b6⟩ := hbm
  have hbs : s.heap.BuiltinsAt mg P := ⟨bm, ob, b1, b2, b3, b4, R.base _ _ b5, b6⟩
  refine kla_eval (hd0 env) ?_
  have hqn : env.qual ++ ("<lambda>" : Str) = qual := by rw [hqual, hq]
  rw [hqn]
  have fin : ∀ c' ctv h' tk, Aft X.T (UW U W) s.heap h' → ¬ UW U W c' → c' ∉ tabs → h'.CodeRec (.ref c') qual →
      Q (.ref h'.objs.size) { s with heap := h'.push (kla_obj ("<lambda>" : Str) qual params body scope (closL env scope.names []) ((mg "__name__").getD .none) c' ctv), toks := tk } := by
    intro c' ctv h' tk a hc1 hc2 hrec
    refine q _ c' ctv _ _ tk (a.trans (.push a.tab _)) a.size (R.fresh a.size) hc1 hc2 (Heap.get?_push_size _ rfl) ?_ (Heap.size_push ..)
    obtain ⟨c2, oc, us, tq, hc, hoc, r⟩ := hrec
    exact ⟨c2, oc, us, tq, hc, Heap.get?_push_of_some _ hoc, r⟩
  rcases R.tab.at_ _ hT with e | ⟨c', h1, h2, h3, e⟩
  · refine kla_makeFunction (ps := #[]) hcl R.glob hgs hcode hCs e trivial rfl hgP hbs fun c' ctv h' tk hx hge hlt hrec htb => ?_
    refine fin c' ctv h' tk ⟨fun b o eb nt => hx b o (fun z => nt (z ▸ hPt)) eb, Nat.le_of_lt (Nat.lt_of_le_of_lt hge hlt), ⟨fun y hy => ?_⟩⟩ (R.fresh hge) (fun z => R.fresh hge (.inl (R.Ut _ z))) hrec
    by_cases hyP : y.1 = P
    · have := hTu y hy hyP
      subst this
      exact .inr ⟨c', R.fresh hge, fun z => R.fresh hge (.inl (R.Ut _ z)), hrec, by simpa using htb⟩
    · rcases R.tab.at_ y hy with e' | ⟨c2, h1, h2, ⟨c3, oc, us, tq, hc, hoc, r⟩, e'⟩
      · exact .inl (hx _ _ hyP e')
      · refine .inr ⟨c2, h1, h2, ⟨c3, oc, us, tq, hc, hx _ _ ?_ hoc, r⟩, hx _ _ hyP e'⟩
        cases hc
        exact fun z => h2 (z ▸ hPt)
  · refine kla_makeFunctionHit (ps := #[rawInt pos.line, rawInt pos.col, .ref c']) hcl R.glob hgs hcode hCs e trivial (cv := .ref c') ?_ hbs fun ctv h' tk hk sz => ?_
    · exact codeAmong_snoc [] trivial rfl
    · refine fin c' ctv h' tk (.ext R.tab hk sz) h1 h2 ?_
      obtain ⟨c3, oc, us, tq, hc, hoc, r⟩ := h3
      exact ⟨c3, oc, us, tq, hc, hk _ _ hoc, r⟩
end
end Mine
namespace Mine

noncomputable abbrev lam76 : Arguments × Expr × Scope × Pos := lamOf (fbody 76)[7]?
noncomputable abbrev q76 : Str := ("_law_followed" : Str) ++ (".<locals>." : Str) ++ ("<lambda>" : Str)
noncomputable abbrev nsL : List (Str × NameKind) := [(("one" : Str), .local), (("late" : Str), .free)]
theorem lam_names : lam76.2.2.1.names = nsL := by rfl

section
variable {X : Cx} {k : Nat} {U W : Addr → Prop} {Γ : List (Option Slot)} {A : Around} {env : Env} {s : Shared}

theorem lam_body {late : Bool} {x y z : Int} (sc : Scope) (hsc : sc.names = nsL) : Evals X true k sc [some (.val (.tup [x, y, z])), some (.val (.val (.bool late)))] lam76.2.1 (.tup [x, if late then -z else z]) := by
  obtain ⟨kind_, names_, gen, co, more⟩ := sc
  simp only at hsc; subst hsc
  refine E_tup (l := [x, if late then -z else z]) (L_cons (E_sub (E_name .here) E_int (I_tup (i := 0) rfl (by decide))) (L_cons ?_ L_nil)) (by simp only [List.length_cons, List.length_nil]; decide)
  cases late with
  | true => exact E_ifT (T_bool (E_name (.nth 1 rfl))) (E_neg (E_sub (E_name .here) E_int (I_tup (i := 2) rfl (by decide))))
  | false => exact E_ifF (T_bool (E_name (.nth 1 rfl))) (E_sub (E_name .here) E_int (I_tup (i := 2) rfl (by decide)))
theorem lam_call (F : Facts X) (R : Rel X (k + 1) (fscope 76) U W Γ A env s) {late : Bool} (hl : Look (fscope 76).names Γ 3 ("late" : Str) .cell (.val (.val (.bool late)))) {f c' : Addr} {pm ctv v : Value} {x y z : Int} {Q : Value → Shared → Prop} {E : Value → Shared → Prop}
    (ho : s.heap.get? f = some (kla_obj ("<lambda>" : Str) q76 lam76.1 lam76.2.1 lam76.2.2.1 (closL env lam76.2.2.1.names []) pm c' ctv)) (hf : ¬ UW U W f) (hc' : ¬ UW U W c') (hcr : s.heap.CodeRec (.ref c') q76)
    (hv : VR X.prog X.w (UW U W) s.heap v (.tup [x, y, z]))
    (q : ∀ t h' tk us n, Aft X.T (UW U W) s.heap h' → t ∉ tabs → h'.get? t = some (TObj us n) → IntsAre us [x, if late then -z else z] → Q (.ref t) { s with heap := h', toks := tk }) :
    wpAny (model X.prog X.w) A (call (.ref f) [v]) Q E s := by
  obtain ⟨ad, bd, _, hvars⟩ := R.vars
  obtain ⟨vl, ⟨cl, hcl, ol, el, hdl⟩, h2⟩ := hvars 3 ("late" : Str) .cell _ hl.at.1 hl.at.2
  cases h2
  obtain ⟨cl', hcl', hwl⟩ := R.chas 3 ("late" : Str) .cell hl.at.1 (.inl rfl)
  rw [hcl] at hcl'; cases hcl'
  have hW := hwl rfl
  let U' : Addr → Prop := fun a => UW U W a ∧ a ≠ cl
  have hnU : ∀ {b : Addr}, ¬ UW U W b → ¬ U' b := fun h z => h z.1
  let X' : Cx := { X with hb := hidP s.heap U' }
  have get : ∀ {b : Addr} {o : Obj}, s.heap.get? b = some o → ¬ U' b → X'.hb.get? b = some o := fun e n => hidP_get e n
  have G : Gr X' (k + 1) U' (fun _ => False) A s := by
    refine ⟨R.am, fun b o e => (of_hidP e).1, fun b o e => ⟨id, fun z => (of_hidP e).2 ⟨.inl (R.Ut _ z), fun h => R.Wt hW (h ▸ z)⟩⟩, fun b o e => (of_hidP e).2, R.tab.sub fun y hy => ?_, fun a h => h.1.elim (R.Ult a) (R.Wlt a), fun a h => h.elim, fun a h => h.elim, fun a h => ⟨.inl (R.Ut a h), fun z => R.Wt hW (z ▸ h)⟩, ⟨.inl R.Us, fun z => R.dis _ hW (z ▸ R.Us)⟩⟩
    exact hy.elim (·.1) (fun z => z.elim)
  have hcell : X'.hb.IsCell cl (some (.bool late)) := ⟨ol, get el fun z => z.2 rfl, hdl⟩
  have hclos : closL env lam76.2.2.1.names [] = [(("late" : Str), cl)] := by
    rw [lam_names]
    show [(("late" : Str), (env.cells.lookup ("late" : Str)).getD 0)] = _
    rw [hcl]; rfl
  rw [hclos] at ho
  have hlk : ∀ (a : Str) (c : Addr), ([(("late" : Str), cl)] : List (Str × Addr)).lookup a = some c → a = ("late" : Str) ∧ c = cl := by
    intro a c h
    rw [List.lookup_cons] at h
    cases hb : a == ("late" : Str) with
    | true => rw [hb] at h; simp at h; exact ⟨eq_of_beq hb, h.symm⟩
    | false => rw [hb] at h; cases h
  refine call_cloE (X := X') (k := k) (Γ' := [some (.val (.tup [x, y, z])), some (.val (.val (.bool late)))]) (binds := [(("one" : Str), v)]) (c := .tup [x, if late then -z else z]) (get ho (hnU hf)) rfl ?_ ?_ (by decide +kernel) (by decide +kernel) (by decide +kernel) (by decide +kernel) (by decide +kernel) (by decide +kernel) (by decide +kernel) G (BindsTo.of_eq rfl) (by intro y hy; rw [List.mem_singleton.mp hy, lam_names]; rfl) ?_ ?_ ?_ ?_ ?_ (lam_body _ lam_names) fun r h' tk a hr => ?_
  · obtain ⟨c2, oc, us, tq, hc, hoc, r⟩ := hcr
    cases hc
    exact ⟨c', oc, us, tq, rfl, get hoc (hnU hc'), r⟩
  · exact F.nolim.keeps fun b o e => get (R.base b o e) fun z => z.1.elim (R.bU b o e) (R.bW b o e).1
  · intro a c h
    obtain ⟨rfl, rfl⟩ := hlk a c h
    exact ⟨_, hcell⟩
  · intro a a' c h h'
    rw [(hlk a c h).1, (hlk a' c h').1]
  · intro i a hi
    rw [lam_names] at hi
    match i, hi with
    | 1, hi => cases hi; exact ⟨cl, rfl⟩
  · intro i sl hi
    match i, hi with
    | 0, hi => cases hi; exact ⟨_, rfl⟩
    | 1, hi => cases hi; exact ⟨_, rfl⟩
  · intro i a kd av hi hs
    rw [lam_names] at hi
    match i, hi with
    | 0, hi => cases hi; cases hs; exact ⟨v, hv.sub fun y hy => hy.elim (·.1) (fun z => z.elim), .inl ⟨rfl, rfl⟩⟩
    | 1, hi => cases hi; cases hs; exact ⟨_, .val _, .inr ⟨rfl, cl, rfl, hcell⟩⟩
  · cases hr with
    | tup hn e hi =>
    have hclt : cl ∉ tabs := R.Wt hW
    refine q _ h' tk _ _ ⟨a.keep, a.size, ⟨fun y hy => ?_⟩⟩ (fun z => hn (.inl ⟨.inl (R.Ut _ z), fun w => hclt (w ▸ z)⟩)) e hi
    rcases a.tab.at_ y hy with e' | ⟨c2, h1, h2, ⟨c3, oc, us, tq, hc, hoc, rr⟩, e'⟩
    · exact .inl e'
    · refine .inr ⟨c2, fun z => h1 (.inl ⟨z, fun w => ?_⟩), h2, ⟨c3, oc, us, tq, hc, hoc, rr⟩, e'⟩
      cases hc
      subst w
      have := a.keep _ _ el hclt
      rw [this] at hoc; cases hoc
      rw [hdl] at rr; cases rr.1
end
end Mine
namespace Mine

/-- all that a heap holds, but for some places -/
noncomputable def objsBut (h : Heap) (B : List Addr) : List (Addr × Obj) := (List.range h.objs.size).filterMap fun b => if b ∈ B then none else (h.get? b).map fun o => (b, o)
theorem mem_objsBut {h : Heap} {B : List Addr} {b : Addr} {o : Obj} : (b, o) ∈ objsBut h B ↔ h.get? b = some o ∧ b ∉ B := by
  unfold objsBut
  rw [List.mem_filterMap]
  constructor
  · rintro ⟨b', _, hb⟩
    split at hb
    · cases hb
    · rename_i n
      obtain ⟨o', e, he⟩ := Option.map_eq_some_iff.mp hb
      cases he
      exact ⟨e, n⟩
  · rintro ⟨e, n⟩
    exact ⟨b, List.mem_range.mpr (Heap.lt_size e), by rw [if_neg n, e]; rfl⟩
noncomputable abbrev noHeap : Heap := { objs := #[] }
theorem noHeap_get {b : Addr} : noHeap.get? b = none := by
  show (match (#[] : Array Obj)[b]? with | some ⟨_, _, .freed, _⟩ => none | o => o) = none
  simp

/-- sorting asks for neighbours alone where all rises -/
theorem asc_run {cmp : Nat → Nat → (Bool → Shared → Prop) → Shared → Prop} {N : Nat} {s : Shared} (h : ∀ i, 1 ≤ i → i < N → ∀ C : Bool → Shared → Prop, C false s → cmp i (i - 1) C s) : ∀ (f n : Nat), 1 ≤ n → n + f = N → ∀ {Q : Nat → Shared → Prop}, Q N s →
    (kas_asc (List.toArray (List.range N)) f n).kasWp cmp Q s
  | 0, n, _, hN, Q, q => by
    have : n = N := by omega
    subst this
    exact q
  | f + 1, n, h1, hN, Q, q => by
    have g1 : (List.toArray (List.range N)).getD n 0 = n := by simp [Array.getD, show n < N by omega]
    have g2 : (List.toArray (List.range N)).getD (n - 1) 0 = n - 1 := by simp [Array.getD, show n - 1 < N by omega]
    show cmp ((List.toArray (List.range N)).getD n 0) ((List.toArray (List.range N)).getD (n - 1) 0) (fun b s' => ((fun c => if c = true then KasT.ret n else kas_asc (List.toArray (List.range N)) f (n + 1)) b).kasWp cmp Q s') s
    rw [g1, g2]
    refine h n h1 (by omega) _ ?_
    simp only [Bool.false_eq_true, if_false]
    exact asc_run h f (n + 1) (by omega) (by omega) q
theorem sort_asc {cmp : Nat → Nat → (Bool → Shared → Prop) → Shared → Prop} {N : Nat} {s : Shared} (h2 : 2 ≤ N) (h : ∀ i, 1 ≤ i → i < N → ∀ C : Bool → Shared → Prop, C false s → cmp i (i - 1) C s) {Q : Array Nat → Shared → Prop} (q : Q (List.toArray (List.range N)) s) :
    (kas_sort N).kasWp cmp Q s := by
  unfold kas_sort kas_count
  rw [KasT.kasWp_bind, KasT.kasWp_bind]
  refine asc_run h (N - 1) 1 (Nat.le_refl _) (by omega) ?_
  rw [if_pos (by simp)]
  show (if N < N then _ else _ : KasT (Array Nat)).kasWp cmp Q s
  rw [if_neg (Nat.lt_irrefl _)]
  exact q

/-- one key against another -/
theorem key_lt {prog : Program} {w : World} {A : Around} {s : Shared} {x y : Addr} {us vs : List Value} {n k : Nat} {a0 a1 b0 b1 : Int} {Q : Bool → Shared → Prop} {E : Value → Shared → Prop} (hx : s.heap.get? x = some (TObj us n)) (hy : s.heap.get? y = some (TObj vs k)) (ix : IntsAre us [a0, a1]) (iy : IntsAre vs [b0, b1])
    (hle : b0 < a0 ∨ (b0 = a0 ∧ b1 ≤ a1)) (q : Q false s) : wpAny (model prog w) A (keyLt' (tuples' true) (.ref x) (.ref y)) Q E s := by
  cases ix with
  | cons _ ta ix =>
  cases ix with
  | cons _ tb ix =>
  cases ix
  cases iy with
  | cons _ tc iy =>
  cases iy with
  | cons _ td iy =>
  cases iy
  refine kat_lt hx rfl hy rfl ?_
  refine kat_cons (wpAny_eqBool_int ?_)
  rcases hle with hle | ⟨rfl, hle⟩
  · have : (a0 == b0) = false := by rw [beq_eq_false_iff_ne]; omega
    rw [this]
    refine kat_no (oneLt_int ?_)
    have : decide (a0 < b0) = false := by rw [decide_eq_false_iff_not]; omega
    rw [this]; exact q
  · rw [beq_self_eq_true]
    refine kat_yes (kat_cons (wpAny_eqBool_int ?_))
    by_cases h1 : a1 = b1
    · subst h1
      rw [beq_self_eq_true]
      exact kat_yes (kat_nil q)
    · have : (a1 == b1) = false := by rw [beq_eq_false_iff_ne]; omega
      rw [this]
      refine kat_no (kat_one _ _ (P.lt_int ?_))
      have : decide (a1 < b1) = false := by rw [decide_eq_false_iff_not]; omega
      rw [this]; exact q

/-- the keys as they lie -/
inductive KeysAre (h : Heap) (late : Bool) : List Value → List (List Int) → Prop
  | nil : KeysAre h late [] []
  | cons {t : Addr} {us : List Value} {n : Nat} {o : List Int} {vs : List Value} {rs : List (List Int)} : t ∉ tabs → h.get? t = some (TObj us n) → IntsAre us [(keyF late o).1, (keyF late o).2] → KeysAre h late vs rs → KeysAre h late (.ref t :: vs) (o :: rs)
theorem KeysAre.change {h h' : Heap} {late : Bool} (hk : ∀ b us n, b ∉ tabs → h.get? b = some (TObj us n) → h'.get? b = some (TObj us n)) : ∀ {vs : List Value} {rs : List (List Int)}, KeysAre h late vs rs → KeysAre h' late vs rs := by
  intro vs rs r
  induction r with
  | nil => exact .nil
  | cons h1 h2 h3 _ ih => exact .cons h1 (hk _ _ _ h1 h2) h3 ih
theorem KeysAre.snoc {h : Heap} {late : Bool} {t : Addr} {us : List Value} {n : Nat} {o : List Int} (h1 : t ∉ tabs) (h2 : h.get? t = some (TObj us n)) (h3 : IntsAre us [(keyF late o).1, (keyF late o).2]) : ∀ {vs : List Value} {rs : List (List Int)}, KeysAre h late vs rs → KeysAre h late (vs ++ [.ref t]) (rs ++ [o]) := by
  intro vs rs r
  induction r with
  | nil => exact .cons h1 h2 h3 .nil
  | cons g1 g2 g3 _ ih => exact .cons g1 g2 g3 ih
theorem KeysAre.length {h : Heap} {late : Bool} : ∀ {vs : List Value} {rs : List (List Int)}, KeysAre h late vs rs → vs.length = rs.length := by
  intro vs rs r
  induction r with
  | nil => rfl
  | cons _ _ _ _ ih => exact congrArg (· + 1) ih
theorem KeysAre.at {h : Heap} {late : Bool} : ∀ {vs : List Value} {rs : List (List Int)}, KeysAre h late vs rs → ∀ {i : Nat} {o : List Int}, rs[i]? = some o → ∃ t us n, vs.getD i Value.none = .ref t ∧ h.get? t = some (TObj us n) ∧ IntsAre us [(keyF late o).1, (keyF late o).2]
 := by
  intro vs rs r
  induction r with
  | nil => intro i o e; cases e
  | cons h1 h2 h3 _ ih =>
    intro i o e
    cases i with
    | zero => cases e; exact ⟨_, _, _, rfl, h2, h3⟩
    | succ i => exact ih (i := i) e
theorem KeysAre.firsts {h : Heap} {late : Bool} : ∀ {vs : List Value} {rs : List (List Int)}, KeysAre h late vs rs → ∃ fs, KatTups h vs fs ∧ fs.length = vs.length ∧ ∀ v ∈ fs, ∃ i t, v = .int i t := by
  intro vs rs r
  induction r with
  | nil => exact ⟨[], .nil, rfl, fun _ h => nomatch h⟩
  | cons h1 h2 h3 _ ih =>
    obtain ⟨fs, g1, g2, g3⟩ := ih
    cases h3 with
    | cons _ t h3 =>
    exact ⟨_ :: fs, .cons h2 rfl rfl rfl g1, by rw [List.length_cons, List.length_cons, g2], fun v hv => by
      rcases List.mem_cons.mp hv with rfl | hv
      · exact ⟨_, _, rfl⟩
      · exact g3 v hv⟩
theorem asc_at {late : Bool} : ∀ {rows : List (List Int)}, ascF late rows = true → ∀ {i : Nat} {a b : List Int}, rows[i]? = some a → rows[i + 1]? = some b → (keyF late a).1 < (keyF late b).1 ∨ ((keyF late a).1 = (keyF late b).1 ∧ (keyF late a).2 ≤ (keyF late b).2)
  | [], _, i, a, b, e, _ => by simp at e
  | [x], _, i, a, b, _, e => by simp at e
  | x :: y :: t, h, 0, a, b, e1, e2 => by
    simp at e1 e2
    subst e1 e2
    have h' : ((decide ((keyF late x).1 < (keyF late y).1) || ((keyF late x).1 == (keyF late y).1 && decide ((keyF late x).2 ≤ (keyF late y).2))) && ascF late (y :: t)) = true := h
    simp only [Bool.and_eq_true, Bool.or_eq_true, decide_eq_true_eq, beq_iff_eq] at h'
    exact h'.1
  | x :: y :: t, h, i + 1, a, b, e1, e2 => by
    have h' : ((decide ((keyF late x).1 < (keyF late y).1) || ((keyF late x).1 == (keyF late y).1 && decide ((keyF late x).2 ≤ (keyF late y).2))) && ascF late (y :: t)) = true := h
    rw [Bool.and_eq_true] at h'
    exact asc_at (rows := y :: t) h'.2 (i := i) (by simpa using e1) (by simpa using e2)
end Mine
namespace Mine

section
variable {X : Cx} {k : Nat} {U W : Addr → Prop} {Γ : List (Option Slot)} {A : Around} {env : Env} {s : Shared}

theorem Kept.trans {T : List (Addr × Pos × Str)} {V : Addr → Prop} {L : Addr} {m : Str → Option Value} {h₁ h₂ h₃ : Heap} (a : Kept T V L m h₁ h₂) (b : Kept T V L m h₂ h₃) : Kept T V L m h₁ h₃ :=
  ⟨fun x o e n t => b.keep x o (a.keep x o e n t) n t, Nat.le_trans a.size b.size, b.tab, b.ns⟩

theorem list_ne_tup {xs : Array Value} {n : Nat} {us : List Value} {m : Nat} (h : some (seqObj "list" xs n) = some (TObj us m)) : False := by
  injection h with h
  injection h with h1
  injection h1 with h1
  exact absurd h1 (by decide)

theorem keys_run (F : Facts X) (hT : ∀ y ∈ X.T, y.1 ∈ tabs) (R : Rel X (k + 3) (fscope 76) U W Γ A env s) {late : Bool} (hl : Look (fscope 76).names Γ 3 ("late" : Str) .cell (.val (.val (.bool late)))) {f c' : Addr} {pm ctv : Value} {m : Str → Option Value}
    (ho : s.heap.get? f = some (kla_obj ("<lambda>" : Str) q76 lam76.1 lam76.2.1 lam76.2.2.1 (closL env lam76.2.2.1.names []) pm c' ctv)) (hf : ¬ UW U W f) (hc' : ¬ UW U W c') (hct : c' ∉ tabs) (hcr : s.heap.CodeRec (.ref c') q76) (hm : s.heap.Ns env.locals m)
    {kS D : Addr} {e1 : Nat} (hkS : s.heap.objs.size ≤ kS) (hD : s.heap.objs.size ≤ D) (hne : D ≠ kS) {Fin : List Value → Nat → Shared → Prop} : ∀ (rs : List (List Int)) (vs ks : List Value) (done : List (List Int)) (e : Nat) (h' : Heap) (tk : Tok), (∀ o ∈ rs, o.length = 3) → VRs X.prog X.w (UW U W) s.heap vs (tups rs) →
    Kept X.T (UW U W) env.locals m s.heap h' → h'.get? kS = some (seqObj "list" ks.toArray e) → h'.get? D = some (seqObj "list" #[] e1) → KeysAre h' late ks done →
    (∀ h'' tk'' ks'' e'', Kept X.T (UW U W) env.locals m s.heap h'' → h''.get? kS = some (seqObj "list" ks''.toArray e'') → h''.get? D = some (seqObj "list" #[] e1) → KeysAre h'' late ks'' (done ++ rs) → Fin ks'' e'' { s with heap := h'', toks := tk'' }) →
    KatKeys X.prog X.w A.in1.in1 noHeap env.locals m kS (.ref f) Fin vs ks e { s with heap := h', toks := tk }
  | [], vs, ks, done, e, h', tk, _, hv, K, hk, hd, hks, fin => by
    cases hv
    rw [List.append_nil] at fin
    exact .nil (fin h' tk ks e K hk hd hks)
  | o :: rs, vs, ks, done, e, h', tk, h3, hv, K, hk, hd, hks, fin => by
    cases hv with
    | @cons v _ vs _ hv1 hv2 =>
    have hLt : env.locals ∉ tabs := R.Wt R.loc.1
    have nL : ∀ {b : Addr}, ¬ UW U W b → b ≠ env.locals := fun h z => h (.inr (z ▸ R.loc.1))
    have nt : ∀ {b : Addr}, ¬ UW U W b → b ∉ tabs := fun h z => h (.inl (R.Ut _ z))
    have R' : Rel X (k + 1) (fscope 76) U W Γ A.in1.in1 env { s with heap := h', toks := tk } := { (R.kept (tk := tk) hm K) with am := R.am.in1.in1 }
    obtain ⟨x, y, z, rfl⟩ : ∃ x y z, o = [x, y, z] := by
      have := h3 o (.head _)
      match o, this with
      | [x, y, z], _ => exact ⟨x, y, z, rfl⟩
    have hv1' : VR X.prog X.w (UW U W) h' v (.tup [x, y, z]) := hv1.change fun b ob eb nb => ⟨K.keep b ob eb (nL nb) (nt nb), nb⟩
    have hcr' : h'.CodeRec (.ref c') q76 := by
      obtain ⟨c2, oc, us, tq, hc, hoc, r⟩ := hcr
      cases hc
      exact ⟨_, oc, us, tq, rfl, K.keep _ _ hoc (nL hc') hct, r⟩
    refine .cons (lam_call F R' hl (K.keep _ _ ho (nL hf) (nt hf)) hf hc' hcr' hv1' fun t h'' tk'' us n a ht et hi => ?_)
    have kSt : kS ∉ tabs := fun q => absurd (R.Ult _ (R.Ut _ q)) (Nat.not_lt.mpr hkS)
    have Dt : D ∉ tabs := fun q => absurd (R.Ult _ (R.Ut _ q)) (Nat.not_lt.mpr hD)
    have hk'' : h''.get? kS = some (seqObj "list" ks.toArray e) := a.keep _ _ hk kSt
    have hd'' : h''.get? D = some (seqObj "list" #[] e1) := a.keep _ _ hd Dt
    obtain ⟨oL, es, ep, eL, rL⟩ := K.ns
    have hns : h''.Ns env.locals m := ⟨oL, es, ep, a.keep _ _ eL hLt, rL⟩
    have K'' : Kept X.T (UW U W) env.locals m s.heap h'' := ⟨fun b ob eb n1 n2 => a.keep _ _ (K.keep b ob eb n1 n2) n2, Nat.le_trans K.size a.size, a.tab, hns⟩
    have kSL : kS ≠ env.locals := fun q => absurd (R.Wlt _ R.loc.1) (Nat.not_lt.mpr (q ▸ hkS))
    refine KatBack.intro (news := (kS, seqObj "list" ks.toArray e) :: objsBut h'' [env.locals, kS]) (g := fun o' => (kS, o') :: objsBut h'' [env.locals, kS]) ⟨hns, fun b ob eb => (by rw [noHeap_get] at eb; cases eb), Nat.zero_le _⟩ (fun p hp => ?_) (.head fun p hp => ?_) fun h3' c F3 N3 => ?_
    · rcases List.mem_cons.mp hp with rfl | hp
      · exact ⟨hk'', kSL, noHeap_get⟩
      · obtain ⟨g1, g2⟩ := mem_objsBut.mp hp
        exact ⟨g1, fun q => g2 (by rw [q]; exact .head _), noHeap_get⟩
    · obtain ⟨g1, g2⟩ := mem_objsBut.mp hp
      exact fun q => g2 (by rw [q]; exact .tail _ (.head _))
    · have N3' : News noHeap env.locals h3' (objsBut h'' [env.locals, kS]) := fun p hp => N3 p (.tail _ hp)
      have get : ∀ b o, h''.get? b = some o → b ≠ env.locals → b ≠ kS → h3'.get? b = some o := fun b o e n1 n2 => (N3' (b, o) (mem_objsBut.mpr ⟨e, by simp [n1, n2]⟩)).1
      have hk3 : h3'.get? kS = some (seqObj "list" (ks ++ [Value.ref t]).toArray c) := (N3 _ (.head _)).1
      have hd3 : h3'.get? D = some (seqObj "list" #[] e1) := get _ _ hd'' (fun q => absurd (R.Wlt _ R.loc.1) (Nat.not_lt.mpr (q ▸ hD))) hne
      have hsz : s.heap.objs.size ≤ h3'.objs.size := Nat.le_of_lt (Nat.lt_of_le_of_lt hD (Heap.lt_size hd3))
      have K3 : Kept X.T (UW U W) env.locals m s.heap h3' := by
        refine ⟨fun b o e n1 n2 => get b o (K''.keep b o e n1 n2) n1 fun z => absurd (Heap.lt_size e) (Nat.not_lt.mpr (z ▸ hkS)), hsz, ⟨fun y hy => ?_⟩, F3.ns⟩
        have ht := hT y hy
        have nL' : y.1 ≠ env.locals := fun z => hLt (z ▸ ht)
        have nd : y.1 ≠ kS := fun z => kSt (z ▸ ht)
        rcases K''.tab.at_ y hy with e | ⟨c', h1, h2, ⟨c2, oc, us, tq, hc, hoc, hdc, rr⟩, e⟩
        · exact .inl (get _ _ e nL' nd)
        · refine .inr ⟨c', h1, h2, ⟨c2, oc, us, tq, hc, get _ _ hoc (fun z => ?_) (fun z => ?_), hdc, rr⟩, get _ _ e nL' nd⟩
          · cases hc; exact h1 (.inr (z ▸ R.loc.1))
          · rw [z, hk''] at hoc; cases hoc; cases hdc
      have cK : ∀ b us n, b ∉ tabs → h''.get? b = some (TObj us n) → h3'.get? b = some (TObj us n) := fun b us n _ eb => get b _ eb (fun q => by
        have := a.keep _ _ eL hLt
        rw [← q, eb] at this; cases this; cases rL.1) (fun q => by rw [q, hk''] at eb; exact list_ne_tup eb)
      refine keys_run F hT R hl ho hf hc' hct hcr hm hkS hD hne rs vs (ks ++ [Value.ref t]) (done ++ [[x, y, z]]) c h3' tk'' (fun o ho => h3 o (.tail _ ho)) hv2 K3 hk3 hd3 (KeysAre.snoc (o := [x, y, z]) ht (cK _ _ _ ht et) (show IntsAre us [(keyF late [x, y, z]).1, (keyF late [x, y, z]).2] from hi) ((hks.change fun b us n nb eb => a.keep _ _ eb nb).change cK)) ?_
      intro h4 tk4 ks4 e4 K4 hk4 hd4 hks4
      rw [List.append_assoc] at hks4
      exact fin h4 tk4 ks4 e4 K4 hk4 hd4 hks4

theorem getD_self {vs : List Value} : (List.range vs.length).map (fun i => vs.getD i Value.none) = vs := by
  apply List.ext_getElem
  · simp
  · intro i h1 h2
    simp [List.getElem?_eq_getElem h2]

/-- the end of the row: it lies as sorting by the key would lay it -/
theorem S_neSorted (F : Facts X) (hk : 10 ≤ k) {late : Bool} {rows : List (List Int)} (hs : ascF late rows = true) (h3 : ∀ o ∈ rows, o.length = 3) (h2 : 2 ≤ rows.length) (h64 : rows.length < 64) {np p1 p2 p3 p4 p5 pos : Pos} {body : List Stmt}
    (L : Look (fscope 76).names Γ 4 ("row" : Str) .cell (.own (tups rows) none)) (hl : Look (fscope 76).names Γ 3 ("late" : Str) .cell (.val (.val (.bool late)))) (hN : ∃ i, Nm (fscope 76).names i ("sorted" : Str) .globalImplicit) :
    Exec X k (fscope 76) Γ (.If (.Compare (.Name ("row" : Str) np) [.NotEq] [.Call (.Name ("sorted" : Str) p1) [.Name ("row" : Str) p2] [⟨some ("key" : Str), .Lambda lam76.1 lam76.2.1 lam76.2.2.1 lam76.2.2.2, p3⟩] p4] p5) body [] pos) (.next Γ) := by
  intro U W A env s Q E R p
  obtain ⟨k', rfl⟩ : ∃ k', k = k' + 3 := ⟨k - 3, by omega⟩
  obtain ⟨iN, hN⟩ := hN
  obtain ⟨ad, bd, V⟩ := R.vars
  obtain ⟨va, hva, rfl, hba, hw, vs, n, e, hr⟩ := V.2 4 ("row" : Str) .cell _ L.at.1 L.at.2
  have R₀ := R
  generalize ad 4 = a at *
  refine wpAny_If (wpAny_isTrue_Compare1 (wpAny_Name (R.load L.at.1 hva ?_) (R.dbg L.at.1).1) (by with_unfolding_all rfl))
  show wpAny _ A (do callWith p4 (← eval (.Name ("sorted" : Str) p1) env) [] (backTo p4 (starEach [.Name ("row" : Str) p2] env)) (backToKw p4 (keywordEach [⟨some ("key" : Str), .Lambda lam76.1 lam76.2.1 lam76.2.2.1 lam76.2.2.2, p3⟩] env))) _ _ _
  refine wpAny_bind (E_glob (av := .val (.builtin "sorted")) hN F.g_sorted (fun _ _ => .val _) (b := false) R fun v h₁ t₁ a₁ q₁ => ?_)
  cases q₁.val
  have R₁ := R.after (tk := t₁) a₁
  refine callWith_of (P := fun h => ∀ b o, X.hb.get? b = some o → h.get? b = some o) rfl (fun h hb => keepF keepB h hb) ?_
  refine evalArgs_kw2 rfl ?_ rfl
  show wpAny _ _ (spliced ((false, eval (.Name ("row" : Str) p2) env) :: backTo p4 (starEach [] env))) _ _ _
  refine spliced_cons (wpAny_Name (R₁.load L.at.1 (hva.keeps R fun b o hb e => a₁.keep b o e (R.Kt hb)) ?_) (R.dbg L.at.1).1)
  refine spliced_nil ?_
  obtain ⟨mg, hg, hbm⟩ := F.mgA
  refine kwAll_cons (lam_mk (qual := q76) (c := 168) (P := 166) (q₀ := ("_law_followed" : Str)) R₁ rfl rfl (by rw [F.tT]; exact .tail _ (.tail _ (.head _))) ?_ (F.cds (168, 166) (.tail _ (.tail _ (.head _)))) hg (hbm 166 (by decide)) (fun _ => rfl) ?_ ?_)
  · rw [F.tT]
    intro y hy hP
    simp only [tabT, List.mem_cons, List.not_mem_nil, or_false] at hy
    rcases hy with rfl | rfl | rfl
    · exact absurd hP (by decide)
    · exact absurd hP (by decide)
    · rfl
  · intro q hq hf
    rw [lam_names] at hq
    simp only [List.mem_cons, List.not_mem_nil, or_false] at hq
    rcases hq with rfl | rfl
    · exact absurd hf (by decide)
    · exact ⟨3, .cell, hl.at.1, .inl rfl⟩
  intro f c' ctv pm h₂ t₂ a₂ hge hf hc1 hc2 hfo hcr hfs
  refine kwAll_nil ?_
  have R₂ := R₁.after (tk := t₂) a₂
  refine ⟨R₂.base, ?_⟩
  show wpAny _ A (call (.builtin "sorted") [.ref a] [(("key" : Str), .ref f)]) _ _ _
  have a12 := a₁.trans a₂
  have e₂ : h₂.get? a = some (LObj vs n) := a12.keep _ _ e (R.Wt hw)
  have hr₂ : VRs X.prog X.w (UW U W) h₂ vs (tups rows) := hr.change fun b o eb nb => ⟨a12.keep b o eb fun q => nb (.inl (R.Ut _ q)), nb⟩
  have hlen : vs.length = rows.length := hr.length.trans (List.length_map ..)
  obtain ⟨m, hm⟩ := R₂.loc.2
  have hT : ∀ y ∈ X.T, y.1 ∈ tabs := X.hT
  have fL : f ≠ env.locals := fun z => hf (.inr (z ▸ R.loc.1))
  refine kat_sortedK (h₀ := noHeap) (L := env.locals) (m := m) (news := objsBut h₂ [env.locals]) (b := false) (f := .ref f) ⟨hm, fun b ob eb => (by rw [noHeap_get] at eb; cases eb), Nat.zero_le _⟩ (fun p hp => ?_) (LObj.isList e₂) (by omega) (by omega) (ksk_s1 _ _) (fun x => ksk_l1 _ _) (fun x => ksk_t1 f x) fun D kS e1 h' F' N' hDk hq => ?_
  · obtain ⟨g1, g2⟩ := mem_objsBut.mp hp
    exact ⟨g1, by simpa using g2, noHeap_get⟩
  have hDs : h₂.objs.size ≤ D := by
    have := hq (f, _) (mem_objsBut.mpr ⟨hfo, by simpa using fL⟩)
    rw [hfs]; exact this
  have get : ∀ b o, h₂.get? b = some o → b ≠ env.locals → h'.get? b = some o := fun b o e n1 => (N' (b, o) (.tail _ (.tail _ (mem_objsBut.mpr ⟨e, by simpa using n1⟩)))).1
  have hk0 : h'.get? kS = some (seqObj "list" #[] 0) := (N' _ (.head _)).1
  have hd0 : h'.get? D = some (seqObj "list" #[] e1) := (N' _ (.tail _ (.head _))).1
  have hLt : env.locals ∉ tabs := R.Wt R.loc.1
  have hkSs : h₂.objs.size ≤ kS := Nat.le_trans hDs (Nat.le_of_lt hDk)
  have K' : Kept X.T (UW U W) env.locals m h₂ h' := by
    refine ⟨fun b o e n1 _ => get b o e n1, Nat.le_of_lt (Nat.lt_of_le_of_lt hDs (Heap.lt_size hd0)), ⟨fun y hy => ?_⟩, F'.ns⟩
    have nL' : y.1 ≠ env.locals := fun z => hLt (z ▸ hT y hy)
    rcases R₂.tab.at_ y hy with e | ⟨c', h1, h2, ⟨c2, oc, us, tq, hc, hoc, hdc, rr⟩, e⟩
    · exact .inl (get _ _ e nL')
    · refine .inr ⟨c', h1, h2, ⟨c2, oc, us, tq, hc, get _ _ hoc (fun z => ?_), hdc, rr⟩, get _ _ e nL'⟩
      cases hc; exact h1 (.inr (z ▸ R.loc.1))
  refine keys_run F hT R₂ hl hfo hf hc1 hc2 hcr hm hkSs hDs (Nat.ne_of_lt hDk) rows vs [] [] 0 h' _ h3 hr₂ K' hk0 hd0 .nil ?_
  intro h'' tk'' ks'' e'' K'' hk'' hd'' hks''
  rw [List.nil_append] at hks''
  have hkl := hks''.length
  obtain ⟨fs, hfs1, hfs2, hfs3⟩ := hks''.firsts
  refine kat_kind (T := .type "int") hfs1 (by omega) (fun v hv => ?_) (by decide) ?_
  · obtain ⟨i, t, rfl⟩ := hfs3 v hv
    exact Looks.of_pure rfl
  rw [show (Value.type "int" != Value.type "tuple") = true from by decide]
  rw [hlen]
  refine sort_asc h2 (fun i hi1 hi2 C hC => ?_) ?_
  · have g1 : rows[i]? = some rows[i] := List.getElem?_eq_getElem hi2
    have hi3 : i - 1 < rows.length := by omega
    have g2 : rows[i - 1]? = some rows[i - 1] := List.getElem?_eq_getElem hi3
    obtain ⟨t1, us1, n1, q1, q2, q3⟩ := hks''.at g1
    obtain ⟨t2, us2, n2, q4, q5, q6⟩ := hks''.at g2
    show wpAny _ _ (keyLt' (tuples' true) (ks''.getD i Value.none) (ks''.getD (i - 1) Value.none)) _ _ _
    rw [q1, q4]
    refine key_lt q2 q5 q3 q6 ?_ hC
    have := asc_at hs (i := i - 1) g2 (by rw [Nat.sub_add_cancel hi1]; exact g1)
    exact this
  · have hout : katRev false ((List.toArray (List.range rows.length)).toList.map fun i => (katRev false vs).getD i Value.none) = vs := by
      show (List.range rows.length).map (fun i => vs.getD i Value.none) = vs
      rw [← hlen]; exact getD_self
    rw [hout]
    have kSL : kS ≠ env.locals := fun q => absurd (R₂.Wlt _ R.loc.1) (Nat.not_lt.mpr (q ▸ hkSs))
    have DL : D ≠ env.locals := fun q => absurd (R₂.Wlt _ R.loc.1) (Nat.not_lt.mpr (q ▸ hDs))
    have kSt : kS ∉ tabs := fun q => absurd (R₂.Ult _ (R.Ut _ q)) (Nat.not_lt.mpr hkSs)
    have Dt : D ∉ tabs := fun q => absurd (R₂.Ult _ (R.Ut _ q)) (Nat.not_lt.mpr hDs)
    refine KatFin.intro (news := (kS, seqObj "list" ks''.toArray e'') :: objsBut h'' [env.locals, kS]) (g := fun o' => (kS, o') :: objsBut h'' [env.locals, kS]) ⟨K''.ns, fun b ob eb => (by rw [noHeap_get] at eb; cases eb), Nat.zero_le _⟩ (fun p hp => ?_) (.head fun p hp => ?_) fun h5 c5 F5 N5 => ?_
    · rcases List.mem_cons.mp hp with rfl | hp
      · exact ⟨hk'', kSL, noHeap_get⟩
      · obtain ⟨g1, g2⟩ := mem_objsBut.mp hp
        exact ⟨g1, fun q => g2 (by rw [q]; exact .head _), noHeap_get⟩
    · obtain ⟨g1, g2⟩ := mem_objsBut.mp hp
      exact fun q => g2 (by rw [q]; exact .tail _ (.head _))
    have get5 : ∀ b o, h''.get? b = some o → b ≠ env.locals → b ≠ kS → h5.get? b = some o := fun b o e n1 n2 => (N5 (b, o) (.tail _ (mem_objsBut.mpr ⟨e, by simp [n1, n2]⟩))).1
    have hd5 : h5.get? D = some (seqObj "list" #[] e1) := get5 _ _ hd'' DL (Nat.ne_of_lt hDk)
    refine KasFin.intro (news := (D, seqObj "list" #[] e1) :: objsBut h5 [env.locals, D]) (g := fun o' => (D, o') :: objsBut h5 [env.locals, D]) F5 (fun p hp => ?_) (.head fun p hp => ?_) fun h6 c6 F6 N6 => ?_
    · rcases List.mem_cons.mp hp with rfl | hp
      · exact ⟨hd5, DL, noHeap_get⟩
      · obtain ⟨g1, g2⟩ := mem_objsBut.mp hp
        exact ⟨g1, fun q => g2 (by rw [q]; exact .head _), noHeap_get⟩
    · obtain ⟨g1, g2⟩ := mem_objsBut.mp hp
      exact fun q => g2 (by rw [q]; exact .tail _ (.head _))
    have get6 : ∀ b o, h5.get? b = some o → b ≠ env.locals → b ≠ D → h6.get? b = some o := fun b o e n1 n2 => (N6 (b, o) (.tail _ (mem_objsBut.mpr ⟨e, by simp [n1, n2]⟩))).1
    have hd6 : h6.get? D = some (LObj vs c6) := (N6 _ (.head _)).1
    have K6 : Kept X.T (UW U W) env.locals m h₂ h6 := by
      have get2 : ∀ b o, h''.get? b = some o → b ≠ env.locals → b ≠ kS → b ≠ D → h6.get? b = some o := fun b o e n1 n2 n3 => get6 b o (get5 b o e n1 n2) n1 n3
      refine ⟨fun b o e n1 n2 => get2 b o (K''.keep b o e n1 n2) n1 (fun z => absurd (Heap.lt_size e) (Nat.not_lt.mpr (z ▸ hkSs))) (fun z => absurd (Heap.lt_size e) (Nat.not_lt.mpr (z ▸ hDs))), Nat.le_of_lt (Nat.lt_of_le_of_lt hDs (Heap.lt_size hd6)), ⟨fun y hy => ?_⟩, F6.ns⟩
      have nL' : y.1 ≠ env.locals := fun z => hLt (z ▸ hT y hy)
      have nk : y.1 ≠ kS := fun z => kSt (z ▸ hT y hy)
      have nD : y.1 ≠ D := fun z => Dt (z ▸ hT y hy)
      rcases K''.tab.at_ y hy with e | ⟨c', h1, h2, ⟨c2, oc, us, tq, hc, hoc, hdc, rr⟩, e⟩
      · exact .inl (get2 _ _ e nL' nk nD)
      · refine .inr ⟨c', h1, h2, ⟨c2, oc, us, tq, hc, get2 _ _ hoc (fun z => ?_) (fun z => ?_) (fun z => ?_), hdc, rr⟩, get2 _ _ e nL' nk nD⟩
        · cases hc; exact h1 (.inr (z ▸ R.loc.1))
        · rw [z, hk''] at hoc; cases hoc; cases hdc
        · rw [z, hd''] at hoc; cases hoc; cases hdc
    have R₆ := R₂.kept (tk := tk'') hm K6
    have aL : a ≠ env.locals := fun z => by
      obtain ⟨oL, es, ep, eL, hdL, _⟩ := hm
      rw [← z, e₂] at eL; cases eL; cases hdL
    have e₆ : h6.get? a = some (LObj vs n) := K6.keep _ _ e₂ aL (R.Wt hw)
    refine SeqAt.RcNeAt.lists (e := fun _ => true) (LObj.isList e₆) (LObj.isList hd6) rfl R₆.am.croom (fun j _ _ => SeqAt.EqAt.same _) X.prog X.w _ _ ?_
    rw [show (!(List.range vs.toArray.size).all (fun _ => true)) = false from by simp]
    refine wpAny_truthy_bool ?_
    refine wpAny_execs_nil ?_
    refine p W h6 tk'' R₆ ⟨fun _ h => .inl h, fun b o eb nW nt => K6.keep b o (a12.keep b o eb nt) (fun z => nW (z ▸ R.loc.1)) nt, Nat.le_trans a12.size K6.size⟩
end
end Mine
namespace Mine

theorem sc76 : ScOk (fscope 76) := .of (by decide +kernel)
theorem pb76 : PosBind 76 4 := by
  intro vs h name qual dV kV doc pm cdv ct hd
  subst hd
  obtain ⟨v0, v1, v2, v3, rfl⟩ := ofLen4 h
  rfl
theorem st0_inv {size : Nat} : Inv size (st0 size) where
  row := List.length_replicate
  three := fun o ho => by rw [List.eq_of_mem_replicate ho]; rfl
  names := List.length_replicate
  digits := List.length_replicate
  num := by show 0 < _; decide
  dig := fun d hd => by rw [List.eq_of_mem_replicate hd]; decide
section
variable {X : Cx} {k : Nat}

theorem followed_ok (F : Facts X) (hk : 80 ≤ k) {stream : List Int} {size wide : Nat} {late : Bool} {kept : List (Int × Int)} (hst : stream.length < 2 ^ 20) (hs : 0 < size ∧ size ≤ 8) (hw : 0 < wide ∧ wide ≤ 8) (hgood : followF stream size wide late = some kept) :
    CallV X (k + 1) true (.ref 169) [.list (nums stream), .int (size : Nat), .int (wide : Nat), .val (.bool late)] [] (.dictI kept) := by
  unfold followF at hgood
  split at hgood
  · rename_i S hrun
    split at hgood
    · rename_i hend
      cases hgood
      have inv := run_inv st0_inv hrun
      have hi2 := inv.row
      unfold endF at hend
      rw [Bool.and_eq_true, List.all_eq_true] at hend
      refine ownFn F.f76 sc76 pb76 rfl F.nolim (by decide +kernel) (by decide +kernel) ?_
      refine X_less (Γ₁ := [some (.val (.list (nums stream))), some (.val (.int (size : Nat))), some (.val (.int (wide : Nat))), some (.val (.val (.bool late))), none, none, none, none, none, none, none, none, none, none, none, none, none]) (by exact .keep (.keep (.keep (.keep (.pad (.pad (.pad (.pad (.pad (.pad (.pad (.pad (.pad (.pad (.pad (.pad (.pad .nil))))))))))))))))) ?_
      refine S_cons (S_own (N_is (l' := tups (List.replicate (size + 1) [0, 0, 0])) (by rw [Int.toNat_natCast, flat_rep]; simp only [tups, nums, List.map_replicate]) (N_bin (EvalsN.evals (N_list (L_cons (E_tup (l := [0, 0, 0]) (L_cons E_int (L_cons E_int (L_cons E_int L_nil))) (by decide)) L_nil) (by simp only [List.length_cons, List.length_nil]; decide))) (E_is (c := .int ((size + 1 : Nat) : Int)) rfl (E_bin (E_name (.nth 1 rfl)) E_int (B_add))) (BN_mul (x := ((size + 1 : Nat) : Int)) (by omega) (by omega) (by simp) (by simp only [List.length_cons, List.length_nil, Int.toNat_natCast]; omega)))) (.nth 4 rfl)) ?_
      refine S_cons (S_own (N_is (l' := nums (List.replicate size 0)) (by rw [Int.toNat_natCast, flat_rep]; simp only [tups, nums, List.map_replicate]) (N_bin (EvalsN.evals (N_list (L_cons E_int L_nil) (by simp only [List.length_cons, List.length_nil]; decide))) (E_name (.nth 1 rfl)) (BN_mul (x := ((size : Nat) : Int)) (by omega) (by omega) (by simp) (by simp only [List.length_cons, List.length_nil, Int.toNat_natCast]; omega)))) (.nth 5 rfl)) ?_
      refine S_cons (S_assign E_int (.nth 6 rfl)) ?_
      refine S_cons (S_assign (EvalsN.evals (N_is (l' := nums (List.replicate size 0)) (by rw [Int.toNat_natCast, flat_rep]; simp only [tups, nums, List.map_replicate]) (N_bin (EvalsN.evals (N_list (L_cons E_int L_nil) (by simp only [List.length_cons, List.length_nil]; decide))) (E_name (.nth 1 rfl)) (BN_mul (x := ((size : Nat) : Int)) (by omega) (by omega) (by simp) (by simp only [List.length_cons, List.length_nil, Int.toNat_natCast]; omega))))) (.nth 7 rfl)) ?_
      refine S_cons (S_assign E_dict0 (.nth 8 rfl)) ?_
      have hrng : (List.range stream.length).map (fun i => AV.int (i : Nat)) = (List.range' 0 stream.length).map fun i => AV.int (i : Nat) := by rw [List.range_eq_range']
      refine S_cons (S_for (I_range (.nth 17 rfl) F.g_range (E_is (c := .int ((stream.length : Nat) : Int)) (by rw [List.length_map]) (E_call (E_glob (.nth 18 rfl) F.g_len fun _ _ => .val _) (keepB) (L_cons (E_name .here) L_nil) K_nil (C_len_list (by rw [List.length_map]; omega)))) (by omega)) (by rw [hrng]; exact hoursLoop F hk hst hs hw stream 0 (st0 size) S rfl st0_inv hrun)) ?_
      refine S_cons (S_for (I_list (E_name .here)) (kindLoop (late := late) F hst inv stream fun kind hkd => by
        have := hend.1 kind hkd
        simp only [Bool.and_eq_true, decide_eq_true_eq] at this
        exact this)) ?_
      refine S_cons (S_neSorted F (by omega) hend.2 inv.three (by omega) (by omega) (.nth 4 rfl) (.nth 3 rfl) ⟨_, (.nth 26 rfl)⟩) ?_
      exact S_consR (S_ret (E_name (.nth 8 rfl)))
    · cases hgood
  · cases hgood
end
end Mine
namespace Mine

noncomputable abbrev two (elt t0 i0 t1 i1 : Expr) (scope : Scope) (pos : Pos) : Expr := .ListComp elt [⟨t0, i0, [], 0⟩, ⟨t1, i1, [], 0⟩] scope pos
theorem turn1 (elt t0 i0 t1 i1 : Expr) (scope : Scope) (pos : Pos) (it acc : Value) (env : Env) :
    compTurn (two elt t0 i0 t1 i1 scope pos) 1 it acc env = (standAt i1.pos >>= fun _ => pyNext it >>= fun r => match r with
      | none => pure (.done .next)
      | some v => letOwnedTupleGo t1 it v >>= fun _ => assign t1 env v >>= fun _ =>
        (eval elt env >>= fun x => call (.builtin "list.append") [acc, x] >>= fun _ => pure ()) >>= fun _ =>
          again (.compLoop (two elt t0 i0 t1 i1 scope pos) 1 it acc env)) := by rfl
theorem turn0 (elt t0 i0 t1 i1 : Expr) (scope : Scope) (pos : Pos) (it acc : Value) (env : Env) :
    compTurn (two elt t0 i0 t1 i1 scope pos) 0 it acc env = (standAt i0.pos >>= fun _ => pyNext it >>= fun r => match r with
      | none => pure (.done .next)
      | some v => letOwnedTupleGo t0 it v >>= fun _ => assign t0 env v >>= fun _ =>
        eval i1 env >>= fun x => standAt i1.pos >>= fun _ => foldedSetIterable i1 env x >>= fun x => holding [x] (pyIter x) >>= fun it2 => runOwn (.compStart (two elt t0 i0 t1 i1 scope pos) 1 it2 acc env) env >>= fun _ =>
          again (.compLoop (two elt t0 i0 t1 i1 scope pos) 0 it acc env)) := by rfl

section
variable {prog : Program} {w : World} {A : Around} {s : Shared} {R : Result → Shared → Prop} {elt t0 i0 t1 i1 : Expr} {scope : Scope} {pos : Pos} {it acc : Value} {env : Env}
theorem loop1_step (h : wpAny (model prog w) A (pyNext it) (fun r s₁ => match r with
      | none => R (.ok .next) s₁
      | some v => wpAny (model prog w) A (assign t1 env v) (fun _ s₂ => wpAny (model prog w) A (eval elt env) (fun x s₃ => wpAny (model prog w) A (call (.builtin "list.append") [acc, x]) (fun _ s₄ =>
          codeAny (model prog w) A (.compLoop (two elt t0 i0 t1 i1 scope pos) 1 it acc env) R s₄) (notedBy (model prog w) A env fun e s' => R (.error e) s') s₃) (notedBy (model prog w) A env fun e s' => R (.error e) s') s₂) (notedBy (model prog w) A env fun e s' => R (.error e) s') s₁) (notedBy (model prog w) A env fun e s' => R (.error e) s') s)
    (ht : ∀ v, letOwnedTupleGo t1 it v = pure ()) : codeAny (model prog w) A (.compLoop (two elt t0 i0 t1 i1 scope pos) 1 it acc env) R s := by
  refine codeAny_of_tree ?_
  show wpAny _ A ((compTurn (two elt t0 i0 t1 i1 scope pos) 1 it acc env).onRaise (fun x => do noteFrame x env; theTreesLotGoes x)) _ _ s
  refine wpAny_noted ?_
  rw [turn1]
  refine wpAny_bind (wpAny_standAt (wpAny_bind (wpAny_mono h (fun r s₁ h₁ => ?_) fun _ _ h' => h')))
  cases r with
  | none => exact wpAny_pure h₁
  | some v =>
    refine wpAny_bind (wpAny_of_eq (ht v) ?_)
    refine wpAny_bind (wpAny_mono h₁ (fun _ s₂ h₂ => ?_) fun _ _ h' => h')
    exact wpAny_bind (wpAny_bind (wpAny_mono h₂ (fun x s₄ h₄ => wpAny_bind (wpAny_mono h₄ (fun _ s₅ h₅ => wpAny_pure (wpAny_pure ⟨rfl, h₅⟩)) fun _ _ h' => h')) fun _ _ h' => h'))
theorem loop0_step (h : wpAny (model prog w) A (pyNext it) (fun r s₁ => match r with
      | none => R (.ok .next) s₁
      | some v => wpAny (model prog w) A (assign t0 env v) (fun _ s₂ => wpAny (model prog w) A (eval i1 env) (fun x s₃ => wpAny (model prog w) A (pyIter x) (fun it2 s₄ =>
          codeAny (model prog w) A (.compStart (two elt t0 i0 t1 i1 scope pos) 1 it2 acc env) (fun r s₅ => match r with
            | .ok _ => codeAny (model prog w) A (.compLoop (two elt t0 i0 t1 i1 scope pos) 0 it acc env) R s₅
            | .error e => cameBackBy (model prog w) A env (notedBy (model prog w) A env fun e s' => R (.error e) s') e s₅) s₄) (notedBy (model prog w) A env fun e s' => R (.error e) s') s₃) (notedBy (model prog w) A env fun e s' => R (.error e) s') s₂) (notedBy (model prog w) A env fun e s' => R (.error e) s') s₁) (notedBy (model prog w) A env fun e s' => R (.error e) s') s)
    (ht : ∀ v, letOwnedTupleGo t0 it v = pure ()) (hs : ∀ x, foldedSetIterable i1 env x = pure x) : codeAny (model prog w) A (.compLoop (two elt t0 i0 t1 i1 scope pos) 0 it acc env) R s := by
  refine codeAny_of_tree ?_
  show wpAny _ A ((compTurn (two elt t0 i0 t1 i1 scope pos) 0 it acc env).onRaise (fun x => do noteFrame x env; theTreesLotGoes x)) _ _ s
  refine wpAny_noted ?_
  rw [turn0]
  refine wpAny_bind (wpAny_standAt (wpAny_bind (wpAny_mono h (fun r s₁ h₁ => ?_) fun _ _ h' => h')))
  cases r with
  | none => exact wpAny_pure h₁
  | some v =>
    refine wpAny_bind (wpAny_of_eq (ht v) ?_)
    refine wpAny_bind (wpAny_mono h₁ (fun _ s₂ h₂ => ?_) fun _ _ h' => h')
    refine wpAny_bind (wpAny_mono h₂ (fun x s₃ h₃ => wpAny_bind (wpAny_standAt (wpAny_bind (wpAny_of_eq (hs x) ?_)))) fun _ _ h' => h')
    refine wpAny_bind (wpAny_holding (wpAny_mono h₃ (fun it2 s₄ h₄ => ?_) fun _ _ h' => h'))
    exact wpAny_bind (wpAny_runOwn (codeAny_mono h₄ fun r s₅ h₅ => by
      cases r with
      | error e => exact h₅
      | ok f => exact wpAny_pure ⟨rfl, h₅⟩))
theorem start1 (h0 : codeAny (model prog w) A (.compLoop (two elt t0 i0 t1 i1 scope pos) 1 it acc env) R s)
    (h : wpAny (model prog w) A (pyIter it) (fun it' s' => codeAny (model prog w) A (.compLoop (two elt t0 i0 t1 i1 scope pos) 1 it' acc env) R s')
      (notedBy (model prog w) A env fun x s' => R (.error x) s') s) :
    codeAny (model prog w) A (.compStart (two elt t0 i0 t1 i1 scope pos) 1 it acc env) R s := by
  refine codeAny_of_tree ?_
  show wpAny _ _ ((compStart (two elt t0 i0 t1 i1 scope pos) 1 it acc env).onRaise (fun x => do noteFrame x env; standAt theWindowsPlace)) _ _ s
  refine wpAny_notedAt ?_
  unfold compStart
  show wpAny _ _ (ask >>= _) _ _ s
  refine wpAny_bind (wpAny_askSetting (wpAny_ite ?_))
  split
  · first
      | exact wpAny_bind (wpAny_pure (wpAny_pure (And.intro rfl h0)))
      | exact wpAny_pure (And.intro rfl h0)
  · refine wpAny_bind (wpAny_rule ?_)
    show wpAny _ _ (standAt i1.pos >>= _) _ _ s
    exact wpAny_bind (wpAny_standAt (wpAny_bind (wpAny_mono h (fun it' s' h' => wpAny_pure (And.intro rfl h')) fun _ _ x => x)))
end
end Mine
namespace Mine

/-- the turns of two clauses, one in the other, that gather ints -/
inductive Nest (X : Cx) (k : Nat) (sc : Scope) (Γ : List (Option Slot)) (i₀ i₁ : Nat) (r : Str) (iter : Expr) : List AV → List Int → Prop
  | nil : Nest X k sc Γ i₀ i₁ r iter [] []
  | cons {a : AV} {as : List AV} {l tot : List Int} {Γ₁ : List (Option Slot)} : Put sc.names Γ i₀ r .local (.val a) Γ₁ → (∀ sl, Γ₁[i₁]? ≠ some (some sl)) → Iters X true k sc Γ₁ iter (nums l) → Nest X k sc Γ i₀ i₁ r iter as tot → Nest X k sc Γ i₀ i₁ r iter (a :: as) (l ++ tot)

theorem ints_snoc {i : Int} {t : Tok} : ∀ {vs : List Value} {l : List Int}, IntsAre vs l → IntsAre (vs ++ [.int i t]) (l ++ [i])
 := by
  intro vs l r
  induction r with
  | nil => exact .cons i t .nil
  | cons j t' _ ih => exact .cons j t' ih
theorem ints_len {vs : List Value} {l : List Int} (h : IntsAre vs l) : vs.length = l.length := by
  induction h with
  | nil => rfl
  | cons _ _ _ ih => rw [List.length_cons, List.length_cons, ih]

section
variable {X : Cx} {b bor : Bool} {k : Nat} {sc : Scope} {U W : Addr → Prop} {Γ Γ' Γ₁ : List (Option Slot)} {A : Around} {env : Env} {s : Shared}

theorem inner_loop {t0 iter0 iter1 : Expr} {x : Str} {px pe pos : Pos} {scope : Scope} {D I : Addr} {fp wr : List Addr} {n i₁ : Nat} {P : Nat → Value → Prop} {St : Nat → Heap → Prop} {RR : Result → Shared → Prop}
    (hDU : U D) (hDt : D ∉ tabs) (hDb : ∀ o, X.hb.get? D ≠ some o) (hDL : D ≠ env.locals)
    (hx : ∀ i : Int, ∃ Γ₂, Put sc.names Γ i₁ x .local (.val (.int i)) Γ₂ ∧ Look sc.names Γ₂ i₁ x .local (.val (.int i))) (hΓ : ∀ sl, Γ[i₁]? ≠ some (some sl))
    (hw : Walks X.prog X.w A I fp wr n P St) (hfp : ∀ b ∈ fp, b ≠ D ∧ b ≠ env.locals ∧ b ∉ tabs) (hwr : ∀ b ∈ wr, U b ∧ b ∉ tabs ∧ ∀ o, X.hb.get? b ≠ some o) : ∀ (todo : List Int) (j : Nat) (h' : Heap) (tk : Tok) (acc : List Int) (ys : List Value) (e0 : Nat),
    Rel X k sc U W Γ A env { s with heap := h', toks := tk } → St j h' → n = j + todo.length → (∀ (i : Nat) (a : Int), todo[i]? = some a → ∀ v, P (j + i) v → ∃ t, v = .int a t) → h'.get? D = some (LObj ys e0) → IntsAre ys acc → acc.length + todo.length ≤ sizeLine →
    (∀ h'' tk'' ys'' e'', Rel X k sc U W Γ A env { s with heap := h'', toks := tk'' } → (∀ b o, h'.get? b = some o → b ≠ D → b ≠ env.locals → b ∉ wr → b ∉ tabs → h''.get? b = some o) → h'.objs.size ≤ h''.objs.size → h''.get? D = some (LObj ys'' e'') → IntsAre ys'' (acc ++ todo) →
      RR (.ok .next) { s with heap := h'', toks := tk'' }) →
    codeAny (model X.prog X.w) A (.compLoop (two (.Name x pe) t0 iter0 (.Name x px) iter1 scope pos) 1 (.ref I) (.ref D) env) RR { s with heap := h', toks := tk }
  | [], j, h', tk, acc, ys, e0, R, hst, hn, hv, hD, hys, hsz, fin => by
    have : j = n := by simpa using hn.symm
    subst this
    refine loop1_step (wpAny_with_size (hw.done _ _ _ hst fun h₂ tk₂ hk₂ sz₂ => ?_)) fun _ => rfl
    have R₂ := R.poke (tk := tk₂) hwr hk₂ sz₂
    refine fin h₂ tk₂ ys e0 R₂ (fun b o e _ _ nw _ => hk₂ b o nw e) sz₂ (hk₂ _ _ (fun q => (hfp _ (hw.sub _ q)).1 rfl) hD) ?_
    rw [List.append_nil]; exact hys
  | a :: todo, j, h', tk, acc, ys, e0, R, hst, hn, hv, hD, hys, hsz, fin => by
    rw [List.length_cons] at hn hsz
    refine loop1_step (wpAny_with_size (hw.item j _ _ _ (by omega) hst fun v h₂ tk₂ hPv hst₂ hk₂ sz₂ => ?_)) fun _ => rfl
    have R₂ := R.poke (tk := tk₂) hwr hk₂ sz₂
    obtain ⟨t, rfl⟩ := hv 0 a rfl v (by simpa using hPv)
    obtain ⟨Γ₂, p, L⟩ := hx a
    have hDw : D ∉ wr := fun q => (hfp _ (hw.sub _ q)).1 rfl
    refine wpAny_assign_Name (R₂.storeL p (.int _ _) fun h₃ tk₃ R₃ hs₃ => ?_)
    have k3 : ∀ b o, b ≠ env.locals → h₂.get? b = some o → h₃.get? b = some o := fun b o nb eb => (hs₃.2 b nb).trans eb
    refine E_name (b := true) L R₃ fun v h₄ tk₄ a₄ hv₄ => ?_
    obtain ⟨t', rfl⟩ := hv₄.int
    have R₄ := R₃.after (tk := tk₄) a₄
    have hD₄ := a₄.keep _ _ (k3 _ _ hDL (hk₂ _ _ hDw hD)) hDt
    have hlen := ints_len hys
    obtain ⟨e', hD₆⟩ := upd_list (vs' := ys ++ [.int a t']) hD₄ (fun xs => xs.push (.int a t')) (by simp)
    refine call_meets slot_list_append ⟨_, hD₄, rfl⟩ entry_list_append (args_list_append _ _) (PySem.list_append D ys.toArray e0 (.int a t') (by rw [List.size_toArray, hlen]; omega)) ⟨hD₄, ?_⟩
    have k6 : ∀ b o, b ≠ D → h₄.get? b = some o → (h₄.update D (Obj.mapSeq fun xs => xs.push (.int a t'))).get? b = some o := fun b o nb eb => by rw [Heap.get?_update_other _ _ (Ne.symm nb)]; exact eb
    have sz6 : (h₄.update D (Obj.mapSeq fun xs => xs.push (.int a t'))).objs.size = h₄.objs.size := Heap.size_after_update ..
    have R₆ := R₄.poke (tk := tk₄) (h' := h₄.update D (Obj.mapSeq fun xs => xs.push (.int a t'))) (Z := [D]) (fun b hb => by rw [List.mem_singleton.mp hb]; exact ⟨hDU, hDt, hDb⟩) (fun b o nb eb => k6 b o (by simpa using nb) eb) (Nat.le_of_eq sz6.symm)
    have R₇ := R₆.forget (Γ := Γ) fun i sl ei => p.back i sl (fun q => by subst q; exact hΓ _ ei) ei
    have hst₆ : St (j + 1) (h₄.update D (Obj.mapSeq fun xs => xs.push (.int a t'))) := hw.frame _ _ _ hst₂ fun b hb o eb => k6 b o (hfp b hb).1 (a₄.keep b o (k3 b o (hfp b hb).2.1 eb) (hfp b hb).2.2)
    refine inner_loop hDU hDt hDb hDL hx hΓ hw hfp hwr todo (j + 1) _ tk₄ (acc ++ [a]) (ys ++ [.int a t']) e' R₇ hst₆ (by omega) (fun i a' ea v hPv => hv (i + 1) a' (by simpa using ea) v (by rw [show j + (i + 1) = j + 1 + i by omega]; exact hPv)) hD₆ (ints_snoc hys) (by rw [List.length_append, List.length_singleton]; omega) ?_
    intro h₈ tk₈ ys₈ e₈ R₈ kp₈ sz₈ hD₈ hys₈
    have hsz₃ : h₃.objs.size = h₂.objs.size := hs₃.1
    refine fin h₈ tk₈ ys₈ e₈ R₈ (fun b o e n1 n2 nw nt => kp₈ b o (k6 b o n1 (a₄.keep b o (k3 b o n2 (hk₂ b o nw e)) nt)) n1 n2 nw nt) ?_ hD₈ (by rw [List.append_assoc] at hys₈; exact hys₈)
    exact Nat.le_trans sz₂ (Nat.le_trans (Nat.le_of_eq hsz₃.symm) (Nat.le_trans a₄.size (Nat.le_trans (Nat.le_of_eq sz6.symm) sz₈)))

/-- a place out of reach becomes the frame's own -/
theorem Rel.take {D : Addr} (R : Rel X k sc U W Γ A env s) (hD : U D) (hDt : D ∉ tabs) (hDs : D ≠ sysModules) (hDb : ∀ o, X.hb.get? D ≠ some o) : Rel X k sc (fun y => U y ∧ y ≠ D) (fun y => W y ∨ y = D) Γ A env s := by
  have to : ∀ y, UW (fun y => U y ∧ y ≠ D) (fun y => W y ∨ y = D) y → UW U W y := fun y hy => by
    rcases hy with hy | hy | hy
    · exact .inl hy.1
    · exact .inr hy
    · exact .inl (hy ▸ hD)
  refine { am := R.am, scp := R.scp, cod := R.cod, kind := R.kind, nod := R.nod, ndb := R.ndb, glob := R.glob, blt := R.blt, base := R.base, bW := fun b o e => ⟨fun z => z.elim (R.bW b o e).1 fun z => hDb o (z ▸ e), (R.bW b o e).2⟩, bU := fun b o e z => R.bU b o e z.1, tab := R.tab.sub to, Ult := fun b q => R.Ult b q.1, Wlt := fun b q => q.elim (R.Wlt b) fun z => z ▸ R.Ult _ hD, dis := fun b hw q => hw.elim (fun hw => R.dis b hw q.1) fun z => q.2 z, Ut := fun a ha => ⟨R.Ut a ha, fun z => hDt (z ▸ ha)⟩, Us := ⟨R.Us, fun z => hDs z.symm⟩, loc := ⟨.inl R.loc.1, R.loc.2⟩, cel := fun x c hc => ⟨(R.cel x c hc).1.imp .inl id, (R.cel x c hc).2⟩, cinj := R.cinj, chas := fun i x kd e hk => ?_, vars := ?_ }
  · obtain ⟨c, hc, hw⟩ := R.chas i x kd e hk
    exact ⟨c, hc, fun z => .inl (hw z)⟩
  · obtain ⟨ad, bd, h1, h2⟩ := R.vars
    refine ⟨ad, bd, h1, fun i x kd sl e1 e2 => ?_⟩
    obtain ⟨v, q1, q2⟩ := h2 i x kd sl e1 e2
    refine ⟨v, q1, ?_⟩
    cases sl with
    | val av => exact VR.sub q2 to
    | own l o =>
      obtain ⟨rfl, hba, hw, vs, n, e, rr⟩ := q2
      exact ⟨rfl, hba, .inl hw, vs, n, e, rr.sub to⟩
    | own2 l last =>
      obtain ⟨rfl, hw, hw2, ne, vs, n, us, m, e, e2, rr, r2⟩ := q2
      exact ⟨rfl, .inl hw, .inl hw2, ne, vs, n, us, m, e, e2, rr.sub to, r2.sub to⟩

theorem nest_core {iter0 iter1 : Expr} {x r : Str} {px pe pr pos : Pos} {scope : Scope} {ns' : List (Str × NameKind)} {i₀ i₁ n : Nat} {I : Addr} {fp wr : List Addr} {P : Nat → Value → Prop} {St : Nat → Heap → Prop} {items : List AV} {total : List Int} {RR : Value → Addr → Result → Shared → Prop} {E : Value → Shared → Prop} {h₂ : Heap} {tk₂ : Tok} (c : CompOk X k sc Γ bor scope ns' Γ' i₀)
    (hc : Nest X k { scope with names := ns' } Γ' i₀ i₁ r iter1 items total) (hx : ∀ {Γ₁ : List (Option Slot)}, Γ₁.length = Γ'.length → ∀ i : Int, ∃ Γ₂, Put ns' Γ₁ i₁ x .local (.val (.int i)) Γ₂ ∧ Look ns' Γ₂ i₁ x .local (.val (.int i))) (hpl : ∀ {a : AV} {Γ₁ : List (Option Slot)}, Put ns' Γ' i₀ r .local (.val a) Γ₁ → Γ₁.length = Γ'.length) (hsz : total.length ≤ sizeLine)
    (hs1 : ∀ env x, foldedSetIterable iter1 env x = pure x)
    (R : Rel X k sc U W Γ A env s) (a₂ : Aft X.T (UW U W) s.heap h₂) (hw : Walks X.prog X.w A I fp wr n P St) (hst : St 0 h₂) (hn : n = items.length) (hfp : ∀ b' ∈ fp, b' < h₂.objs.size ∧ b' ∉ tabs) (hwr : ∀ b' ∈ wr, s.heap.objs.size ≤ b' ∧ ∀ q, ¬ h₂.CodeRec (.ref b') q)
    (hv : ∀ (j : Nat) (a : AV), items[j]? = some a → ∀ v, P j v → VR X.prog X.w (UW (fun x => U x ∨ x ∈ wr) W) h₂ v a)
    (hR : ∀ D C h' tk ys m mm, h₂.objs.size ≤ D → h₂.objs.size ≤ C → C ≠ D → h'.get? D = some (LObj ys m) → IntsAre ys total → h'.Ns C mm → Aft X.T (UW U W) s.heap h' → RR (.ref D) C (.ok .next) { s with heap := h', toks := tk }) :
    wpAny (model X.prog X.w) A (newList []) (fun acc s₃ => wpAny (model X.prog X.w) A (newFunctionEnv scope env.globals (closL env scope.names []) [] env.qual none .none (some env)) (fun cenv s₄ =>
      codeAny (model X.prog X.w) A (.compStart (two (.Name x pe) (.Name r pr) iter0 (.Name x px) iter1 scope pos) 0 (.ref I) acc { cenv with scope := PySem.relabel scope env }) (RR acc cenv.locals) s₄) E s₃) E { s with heap := h₂, toks := tk₂ } := by
  have Rg := R.guard (tk := tk₂) (Z := wr) a₂ fun b hb => ⟨(hwr b hb).1, (hfp b (hw.sub b hb)).1, (hwr b hb).2⟩
  -- the block's frame and its list
  refine wpAny_newObj_type (wpAny_newFunctionEnv c.capt.noCell (by intro y hy; simp at hy) (fun h₁ hns₁ hsb₁ => ?_) c.kind)
  dsimp only at hns₁ hsb₁ ⊢
  generalize hH2 : h₂.push { cls := .type "list", dict := none, data := .seq ([] : List Value).toArray } = H2 at hns₁ hsb₁ ⊢
  have hC : H2.objs.size = h₂.objs.size + 1 := by rw [← hH2, Heap.size_push]
  have hDC : h₂.objs.size ≠ H2.objs.size := by rw [hC]; exact Nat.ne_of_lt (Nat.lt_succ_self _)
  have hCge : h₂.objs.size ≤ H2.objs.size := by rw [hC]; exact Nat.le_succ _
  have hsz1 : h₁.objs.size = h₂.objs.size + 2 := by rw [hsb₁.1, Heap.size_push, hC]
  have below : ∀ b, b < h₂.objs.size → b ≠ H2.objs.size ∧ b ≠ h₂.objs.size := fun b hb => ⟨by rw [hC]; exact Nat.ne_of_lt (Nat.lt_succ_of_lt hb), Nat.ne_of_lt hb⟩
  have old : ∀ b o, h₂.get? b = some o → h₁.get? b = some o := fun b o e => hsb₁.extBut b o (below b (Heap.lt_size e)).1 (Heap.get?_push_of_some _ (hH2 ▸ Heap.get?_push_of_some _ e))
  have hacc : h₁.get? h₂.objs.size = some (LObj [] 0) := hsb₁.extBut _ _ hDC (Heap.get?_push_of_some _ (hH2 ▸ Heap.get?_push_size _ rfl))
  have hst₁ : St 0 h₁ := hw.frame _ _ _ hst fun b _ o e => old b o e
  obtain ⟨_, RC⟩ := Rg.comp (tk₁ := tk₂ + ([] : List (Str × Value)).length) (D := h₂.objs.size) (C := H2.objs.size) c.capt c.kind c.cod c.nod c.ndb old (by rw [hsz1]; exact Nat.le_add_right _ _) hCge (Nat.le_refl _) (by rw [hsz1, hC]; exact Nat.lt_succ_self _) (by rw [hsz1]; exact Nat.lt_add_of_pos_right (by decide)) (Ne.symm hDC) hns₁
  generalize hU' : compU bor (fun a => U a ∨ a ∈ wr) W (closL env scope.names []) h₂ h₂.objs.size = U' at RC
  generalize hW' : compW W (closL env scope.names []) H2.objs.size = W' at RC
  have hDU : U' h₂.objs.size := by rw [← hU']; exact .inr rfl
  have hUold : ∀ b, (U b ∨ b ∈ wr) → U' b := fun b hb => by rw [← hU']; exact .inl ⟨.inl hb, fun z => Rg.dis b z.1 hb, fun z => Rg.dis b z.2.1 hb⟩
  have hDt : h₂.objs.size ∉ tabs := fun q => Nat.lt_irrefl _ (Rg.Ult _ (Rg.Ut _ q))
  have hDb : ∀ o, X.hb.get? h₂.objs.size ≠ some o := fun o e => Nat.lt_irrefl _ (Heap.lt_size (Rg.base _ _ e))
  have hDw : h₂.objs.size ∉ wr := fun q => Nat.lt_irrefl _ (hfp _ (hw.sub _ q)).1
  have hCw : H2.objs.size ∉ wr := fun q => by have h5 := (hfp _ (hw.sub _ q)).1; rw [hC] at h5; exact absurd h5 (Nat.not_lt.mpr (Nat.le_succ _))
  have hwr' : ∀ b ∈ wr, U' b ∧ b ∉ tabs ∧ ∀ o, X.hb.get? b ≠ some o := fun b hb => ⟨hUold b (.inr hb), (hfp b (hw.sub b hb)).2, fun o e => absurd (Heap.lt_size (R.base b o e)) (Nat.not_lt.mpr (hwr b hb).1)⟩
  have hL : (compEnvC scope (closL env scope.names []) H2.objs.size env).locals = H2.objs.size := rfl
  have hval : ∀ {v : Value} {a : AV} {h : Heap}, (∀ b o, h₂.get? b = some o → b ∉ wr → b ∉ tabs → h.get? b = some o) → VR X.prog X.w (UW (fun a => U a ∨ a ∈ wr) W) h₂ v a → VR X.prog X.w (UW U' W') h v a := fun {v a h} kp rr =>
    rr.change fun b o e nb => by
      refine ⟨kp b o e (fun q => nb (.inl (.inr q))) (fun q => nb (.inl (.inl (R.Ut b q)))), fun z => ?_⟩
      rw [← hU', ← hW'] at z
      rcases comp_new hCge (Nat.le_refl _) e z with z | z
      · exact nb z.1
      · exact nb (.inr z.1)
  -- the outer clause's turns
  have loop : ∀ {RR : Result → Shared → Prop} (todo : List AV) (i : Nat) (h' : Heap) (tk : Tok) (acc rs : List Int) (ys : List Value) (e : Nat), Rel X k { scope with names := ns' } U' W' Γ' A (compEnvC scope (closL env scope.names []) H2.objs.size env) { s with heap := h', toks := tk } → St i h' → n = i + todo.length → (∀ j, todo[j]? = items[i + j]?) → Nest X k { scope with names := ns' } Γ' i₀ i₁ r iter1 todo rs → acc ++ rs = total →
      h'.get? h₂.objs.size = some (LObj ys e) → IntsAre ys acc → (∀ b o, h₂.get? b = some o → b ∉ wr → b ∉ tabs → h'.get? b = some o) → h₂.objs.size ≤ h'.objs.size →
      (∀ h'' tk'' ys'' e'' mm, Rel X k { scope with names := ns' } U' W' Γ' A (compEnvC scope (closL env scope.names []) H2.objs.size env) { s with heap := h'', toks := tk'' } → h''.get? h₂.objs.size = some (LObj ys'' e'') → IntsAre ys'' total → (∀ b o, h₂.get? b = some o → b ∉ wr → b ∉ tabs → h''.get? b = some o) → h₂.objs.size ≤ h''.objs.size → h''.Ns H2.objs.size mm → RR (.ok .next) { s with heap := h'', toks := tk'' }) →
      codeAny (model X.prog X.w) A (.compLoop (two (.Name x pe) (.Name r pr) iter0 (.Name x px) iter1 scope pos) 0 (.ref I) (.ref h₂.objs.size) (compEnvC scope (closL env scope.names []) H2.objs.size env)) RR { s with heap := h', toks := tk } := by
    intro RR todo
    induction todo with
    | nil =>
      intro i h' tk acc rs ys e R' hst' hn' hitems hcs htot hD' hys kp szh fin
      cases hcs
      have hi : i = n := by simpa using hn'.symm
      subst hi
      refine loop0_step (wpAny_with_size (hw.done _ _ _ hst' fun h₃ tk₃ hk₃ sz₃ => ?_)) (fun _ => rfl) (hs1 _)
      have R₃ := R'.poke (tk := tk₃) hwr' hk₃ sz₃
      rw [List.append_nil] at htot
      subst htot
      obtain ⟨_, mm, hmm⟩ := R₃.loc
      exact fin h₃ tk₃ ys e mm R₃ (hk₃ _ _ hDw hD') hys (fun b o eb nw nt => hk₃ b o nw (kp b o eb nw nt)) (Nat.le_trans szh sz₃) hmm
    | cons a todo ih =>
      intro i h' tk acc rs ys e R' hst' hn' hitems hcs htot hD' hys kp szh fin
      cases hcs with
      | @cons _ _ l tot Γ₁ p hΓ hin hrest =>
      rw [List.length_cons] at hn'
      refine loop0_step (wpAny_with_size (hw.item i _ _ _ (by omega) hst' fun v h₃ tk₃ hPv hst₃ hk₃ sz₃ => ?_)) (fun _ => rfl) (hs1 _)
      have R₃ := R'.poke (tk := tk₃) hwr' hk₃ sz₃
      have ha : items[i]? = some a := by have := hitems 0; simpa using this.symm
      have kp₃ : ∀ b o, h₂.get? b = some o → b ∉ wr → b ∉ tabs → h₃.get? b = some o := fun b o eb nw nt => hk₃ b o nw (kp b o eb nw nt)
      refine wpAny_assign_Name (R₃.storeL p (hval kp₃ (hv i a ha v hPv)) fun h₄ tk₄ R₄ hs₄ => ?_)
      rw [hL] at hs₄
      have k4 : ∀ b o, b ≠ H2.objs.size → h₃.get? b = some o → h₄.get? b = some o := fun b o nb eb => (hs₄.2 b nb).trans eb
      have hDs : h₂.objs.size ≠ sysModules := fun z => Nat.lt_irrefl _ (z ▸ Rg.Ult _ Rg.Us)
      have hUW : ∀ y, UW U' W' y → UW (fun y => U' y ∧ y ≠ h₂.objs.size) (fun y => W' y ∨ y = h₂.objs.size) y := fun y hy => by
        by_cases z : y = h₂.objs.size
        · exact .inr (.inr z)
        · exact hy.imp (fun q => ⟨q, z⟩) .inl
      refine hin (R₄.take hDU hDt hDs hDb) fun I2 fp2 wr2 n2 P2 St2 h₅ tk₅ a₅' hw2 hst2 hn2 hfp2 hwr2 hv2 => ?_
      have a₅ : Aft X.T (UW U' W') h₄ h₅ := ⟨a₅'.keep, a₅'.size, a₅'.tab.sub hUW⟩
      have sz4 : h₄.objs.size = h₃.objs.size := hs₄.1
      have hh3 : h₂.objs.size ≤ h₃.objs.size := Nat.le_trans szh sz₃
      have hC4 : H2.objs.size < h₄.objs.size := R₄.Wlt _ R₄.loc.1
      have R₅ := R₄.guard (tk := tk₅) (Z := wr2) a₅ fun b hb => ⟨(hwr2 b hb).1, (hfp2 b (hw2.sub b hb)).1, (hwr2 b hb).2⟩
      have hD₃ := hk₃ _ _ hDw hD'
      have hD₅ : h₅.get? h₂.objs.size = some (LObj ys e) := a₅.keep _ _ (k4 _ _ hDC hD₃) hDt
      have hlacc : (acc ++ l ++ tot).length ≤ sizeLine := by rw [List.append_assoc, htot]; exact hsz
      rw [List.length_append, List.length_append] at hlacc
      -- the inner clause
      have inner := fun (RR' : Result → Shared → Prop) => inner_loop (s := s) (t0 := .Name r pr) (iter0 := iter0) (iter1 := iter1) (pe := pe) (px := px) (pos := pos) (scope := scope) (RR := RR') (U := fun b => U' b ∨ b ∈ wr2) (W := W') (Γ := Γ₁) (env := compEnvC scope (closL env scope.names []) H2.objs.size env) (D := h₂.objs.size) (i₁ := i₁) (x := x) (sc := { scope with names := ns' }) (.inl hDU) hDt hDb (by rw [hL]; exact hDC) (hx (hpl p)) hΓ hw2
        (fun b hb => ⟨fun z => (hfp2 b hb).2.2 rfl (.inr z), fun z => (hfp2 b hb).2.2 rfl (.inl (z ▸ R₄.loc.1)), (hfp2 b hb).2.1⟩) (fun b hb => ⟨.inr hb, (hfp2 b (hw2.sub b hb)).2.1, fun o eo => absurd (Heap.lt_size (R₄.base b o eo)) (Nat.not_lt.mpr (hwr2 b hb).1)⟩) l 0 h₅ tk₅ acc ys e R₅ hst2 (by rw [hn2, List.length_map]; omega)
        (fun i' a' ea v' hPv' => by
          have := hv2 i' (.int a') (by rw [List.getElem?_map, ea]; rfl) v' (by simpa using hPv')
          cases this with
          | int _ t => exact ⟨t, rfl⟩) hD₅ hys (by omega)
      have next := fun (RR' : Result → Shared → Prop) (hRR : ∀ s', codeAny (model X.prog X.w) A (.compLoop (two (.Name x pe) (.Name r pr) iter0 (.Name x px) iter1 scope pos) 0 (.ref I) (.ref h₂.objs.size) (compEnvC scope (closL env scope.names []) H2.objs.size env)) RR s' → RR' (.ok .next) s') => inner RR' fun h₈ tk₈ ys₈ e₈ R₈ kp₈ sz₈ hD₈ hys₈ => hRR _ (by
        have R₉ := (R₈.subU R₃.Ut R₃.Us).forget (Γ := Γ') fun i' sl ei => p.back i' sl (fun q => by subst q; exact c.fresh _ ei) ei
        have n2 : ∀ b, b < h₂.objs.size → b ∉ wr2 := fun b hb q => by
          have := (hwr2 b q).1
          have e1 : h₄.objs.size ≤ b := this
          omega
        have keep8 : ∀ b o, b < h₂.objs.size → b ∉ tabs → h₃.get? b = some o → h₈.get? b = some o := fun b o hb nt e => kp₈ b o (a₅.keep b o (k4 b o (below b hb).1 e) nt) (below b hb).2 (by rw [hL]; exact (below b hb).1) (n2 b hb) nt
        refine ih (i + 1) h₈ tk₈ (acc ++ l) tot ys₈ e₈ R₉ (hw.frame _ _ _ hst₃ fun b hb o eb => keep8 b o (hfp b hb).1 (hfp b hb).2 eb) (by omega) (fun j => by have := hitems (j + 1); rw [List.getElem?_cons_succ] at this; rw [this]; congr 1; omega) hrest (by rw [List.append_assoc]; exact htot) hD₈ hys₈ (fun b o eb nw nt => keep8 b o (Heap.lt_size eb) nt (kp₃ b o eb nw nt)) ?_ fin
        have z1 : h₄.objs.size ≤ h₅.objs.size := a₅.size
        exact Nat.le_trans hh3 (Nat.le_trans (Nat.le_of_eq sz4.symm) (Nat.le_trans z1 sz₈)))
      exact start1 (next _ fun s' hs' => hs') (hw2.self 0 _ _ _ hst2 (next _ fun s' hs' => hs'))
  have hcl : ∀ {RR : Result → Shared → Prop}, (∀ h'' tk'' ys'' e'' mm, Rel X k { scope with names := ns' } U' W' Γ' A (compEnvC scope (closL env scope.names []) H2.objs.size env) { s with heap := h'', toks := tk'' } → h''.get? h₂.objs.size = some (LObj ys'' e'') → IntsAre ys'' total → (∀ b o, h₂.get? b = some o → b ∉ wr → b ∉ tabs → h''.get? b = some o) → h₂.objs.size ≤ h''.objs.size → h''.Ns H2.objs.size mm → RR (.ok .next) { s with heap := h'', toks := tk'' }) →
      codeAny (model X.prog X.w) A (.compLoop (two (.Name x pe) (.Name r pr) iter0 (.Name x px) iter1 scope pos) 0 (.ref I) (.ref h₂.objs.size) (compEnvC scope (closL env scope.names []) H2.objs.size env)) RR { s with heap := h₁, toks := tk₂ + ([] : List (Str × Value)).length } := fun fin =>
    loop items 0 h₁ _ [] total [] 0 RC hst₁ (by omega) (fun j => by simp) hc rfl hacc .nil (fun b o e _ _ => old b o e) (by rw [hsz1]; exact Nat.le_add_right _ _) fin
  have last : ∀ h'' tk'' ys'' e'' mm, Rel X k { scope with names := ns' } U' W' Γ' A (compEnvC scope (closL env scope.names []) H2.objs.size env) { s with heap := h'', toks := tk'' } → h''.get? h₂.objs.size = some (LObj ys'' e'') → IntsAre ys'' total → (∀ b o, h₂.get? b = some o → b ∉ wr → b ∉ tabs → h''.get? b = some o) → h₂.objs.size ≤ h''.objs.size → h''.Ns H2.objs.size mm → RR (.ref h₂.objs.size) H2.objs.size (.ok .next) { s with heap := h'', toks := tk'' } := by
    intro h'' tk'' ys'' e'' mm R'' hD'' hys'' kp'' sz'' hN
    have ht := R''.tab
    rw [← hU', ← hW'] at ht
    have hWw : ∀ a, W a → a ∉ wr := fun a ha q => absurd (R.Wlt a ha) (Nat.not_lt.mpr (hwr a q).1)
    have a' := comp_aft (bor := bor) (U := U) (W := W) a₂ (fun b hb => (hwr b hb).1) kp'' sz'' (fun a ha => R.Wt ha) hWw ht
    exact hR _ _ h'' tk'' ys'' e'' mm (Nat.le_refl _) hCge (Ne.symm hDC) hD'' hys'' hN a'
  exact codeAny_compStart_list (hcl last) (hw.self 0 _ _ _ hst₁ (hcl last))

theorem N_nest {iter0 iter1 : Expr} {x r : Str} {px pe pr pos : Pos} {scope : Scope} {ns' : List (Str × NameKind)} {i₀ i₁ : Nat} {items : List AV} {total : List Int} (hit : Iters X false k sc Γ iter0 items) (c : CompOk X k sc Γ bor scope ns' Γ' i₀)
    (hc : Nest X k { scope with names := ns' } Γ' i₀ i₁ r iter1 items total) (hx : ∀ {Γ₁ : List (Option Slot)}, Γ₁.length = Γ'.length → ∀ i : Int, ∃ Γ₂, Put ns' Γ₁ i₁ x .local (.val (.int i)) Γ₂ ∧ Look ns' Γ₂ i₁ x .local (.val (.int i))) (hpl : ∀ {a : AV} {Γ₁ : List (Option Slot)}, Put ns' Γ' i₀ r .local (.val a) Γ₁ → Γ₁.length = Γ'.length) (hsz : total.length ≤ sizeLine)
    (hs : ∀ env x, foldedSetIterable iter0 env x = pure x := by intro _ _; rfl) (hs1 : ∀ env x, foldedSetIterable iter1 env x = pure x := by intro _ _; rfl) :
    EvalsN X k sc Γ (two (.Name x pe) (.Name r pr) iter0 (.Name x px) iter1 scope pos) (nums total) := by
  intro U W A env s Q E R q
  rw [eval_ListComp]
  refine wpAny_comprehension_free (use := none) rfl (hs env) (c.capt.clos R) c.kind (c.capt.locals c.nod) ?_
  show wpAny _ A (eval iter0 env) _ _ s
  refine hit R fun I fp wr n P St h₂ tk₂ a₂ hw hst hn hfp hwr hv => ?_
  refine nest_core c hc hx hpl hsz hs1 R a₂ hw hst hn (fun b hb => ⟨(hfp b hb).1, (hfp b hb).2.1⟩) hwr hv fun D C h'' tk'' ys'' e'' mm hDs hCs hCD hD'' hys'' hN a' => ?_
  refine ⟨mm, hN, fun h3 hs3 => ?_⟩
  have hCs' : s.heap.objs.size ≤ C := Nat.le_trans a₂.size hCs
  have hCt : C ∉ tabs := fun z => absurd (R.Ult _ (R.Ut _ z)) (Nat.not_lt.mpr hCs')
  exact q D ys'' e'' h3 tk'' (aft_same a' hCs' hCt hN hs3) (Nat.le_trans a₂.size hDs) ((hs3.2 _ (Ne.symm hCD)).trans hD'') (.of_ints hys'')

theorem S_nest {y : Str} {py spos : Pos} {iy : Nat} {iter0 iter1 : Expr} {x r : Str} {px pe pr pos : Pos} {scope : Scope} {ns' : List (Str × NameKind)} {i₀ i₁ : Nat} {items : List AV} {total : List Int} {Γ₁ : List (Option Slot)} (hit : Iters X false k sc Γ iter0 items) (c : CompOk X k sc Γ bor scope ns' Γ' i₀)
    (hc : Nest X k { scope with names := ns' } Γ' i₀ i₁ r iter1 items total) (hx : ∀ {Γ₁ : List (Option Slot)}, Γ₁.length = Γ'.length → ∀ i : Int, ∃ Γ₂, Put ns' Γ₁ i₁ x .local (.val (.int i)) Γ₂ ∧ Look ns' Γ₂ i₁ x .local (.val (.int i))) (hpl : ∀ {a : AV} {Γ₁ : List (Option Slot)}, Put ns' Γ' i₀ r .local (.val a) Γ₁ → Γ₁.length = Γ'.length) (hsz : total.length ≤ sizeLine)
    (p : Put sc.names Γ iy y .local (.val (.list (nums total))) Γ₁) (hl : (py.line == pos.line) = true) (hne : (scope.names.any fun (n, k) => n == y && (k == .local || k == .cell)) = false)
    (hs : ∀ env x, foldedSetIterable iter0 env x = pure x := by intro _ _; rfl) (hs1 : ∀ env x, foldedSetIterable iter1 env x = pure x := by intro _ _; rfl) :
    Exec X k sc Γ (.Assign [.Name y py] (two (.Name x pe) (.Name r pr) iter0 (.Name x px) iter1 scope pos) spos) (.next Γ₁) := by
  intro U W A env s Q E R q
  have hsw : swapsWith (two (.Name x pe) (.Name r pr) iter0 (.Name x px) iter1 scope pos) (some (.Name y py)) spos.line env = pure true := by
    show (pure (env.blockKind == .function && env.kindOf y == some .local && py.line == pos.line && !(scope.names.any fun (n, k) => n == y && (k == .local || k == .cell))) : Sem Bool) = pure true
    rw [hl, hne, R.kindOf p.at.1]
    have : env.blockKind = .function := by unfold Env.blockKind; rw [R.isFn]; rfl
    rw [this]; rfl
  rw [exec_Assign_Name_used _ _ _ _ hsw]
  refine wpAny_bind (wpAny_standAt (wpAny_bind ?_))
  show wpAny _ A (do let _ ← comprehension (two (.Name x pe) (.Name r pr) iter0 (.Name x px) iter1 scope pos) scope env _ (newList []) false (eval iter0 env) (some (assign (.Name y py) env))) _ _ s
  refine wpAny_bind (wpAny_mono (wpAny_comprehension_free (use := some (assign (.Name y py) env)) (Q := fun _ s' => Q .next s') rfl (hs env) (c.capt.clos R) c.kind (c.capt.locals c.nod) ?_) (fun _ s' hq => wpAny_pure (wpAny_pure hq)) fun _ _ e => e)
  refine hit R fun I fp wr n P St h₂ tk₂ a₂ hw hst hn hfp hwr hv => ?_
  refine nest_core c hc hx hpl hsz hs1 R a₂ hw hst hn (fun b hb => ⟨(hfp b hb).1, (hfp b hb).2.1⟩) hwr hv fun D C h' tk ys m mm hD hC hCD eD hys hN a' => ?_
  have hCs : s.heap.objs.size ≤ C := Nat.le_trans a₂.size hC
  have hDs : s.heap.objs.size ≤ D := Nat.le_trans a₂.size hD
  have hCl : C < h'.objs.size := hN.lt
  have R' := R.guard (tk := tk) (Z := [C]) a' fun b hb => by rw [List.mem_singleton.mp hb]; exact ⟨hCs, hCl, ns_no_code hN⟩
  show wpAny _ A (assign (.Name y py) env (.ref D)) _ _ _
  have hv' : VR X.prog X.w (UW (fun x => U x ∨ x ∈ [C]) W) h' (.ref D) (.list (nums total)) := by
    refine .list ?_ eD (.of_ints hys)
    rintro ((z | z) | z)
    · exact absurd (R.Ult D z) (Nat.not_lt.mpr hDs)
    · exact hCD (List.mem_singleton.mp z).symm
    · exact absurd (R.Wlt D z) (Nat.not_lt.mpr hDs)
  refine wpAny_assign_Name (R'.storeL p hv' fun h₃ tk₃ R₃ hs₃ => ?_)
  have hLC : env.locals ≠ C := fun z => by
    have := R.Wlt _ R.loc.1
    exact absurd this (Nat.not_lt.mpr (z ▸ hCs))
  refine ⟨mm, hN.sameBut hs₃ (Ne.symm hLC), fun h₄ hs₄ => ?_⟩
  have R₄ := R₃.poke (tk := tk₃) (h' := h₄) (Z := [C]) (fun b hb => ⟨.inr hb, fun z => ?_, fun o e => ?_⟩) (fun b o nb eb => (hs₄.2 b (by simpa using nb)).trans eb) (Nat.le_of_eq hs₄.1.symm)
  · refine q W h₄ tk₃ (R₄.subU R.Ut R.Us) ⟨fun _ h => .inl h, fun b o e nW nt => ?_, ?_⟩
    · have e1 := a'.keep b o e nt
      have e2 := (hs₃.2 b fun z => nW (z ▸ R.loc.1)).trans e1
      exact (hs₄.2 b fun z => absurd (Heap.lt_size e) (Nat.not_lt.mpr (z ▸ hCs))).trans e2
    · rw [hs₄.1]; exact Nat.le_trans a'.size (Nat.le_of_eq hs₃.1.symm)
  · rw [List.mem_singleton.mp hb] at z; exact absurd (R.Ult C (R.Ut C z)) (Nat.not_lt.mpr hCs)
  · rw [List.mem_singleton.mp hb] at e; exact absurd (Heap.lt_size (R.base _ _ e)) (Nat.not_lt.mpr hCs)
end
end Mine
namespace Mine

section
variable {X : Cx} {b bor : Bool} {k : Nat} {sc : Scope} {U W : Addr → Prop} {Γ Γ' Γ₁ : List (Option Slot)} {A : Around} {env : Env} {s : Shared}

/-- pairs of int and text, as written -/
inductive Pairs (X : Cx) (k : Nat) (sc : Scope) (Γ : List (Option Slot)) : List (Option Expr) → List Expr → List (Int × Str) → Prop
  | nil : Pairs X k sc Γ [] [] []
  | cons {e v : Expr} {es : List (Option Expr)} {vs : List Expr} {i : Int} {x : Str} {l : List (Int × Str)} : Evals X false k sc Γ e (.int i) → Evals X false k sc Γ v (.str x) → Pairs X k sc Γ es vs l → Pairs X k sc Γ (some e :: es) (v :: vs) ((i, x) :: l)
theorem Pairs.length {es : List (Option Expr)} {vs : List Expr} {l : List (Int × Str)} (h : Pairs X k sc Γ es vs l) : es.length = l.length ∧ es.length = vs.length ∧ es.all (·.isSome) = true := by
  induction h with
  | nil => exact ⟨rfl, rfl, rfl⟩
  | cons _ _ _ ih => exact ⟨by rw [List.length_cons, List.length_cons, ih.1], by rw [List.length_cons, List.length_cons, ih.2.1], by rw [List.all_cons, ih.2.2]; rfl⟩
theorem Pairs.run {pos : Pos} {es : List (Option Expr)} {vs : List Expr} {l : List (Int × Str)} (h : Pairs X k sc Γ es vs l) : ∀ {s : Shared} {Q : List (Value × Value) → Shared → Prop} {E : Value → Shared → Prop}, Rel X k sc U W Γ A env s →
    (∀ ps kvs h' tk, Aft X.T (UW U W) s.heap h' → Carries (intKind X.prog X.w) ps kvs → KS kvs l → Q ps { s with heap := h', toks := tk }) → wpAny (model X.prog X.w) A (evalPairs (pairTrees es vs env pos)) Q E s := by
  induction h with
  | nil => exact fun R q => pairTrees_nil_walk (q [] [] _ _ (Aft.refl R) trivial .nil)
  | cons h1 h2 _ ih =>
    intro s Q E R q
    refine pairTrees_cons_walk (h1 R fun v h₁ t₁ a₁ q₁ => h2 (R.after a₁) fun u h₂ t₂ a₂ q₂ => ih ((R.after a₁).after a₂) fun ps kvs h₃ t₃ a₃ hc hk => ?_)
    obtain ⟨t, rfl⟩ := q₁.int
    obtain ⟨t', rfl⟩ := q₂.str
    refine q _ ((_, .str _ t') :: kvs) h₃ t₃ ((a₁.trans a₂).trans a₃) ⟨by simp [intKind, Value.isInt], rfl, hc⟩ (.cons _ _ _ hk)
theorem stored_new {kvs : List (Int × Value)} {k : Int} {v : Value} (h : k ∉ kvs.map (·.1)) : PySem.stored kvs k v = kvs ++ [(k, v)] := by
  unfold PySem.stored
  rw [if_neg]
  intro hc
  rw [List.any_eq_true] at hc
  obtain ⟨p, hp, he⟩ := hc
  exact h (List.mem_map.mpr ⟨p, hp, by simpa using he⟩)
theorem KS.keys {kvs : List (Int × Value)} {l : List (Int × Str)} (h : KS kvs l) : kvs.map (·.1) = l.map (·.1) := by
  induction h with
  | nil => rfl
  | cons k x t _ ih => rw [List.map_cons, List.map_cons, ih]
theorem merged_new : ∀ (kvs acc : List (Int × Value)), ((acc ++ kvs).map (·.1)).Nodup → merged acc kvs = acc ++ kvs
  | [], acc, _ => by simp [merged]
  | (k, v) :: kvs, acc, h => by
    have hk : k ∉ acc.map (·.1) := by
      rw [List.map_append, List.nodup_append] at h
      intro hm
      exact h.2.2 k hm k (by simp) rfl
    have : merged acc ((k, v) :: kvs) = merged (PySem.stored acc k v) kvs := by simp [merged]
    rw [this, stored_new hk, merged_new kvs (acc ++ [(k, v)]) (by rw [List.append_assoc]; exact h), List.append_assoc]
    rfl
theorem E_dictS {es : List (Option Expr)} {vs : List Expr} {pos : Pos} {l : List (Int × Str)} (h : Pairs X k sc Γ es vs l) (h0 : es ≠ []) (hl : es.length ≤ 15) (hn : (l.map (·.1)).Nodup) : Evals X b k sc Γ (.Dict es vs pos) (.dictS l) := by
  intro U W A env s Q E R q
  have a₀ : Aft X.T (UW U W) s.heap (s.heap.push { cls := .type "dict", data := .dict #[] }) := Aft.push R.tab _
  have R₀ := R.after (tk := s.toks) a₀
  have hDu : ¬ UW U W s.heap.objs.size := R.fresh (Nat.le_refl _)
  have hDt : s.heap.objs.size ∉ tabs := fun z => hDu (.inl (R.Ut _ z))
  refine wpAny_Dict_walk (knd := intKind X.prog X.w) h.length.2.2 h.length.2.1 h0 hl (h.run R₀ fun ps kvs h' tk a hc hk => ⟨kvs, hc, ?_, fun h'' hd hs => ?_⟩)
  · exact (Heap.DictOf.new s.heap).at fun o e => a.keep _ _ e hDt
  · rw [merged_new kvs [] (by rw [List.nil_append, hk.keys]; exact hn), List.nil_append] at hd
    have a' := a₀.trans a
    obtain ⟨oD, esD, epD, eD, rD⟩ : h'.DictOf (intKind X.prog X.w) s.heap.objs.size [] := (Heap.DictOf.new s.heap).at fun o e => a.keep _ _ e hDt
    have a'' : Aft X.T (UW U W) s.heap h'' := by
      refine ⟨fun b o e nt => (hs.2 b fun z => absurd (Heap.lt_size e) (Nat.not_lt.mpr (z ▸ Nat.le_refl _))).trans (a'.keep b o e nt), by rw [hs.1]; exact a'.size, a'.tab.same (C := s.heap.objs.size) (fun y hy (z : y.1 = s.heap.objs.size) => hDt (z ▸ X.hT y hy)) (fun qq ⟨c2, oc, us, tq, hc2, hoc, hdc, _⟩ => ?_) hs⟩
      cases hc2
      rw [eD] at hoc; cases hoc
      rw [rD.2.1] at hdc; cases hdc
    exact q _ h'' _ a'' (.inl (.dictS hDu hd hk))
end
end Mine
namespace Mine

noncomputable def code1 : Array Nat := #[14, 4, 0, 1, 1, 6, 1, 16, 46, 1]
noncomputable def code2 : Array Nat := #[14, 9, 4, 1, 2, 16, 10, 16, 13, 0, 7, 7, 16, 13, 16, 10, 15, 18, 5, 16, 10, 15, 13, 11, 16, 13, 5, 5, 0, 16, 10, 1, 15, 2, 0, 1]

/-- a machine comes to an end -/
noncomputable def Ends (m : Sre.M) (r : Option (Nat × Nat)) (n : Nat) : Prop :=
  match r with
  | some (a, b) => (Sre.M.runFor n m).outcome = some .matched ∧ (Sre.M.runFor n m).start = a ∧ (Sre.M.runFor n m).handed = b
  | none => (Sre.M.runFor n m).outcome = some .failed
theorem Ends.step {m : Sre.M} {r : Option (Nat × Nat)} {n : Nat} (h : Ends m.step r n) (ho : m.outcome = none) : Ends m r (n + 1) := by
  have e : Sre.M.runFor (n + 1) m = Sre.M.runFor n m.step := by
    show (if m.outcome.isSome = true then m else _) = _
    rw [ho]; rfl
  unfold Ends at h ⊢
  rw [e]
  exact h
theorem runFor_more {m : Sre.M} (h : m.outcome.isSome = true) : ∀ n, Sre.M.runFor n m = m
  | 0 => rfl
  | n + 1 => by
    show (if m.outcome.isSome = true then m else _) = _
    rw [if_pos h]
theorem runFor_add : ∀ (a b : Nat) (m : Sre.M), Sre.M.runFor (a + b) m = Sre.M.runFor b (Sre.M.runFor a m)
  | 0, b, m => by rw [Nat.zero_add]; rfl
  | a + 1, b, m => by
    rw [Nat.add_right_comm]
    by_cases h : m.outcome.isSome = true
    · rw [runFor_more h, runFor_more h, runFor_more h]
    · show (if m.outcome.isSome = true then m else Sre.M.runFor (a + b) m.step) = Sre.M.runFor b (if m.outcome.isSome = true then m else Sre.M.runFor a m.step)
      rw [if_neg h, if_neg h]
      exact runFor_add a b _

section
variable {text : Array Nat} {lim : Nat}
/-- the machine of the dots' pattern -/
noncomputable abbrev m1 (text : Array Nat) (lim start : Nat) (must : Bool) (pc pos handed : Nat) (om : Bool) (frames : List Sre.Frame) (weight : Nat) (answer : Option Bool) (seen : Sre.Seen) : Sre.M :=
  { code := code1, text, lim, start, lastStart := lim, mustAdvance := must, pc, pos, handed, outermost := om, marks := #[], frames, weight, answer, seen }
noncomputable abbrev f1 (pos : Nat) (om : Bool) : Sre.Frame := { wait := .nextStart, pc := 5, pos, outermost := om }
theorem m1_at {start pos handed weight : Nat} {must om : Bool} {fs : List Sre.Frame} {seen : Sre.Seen} : ∃ seen', (m1 text lim start must 5 pos handed om fs weight none seen).step = if (pos == 0 || text.getD (pos - 1) 0 == 10) = true then m1 text lim start must 7 pos handed om fs weight none seen' else m1 text lim start must 5 pos handed om fs weight (some false) seen' := by
  refine ⟨(seen.add 6).add (43 + 1), ?_⟩
  rfl
theorem m1_lit {start pos handed weight : Nat} {must om : Bool} {fs : List Sre.Frame} {seen : Sre.Seen} (hp : pos < lim) : ∃ seen', (m1 text lim start must 7 pos handed om fs weight none seen).step = if (text.getD pos 0 == 46) = true then m1 text lim start must 9 (pos + 1) handed om fs weight none seen' else m1 text lim start must 7 pos handed om fs weight (some false) seen' := by
  refine ⟨seen.add 16, ?_⟩
  have h1 : (m1 text lim start must 7 pos handed om fs weight none seen).step = (if pos ≥ lim then (m1 text lim start must 7 pos handed om fs weight (some false) (seen.add 16)) else
    match (Except.ok (text.getD pos 0 == 46, seen.add 16) : Except String (Bool × Sre.Seen)) with
    | .error why => (m1 text lim start must 7 pos handed om fs weight none (seen.add 16)).stick why
    | .ok (false, seen) => m1 text lim start must 7 pos handed om fs weight (some false) seen
    | .ok (true, seen) => m1 text lim start must 9 (pos + 1) handed om fs weight none seen) := rfl
  rw [h1, if_neg (by omega)]
  cases text.getD pos 0 == 46 <;> rfl
theorem m1_succ {start pos handed weight : Nat} {must om : Bool} {fs : List Sre.Frame} {seen : Sre.Seen} (hp : start < pos) : ∃ seen', (m1 text lim start must 9 pos handed om fs weight none seen).step = m1 text lim start must 9 pos pos om fs weight (some true) seen' := by
  refine ⟨seen.add 1, ?_⟩
  have h1 : (m1 text lim start must 9 pos handed om fs weight none seen).step = (if (om && ((false && pos != lim) || (must && pos == start))) = true then m1 text lim start must 9 pos handed om fs weight (some false) (seen.add 1) else m1 text lim start must 9 pos pos om fs weight (some true) (seen.add 1)) := rfl
  rw [h1, show (pos == start) = false from by rw [beq_eq_false_iff_ne]; omega]
  simp
theorem m1_yes {start pc pos handed weight p : Nat} {must om om' : Bool} {seen : Sre.Seen} : (m1 text lim start must pc pos handed om [f1 p om'] weight (some true) seen).step = m1 text lim start must 5 p handed om' [] (weight - 1) (some true) seen := rfl
theorem m1_end {start pc pos handed weight : Nat} {must om : Bool} {seen : Sre.Seen} : (m1 text lim start must pc pos handed om [] weight (some true) seen).step = { m1 text lim start must pc pos handed om [] weight (some true) seen with outcome := some .matched } := rfl
theorem m1_endF {start pc pos handed weight : Nat} {must om : Bool} {seen : Sre.Seen} : (m1 text lim start must pc pos handed om [] weight (some false) seen).step = { m1 text lim start must pc pos handed om [] weight (some false) seen with outcome := some .failed } := rfl
theorem m1_no {start pc pos handed p : Nat} {must om om' : Bool} {seen : Sre.Seen} : (m1 text lim start must pc pos handed om [f1 p om'] 1 (some false) seen).step = if p < lim then m1 text lim (p + 1) false 5 (p + 1) (p + 1) false [f1 (p + 1) false] 1 none seen else m1 text lim start must 5 p handed om' [] 0 (some false) seen := by
  by_cases h : p < lim
  · rw [if_pos h]
    have h1 : (m1 text lim start must pc pos handed om [f1 p om'] 1 (some false) seen).step = (if p < lim then m1 text lim (p + 1) false 5 (p + 1) (p + 1) false [f1 (p + 1) false] 1 none seen else m1 text lim start must 5 p handed om' [] 0 (some false) seen) := rfl
    rw [h1, if_pos h]
  · rw [if_neg h]
    have h1 : (m1 text lim start must pc pos handed om [f1 p om'] 1 (some false) seen).step = (if p < lim then m1 text lim (p + 1) false 5 (p + 1) (p + 1) false [f1 (p + 1) false] 1 none seen else m1 text lim start must 5 p handed om' [] 0 (some false) seen) := rfl
    rw [h1, if_neg h]

/-- the next dot at a line's start -/
noncomputable def dotAt (text : Array Nat) (p : Nat) : Bool := (p == 0 || text.getD (p - 1) 0 == 10) && text.getD p 0 == 46
noncomputable def nextDot (text : Array Nat) (lim : Nat) : Nat → Nat → Option (Nat × Nat)
  | 0, _ => none
  | f + 1, p => if p < lim then (if dotAt text p then some (p, p + 1) else nextDot text lim f (p + 1)) else none
theorem Ends.more {m : Sre.M} {r : Option (Nat × Nat)} {a b : Nat} (h : Ends m r a) (hab : a ≤ b) : Ends m r b := by
  obtain ⟨c, rfl⟩ := Nat.exists_eq_add_of_le hab
  unfold Ends at h ⊢
  rw [runFor_add]
  cases r with
  | none =>
    simp only at h ⊢
    rw [runFor_more (by rw [h]; rfl)]; exact h
  | some p =>
    simp only at h ⊢
    rw [runFor_more (by rw [h.1]; rfl)]; exact h
theorem m1_run : ∀ (f p : Nat) (handed : Nat) (must om : Bool) (seen : Sre.Seen), lim - p < f → Ends (m1 text lim p must 5 p handed om [f1 p om] 1 none seen) (nextDot text lim f p) (5 * f)
  | 0, p, _, _, _, _, h => absurd h (Nat.not_lt_zero _)
  | f + 1, p, handed, must, om, seen, h => by
    -- the turn's end without a match
    have no : ∀ {pc pos : Nat} {seen : Sre.Seen}, (p < lim → Ends (m1 text lim (p + 1) false 5 (p + 1) (p + 1) false [f1 (p + 1) false] 1 none seen) (nextDot text lim f (p + 1)) (5 * f)) →
        Ends (m1 text lim p must pc pos handed om [f1 p om] 1 (some false) seen) (if p < lim then nextDot text lim f (p + 1) else none) (5 * f + 2) := by
      intro pc pos seen ih
      by_cases hp : p < lim
      · rw [if_pos hp]
        have := Ends.step (m := m1 text lim p must pc pos handed om [f1 p om] 1 (some false) seen) (r := nextDot text lim f (p + 1)) (n := 5 * f) (by rw [m1_no, if_pos hp]; exact ih hp) rfl
        exact this.more (by omega)
      · rw [if_neg hp]
        have : Ends (m1 text lim p must pc pos handed om [f1 p om] 1 (some false) seen) none 2 := by
          refine Ends.step ?_ rfl
          rw [m1_no, if_neg hp]
          refine Ends.step ?_ rfl
          rw [m1_endF]
          rfl
        exact this.more (by omega)
    have ih : ∀ {seen : Sre.Seen}, p < lim → Ends (m1 text lim (p + 1) false 5 (p + 1) (p + 1) false [f1 (p + 1) false] 1 none seen) (nextDot text lim f (p + 1)) (5 * f) := fun hp => m1_run f (p + 1) _ _ _ _ (by omega)
    obtain ⟨s1, e1⟩ := m1_at (text := text) (lim := lim) (start := p) (pos := p) (handed := handed) (weight := 1) (must := must) (om := om) (fs := [f1 p om]) (seen := seen)
    by_cases hl : (p == 0 || text.getD (p - 1) 0 == 10) = true
    · by_cases hp : p < lim
      · obtain ⟨s2, e2⟩ := m1_lit (text := text) (lim := lim) (start := p) (pos := p) (handed := handed) (weight := 1) (must := must) (om := om) (fs := [f1 p om]) (seen := s1) hp
        by_cases hd : (text.getD p 0 == 46) = true
        · have hn : nextDot text lim (f + 1) p = some (p, p + 1) := by
            show (if p < lim then (if dotAt text p then some (p, p + 1) else _) else none) = _
            rw [if_pos hp, if_pos (by unfold dotAt; rw [hl, hd]; rfl)]
          rw [hn]
          obtain ⟨s3, e3⟩ := m1_succ (text := text) (lim := lim) (start := p) (pos := p + 1) (handed := handed) (weight := 1) (must := must) (om := om) (fs := [f1 p om]) (seen := s2) (by omega)
          have : Ends (m1 text lim p must 5 p handed om [f1 p om] 1 none seen) (some (p, p + 1)) 5 := by
            refine Ends.step (n := 4) ?_ rfl
            rw [e1, if_pos hl]
            refine Ends.step (n := 3) ?_ rfl
            rw [e2, if_pos hd]
            refine Ends.step (n := 2) ?_ rfl
            rw [e3]
            refine Ends.step (n := 1) ?_ rfl
            rw [m1_yes]
            refine Ends.step (n := 0) ?_ rfl
            rw [m1_end]
            exact ⟨rfl, rfl, rfl⟩
          exact this.more (by omega)
        · have hn : nextDot text lim (f + 1) p = if p < lim then nextDot text lim f (p + 1) else none := by
            show (if p < lim then (if dotAt text p then some (p, p + 1) else _) else none) = _
            rw [if_pos hp, if_pos hp, if_neg (by unfold dotAt; simp at hd; simp [hd])]
          rw [hn]
          have : Ends (m1 text lim p must 5 p handed om [f1 p om] 1 none seen) (if p < lim then nextDot text lim f (p + 1) else none) (5 * f + 2 + 1 + 1) := by
            refine Ends.step ?_ rfl
            rw [e1, if_pos hl]
            refine Ends.step ?_ rfl
            rw [e2, if_neg hd]
            exact no ih
          exact this.more (by omega)
      · have hn : nextDot text lim (f + 1) p = if p < lim then nextDot text lim f (p + 1) else none := by
          show (if p < lim then (if dotAt text p then some (p, p + 1) else _) else none) = _
          rw [if_neg hp, if_neg hp]
        rw [hn]
        have e2 : (m1 text lim p must 7 p handed om [f1 p om] 1 none s1).step = m1 text lim p must 7 p handed om [f1 p om] 1 (some false) (s1.add 16) := by
          have h1 : (m1 text lim p must 7 p handed om [f1 p om] 1 none s1).step = (if p ≥ lim then (m1 text lim p must 7 p handed om [f1 p om] 1 (some false) (s1.add 16)) else
            match (Except.ok (text.getD p 0 == 46, s1.add 16) : Except String (Bool × Sre.Seen)) with
            | .error why => (m1 text lim p must 7 p handed om [f1 p om] 1 none (s1.add 16)).stick why
            | .ok (false, seen) => m1 text lim p must 7 p handed om [f1 p om] 1 (some false) seen
            | .ok (true, seen) => m1 text lim p must 9 (p + 1) handed om [f1 p om] 1 none seen) := rfl
          rw [h1, if_pos (by omega)]
        have : Ends (m1 text lim p must 5 p handed om [f1 p om] 1 none seen) (if p < lim then nextDot text lim f (p + 1) else none) (5 * f + 2 + 1 + 1) := by
          refine Ends.step ?_ rfl
          rw [e1, if_pos hl]
          refine Ends.step ?_ rfl
          rw [e2]
          exact no ih
        exact this.more (by omega)
    · have hn : nextDot text lim (f + 1) p = if p < lim then nextDot text lim f (p + 1) else none := by
        show (if p < lim then (if dotAt text p then some (p, p + 1) else _) else none) = _
        by_cases hp : p < lim
        · rw [if_pos hp, if_pos hp, if_neg (by unfold dotAt; rw [Bool.not_eq_true] at hl; rw [hl]; simp)]
        · rw [if_neg hp, if_neg hp]
      rw [hn]
      have : Ends (m1 text lim p must 5 p handed om [f1 p om] 1 none seen) (if p < lim then nextDot text lim f (p + 1) else none) (5 * f + 2 + 1) := by
        refine Ends.step ?_ rfl
        rw [e1, if_neg hl]
        exact no ih
      exact this.more (by omega)
theorem search1 {start : Nat} {must : Bool} : Ends (Sre.forSearch code1 text 0 start lim must) (nextDot text lim (lim - start + 1) start) (5 * (lim - start + 1)) := by
  have h1 : Sre.forSearch code1 text 0 start lim must = (if (decide (start > lim) || decide (lim - start < 1)) = true then { m1 text lim start must 5 start start true [] 0 (some false) (({} : Sre.Seen).add 14) with lastStart := 0 } else m1 text lim start must 5 start start true [f1 start true] 1 none (({} : Sre.Seen).add 14)) := rfl
  rw [h1]
  by_cases h : lim - start < 1
  · rw [if_pos (by simp [h])]
    have : nextDot text lim (lim - start + 1) start = none := by
      show (if start < lim then _ else none) = none
      rw [if_neg (by omega)]
    rw [this]
    have : Ends { m1 text lim start must 5 start start true [] 0 (some false) (({} : Sre.Seen).add 14) with lastStart := 0 } none 1 := rfl
    exact this.more (by omega)
  · rw [if_neg (by simp; omega)]
    exact m1_run _ _ _ _ _ _ (by omega)
end
end Mine
namespace Mine

section
variable {text : Array Nat} {lim : Nat}
/-- the machine of the line ends' pattern -/
noncomputable abbrev m2 (text : Array Nat) (lim start pc pos handed : Nat) (om : Bool) (frames : List Sre.Frame) (weight : Nat) (answer : Option Bool) (seen : Sre.Seen) : Sre.M :=
  { code := code2, text, lim, start, lastStart := lim, mustAdvance := false, pc, pos, handed, outermost := om, marks := #[], frames, weight, answer, seen }
noncomputable abbrev g0 (pos : Nat) : Sre.Frame := { wait := .nextStart, pc := 10, pos, outermost := true }
noncomputable abbrev gB (pc pos : Nat) : Sre.Frame := { wait := .nextBranch, pc, pos, outermost := true }
noncomputable abbrev gL (pos : Nat) : Sre.Frame := { wait := .lookNot, pc := 26, pos, outermost := true }
section
variable {start pos handed weight : Nat} {om : Bool} {fs : List Sre.Frame} {seen : Sre.Seen}
theorem m2_l12 : (m2 text lim start 12 pos handed om fs weight none seen).step = if (decide (pos < lim) && text.getD pos 0 == 13) = true then m2 text lim start 14 (pos + 1) handed om fs weight none (seen.add 16) else m2 text lim start 12 pos handed om fs weight (some false) (seen.add 16) := by
  have h1 : (m2 text lim start 12 pos handed om fs weight none seen).step = (if pos ≥ lim then m2 text lim start 12 pos handed om fs weight (some false) (seen.add 16) else
    match (Except.ok (text.getD pos 0 == 13, seen.add 16) : Except String (Bool × Sre.Seen)) with
    | .error why => (m2 text lim start 12 pos handed om fs weight none (seen.add 16)).stick why
    | .ok (false, seen) => m2 text lim start 12 pos handed om fs weight (some false) seen
    | .ok (true, seen) => m2 text lim start 14 (pos + 1) handed om fs weight none seen) := rfl
  rw [h1]
  by_cases h : pos < lim
  · rw [if_neg (by omega), decide_eq_true h, Bool.true_and]
    cases text.getD pos 0 == 13 <;> rfl
  · rw [if_pos (by omega), decide_eq_false h, Bool.false_and]
    rfl
theorem m2_l14 : (m2 text lim start 14 pos handed om fs weight none seen).step = if (decide (pos < lim) && text.getD pos 0 == 10) = true then m2 text lim start 16 (pos + 1) handed om fs weight none (seen.add 16) else m2 text lim start 14 pos handed om fs weight (some false) (seen.add 16) := by
  have h1 : (m2 text lim start 14 pos handed om fs weight none seen).step = (if pos ≥ lim then m2 text lim start 14 pos handed om fs weight (some false) (seen.add 16) else
    match (Except.ok (text.getD pos 0 == 10, seen.add 16) : Except String (Bool × Sre.Seen)) with
    | .error why => (m2 text lim start 14 pos handed om fs weight none (seen.add 16)).stick why
    | .ok (false, seen) => m2 text lim start 14 pos handed om fs weight (some false) seen
    | .ok (true, seen) => m2 text lim start 16 (pos + 1) handed om fs weight none seen) := rfl
  rw [h1]
  by_cases h : pos < lim
  · rw [if_neg (by omega), decide_eq_true h, Bool.true_and]
    cases text.getD pos 0 == 10 <;> rfl
  · rw [if_pos (by omega), decide_eq_false h, Bool.false_and]
    rfl
theorem m2_l19 : (m2 text lim start 19 pos handed om fs weight none seen).step = if (decide (pos < lim) && text.getD pos 0 == 10) = true then m2 text lim start 21 (pos + 1) handed om fs weight none (seen.add 16) else m2 text lim start 19 pos handed om fs weight (some false) (seen.add 16) := by
  have h1 : (m2 text lim start 19 pos handed om fs weight none seen).step = (if pos ≥ lim then m2 text lim start 19 pos handed om fs weight (some false) (seen.add 16) else
    match (Except.ok (text.getD pos 0 == 10, seen.add 16) : Except String (Bool × Sre.Seen)) with
    | .error why => (m2 text lim start 19 pos handed om fs weight none (seen.add 16)).stick why
    | .ok (false, seen) => m2 text lim start 19 pos handed om fs weight (some false) seen
    | .ok (true, seen) => m2 text lim start 21 (pos + 1) handed om fs weight none seen) := rfl
  rw [h1]
  by_cases h : pos < lim
  · rw [if_neg (by omega), decide_eq_true h, Bool.true_and]
    cases text.getD pos 0 == 10 <;> rfl
  · rw [if_pos (by omega), decide_eq_false h, Bool.false_and]
    rfl
theorem m2_l24 : (m2 text lim start 24 pos handed om fs weight none seen).step = if (decide (pos < lim) && text.getD pos 0 == 13) = true then m2 text lim start 26 (pos + 1) handed om fs weight none (seen.add 16) else m2 text lim start 24 pos handed om fs weight (some false) (seen.add 16) := by
  have h1 : (m2 text lim start 24 pos handed om fs weight none seen).step = (if pos ≥ lim then m2 text lim start 24 pos handed om fs weight (some false) (seen.add 16) else
    match (Except.ok (text.getD pos 0 == 13, seen.add 16) : Except String (Bool × Sre.Seen)) with
    | .error why => (m2 text lim start 24 pos handed om fs weight none (seen.add 16)).stick why
    | .ok (false, seen) => m2 text lim start 24 pos handed om fs weight (some false) seen
    | .ok (true, seen) => m2 text lim start 26 (pos + 1) handed om fs weight none seen) := rfl
  rw [h1]
  by_cases h : pos < lim
  · rw [if_neg (by omega), decide_eq_true h, Bool.true_and]
    cases text.getD pos 0 == 13 <;> rfl
  · rw [if_pos (by omega), decide_eq_false h, Bool.false_and]
    rfl
theorem m2_l29 : (m2 text lim start 29 pos handed om fs weight none seen).step = if (decide (pos < lim) && text.getD pos 0 == 10) = true then m2 text lim start 31 (pos + 1) handed om fs weight none (seen.add 16) else m2 text lim start 29 pos handed om fs weight (some false) (seen.add 16) := by
  have h1 : (m2 text lim start 29 pos handed om fs weight none seen).step = (if pos ≥ lim then m2 text lim start 29 pos handed om fs weight (some false) (seen.add 16) else
    match (Except.ok (text.getD pos 0 == 10, seen.add 16) : Except String (Bool × Sre.Seen)) with
    | .error why => (m2 text lim start 29 pos handed om fs weight none (seen.add 16)).stick why
    | .ok (false, seen) => m2 text lim start 29 pos handed om fs weight (some false) seen
    | .ok (true, seen) => m2 text lim start 31 (pos + 1) handed om fs weight none seen) := rfl
  rw [h1]
  by_cases h : pos < lim
  · rw [if_neg (by omega), decide_eq_true h, Bool.true_and]
    cases text.getD pos 0 == 10 <;> rfl
  · rw [if_pos (by omega), decide_eq_false h, Bool.false_and]
    rfl
theorem m2_br : (m2 text lim start 10 pos handed true [g0 pos] 1 none seen).step = m2 text lim start 12 pos pos true [gB 11 pos, g0 pos] 2 none (seen.add 7) := rfl
theorem m2_j16 : (m2 text lim start 16 pos handed om fs weight none seen).step = m2 text lim start 35 pos handed om fs weight none (seen.add 15) := rfl
theorem m2_j21 : (m2 text lim start 21 pos handed om fs weight none seen).step = m2 text lim start 35 pos handed om fs weight none (seen.add 15) := rfl
theorem m2_j32 : (m2 text lim start 32 pos handed om fs weight none seen).step = m2 text lim start 35 pos handed om fs weight none (seen.add 15) := rfl
theorem m2_succ : (m2 text lim start 35 pos handed true fs weight none seen).step = m2 text lim start 35 pos pos true fs weight (some true) (seen.add 1) := rfl
theorem m2_b11 {p q : Nat} : (m2 text lim start q pos handed true [gB 11 p, g0 p] 2 (some false) seen).step = m2 text lim start 19 p p true [gB 18 p, g0 p] 2 none seen := rfl
theorem m2_b18 {p q : Nat} : (m2 text lim start q pos handed true [gB 18 p, g0 p] 2 (some false) seen).step = m2 text lim start 24 p p true [gB 23 p, g0 p] 2 none seen := rfl
theorem m2_as {p : Nat} : (m2 text lim start 26 pos handed true [gB 23 p, g0 p] 2 none seen).step = m2 text lim start 29 pos pos false [gL pos, gB 23 p, g0 p] 3 none (seen.add 5) := rfl
theorem m2_look {p q r : Nat} : (m2 text lim start r pos handed false [gL q, gB 23 p, g0 p] 3 (some false) seen).step = m2 text lim start 32 q handed true [gB 23 p, g0 p] 2 none seen := rfl
theorem m2_yB {p q r : Nat} : (m2 text lim start r pos handed om [gB q p, g0 p] 2 (some true) seen).step = m2 text lim start q p handed true [g0 p] 1 (some true) seen := rfl
theorem m2_y0 {p r : Nat} : (m2 text lim start r pos handed om [g0 p] 1 (some true) seen).step = m2 text lim start 10 p handed true [] 0 (some true) seen := rfl
theorem m2_end {r : Nat} : (m2 text lim start r pos handed om [] 0 (some true) seen).step = { m2 text lim start r pos handed om [] 0 (some true) seen with outcome := some .matched } := rfl
end

theorem m2_fin {p q r e handed : Nat} {seen : Sre.Seen} : Ends (m2 text lim p 35 e handed true [gB q p, g0 p] 2 none seen) (some (p, e)) 4 := by
  refine Ends.step (n := 3) ?_ rfl
  rw [m2_succ]
  refine Ends.step (n := 2) ?_ rfl
  rw [m2_yB]
  refine Ends.step (n := 1) ?_ rfl
  rw [m2_y0]
  refine Ends.step (n := 0) ?_ rfl
  rw [m2_end]
  exact ⟨rfl, rfl, rfl⟩
/-- how far a line's end goes -/
noncomputable def nlEnd (text : Array Nat) (lim p : Nat) : Nat := if (text.getD p 0 == 13 && (decide (p + 1 < lim) && text.getD (p + 1) 0 == 10)) = true then p + 2 else p + 1
theorem m2_here {p handed : Nat} {seen : Sre.Seen} (hp : p < lim) (hc : (text.getD p 0 == 10 || text.getD p 0 == 13) = true) : Ends (m2 text lim p 10 p handed true [g0 p] 1 none seen) (some (p, nlEnd text lim p)) 16 := by
  by_cases h13 : (text.getD p 0 == 13) = true
  · have hne : (text.getD p 0 == 10) = false := by
      rw [beq_iff_eq] at h13; rw [h13]; rfl
    by_cases h10 : (decide (p + 1 < lim) && text.getD (p + 1) 0 == 10) = true
    · have he : nlEnd text lim p = p + 2 := by unfold nlEnd; rw [if_pos (by rw [h13, h10]; rfl)]
      rw [he]
      have : Ends (m2 text lim p 10 p handed true [g0 p] 1 none seen) (some (p, p + 2)) 8 := by
        refine Ends.step (n := 7) ?_ rfl
        rw [m2_br]
        refine Ends.step (n := 6) ?_ rfl
        rw [m2_l12, if_pos (by rw [h13, decide_eq_true hp]; rfl)]
        refine Ends.step (n := 5) ?_ rfl
        rw [m2_l14, if_pos h10]
        refine Ends.step (n := 4) ?_ rfl
        rw [m2_j16]
        exact m2_fin (r := 0)
      exact this.more (by omega)
    · have he : nlEnd text lim p = p + 1 := by unfold nlEnd; rw [if_neg (by rw [h13]; simpa using h10)]
      rw [he]
      have : Ends (m2 text lim p 10 p handed true [g0 p] 1 none seen) (some (p, p + 1)) 15 := by
        refine Ends.step (n := 14) ?_ rfl
        rw [m2_br]
        refine Ends.step (n := 13) ?_ rfl
        rw [m2_l12, if_pos (by rw [h13, decide_eq_true hp]; rfl)]
        refine Ends.step (n := 12) ?_ rfl
        rw [m2_l14, if_neg h10]
        refine Ends.step (n := 11) ?_ rfl
        rw [m2_b11]
        refine Ends.step (n := 10) ?_ rfl
        rw [m2_l19, if_neg (by rw [hne]; simp)]
        refine Ends.step (n := 9) ?_ rfl
        rw [m2_b18]
        refine Ends.step (n := 8) ?_ rfl
        rw [m2_l24, if_pos (by rw [h13, decide_eq_true hp]; rfl)]
        refine Ends.step (n := 7) ?_ rfl
        rw [m2_as]
        refine Ends.step (n := 6) ?_ rfl
        rw [m2_l29, if_neg h10]
        refine Ends.step (n := 5) ?_ rfl
        rw [m2_look]
        refine Ends.step (n := 4) ?_ rfl
        rw [m2_j32]
        exact m2_fin (r := 0)
      exact this.more (by omega)
  · have h10 : (text.getD p 0 == 10) = true := by
      rw [Bool.or_eq_true] at hc
      exact hc.resolve_right h13
    have he : nlEnd text lim p = p + 1 := by unfold nlEnd; rw [if_neg (by rw [Bool.not_eq_true] at h13; rw [h13]; simp)]
    rw [he]
    have : Ends (m2 text lim p 10 p handed true [g0 p] 1 none seen) (some (p, p + 1)) 9 := by
      refine Ends.step (n := 8) ?_ rfl
      rw [m2_br]
      refine Ends.step (n := 7) ?_ rfl
      rw [m2_l12, if_neg (by rw [Bool.not_eq_true] at h13; rw [h13]; simp)]
      refine Ends.step (n := 6) ?_ rfl
      rw [m2_b11]
      refine Ends.step (n := 5) ?_ rfl
      rw [m2_l19, if_pos (by rw [h10, decide_eq_true hp]; rfl)]
      refine Ends.step (n := 4) ?_ rfl
      rw [m2_j21]
      exact m2_fin (r := 0)
    exact this.more (by omega)

/-- the next end of a line -/
noncomputable def nextNl (text : Array Nat) (lim : Nat) : Nat → Nat → Option (Nat × Nat)
  | 0, _ => none
  | f + 1, p => if p < lim then (if (text.getD p 0 == 10 || text.getD p 0 == 13) = true then some (p, nlEnd text lim p) else nextNl text lim f (p + 1)) else none
theorem in2 {c : Nat} {seen : Sre.Seen} : ∃ seen', Sre.inSet code2 c 36 5 true seen = .ok (c == 10 || c == 13, seen') := by
  have h : Sre.inSet code2 c 36 5 true seen = (if (c == 10) = true then .ok (true, seen.add 16) else if (c == 13) = true then .ok (true, (seen.add 16).add 16) else .ok (false, ((seen.add 16).add 16).add 0)) := rfl
  rw [h]
  cases c == 10
  · cases c == 13
    · exact ⟨_, rfl⟩
    · exact ⟨_, rfl⟩
  · exact ⟨_, rfl⟩
theorem adm2 {m : Sre.M} (hc : m.code = code2) (ht : m.text = text) (hl : m.lim = lim) : ∀ (f p : Nat) (seen : Sre.Seen), lim - p < f → ∃ seen', Sre.M.admitted m f p seen = .ok ((nextNl text lim f p).map (·.1), seen')
  | 0, p, seen, h => absurd h (Nat.not_lt_zero _)
  | f + 1, p, seen, h => by
    show ∃ seen', (if p ≥ m.lim then .ok (none, seen) else
      match Sre.inSet m.code (m.text.getD p 0) m.code.size 5 true seen with
      | .ok (true, seen) => .ok (some p, seen)
      | .ok (false, seen) => Sre.M.admitted m f (p + 1) seen
      | .error why => .error why : Except String (Option Nat × Sre.Seen)) = .ok ((if p < lim then (if (text.getD p 0 == 10 || text.getD p 0 == 13) = true then some (p, nlEnd text lim p) else nextNl text lim f (p + 1)) else none).map (·.1), seen')
    rw [hc, ht, hl]
    by_cases hp : p < lim
    · rw [if_neg (by omega), if_pos hp]
      obtain ⟨s1, e1⟩ := in2 (c := text.getD p 0) (seen := seen)
      rw [show code2.size = 36 from rfl, e1]
      cases hcc : (text.getD p 0 == 10 || text.getD p 0 == 13) with
      | true => exact ⟨s1, rfl⟩
      | false => exact adm2 hc ht hl f (p + 1) s1 (by omega)
    · rw [if_pos (by omega), if_neg hp]
      exact ⟨seen, rfl⟩
theorem nextNl_at : ∀ (f p : Nat) {a b : Nat}, nextNl text lim f p = some (a, b) → p ≤ a ∧ a < lim ∧ (text.getD a 0 == 10 || text.getD a 0 == 13) = true ∧ b = nlEnd text lim a
  | 0, _, _, _, h => by cases h
  | f + 1, p, a, b, h => by
    unfold nextNl at h
    split at h
    · split at h
      · cases h
        exact ⟨Nat.le_refl _, by assumption, by assumption, rfl⟩
      · obtain ⟨h1, h2⟩ := nextNl_at f (p + 1) h
        exact ⟨by omega, h2⟩
    · cases h
theorem search2 {start : Nat} {must : Bool} : Ends (Sre.forSearch code2 text 0 start lim must) (nextNl text lim (lim + 1 - start) start) 16 := by
  by_cases h : lim - start < 1
  · have h1 : ∃ m : Sre.M, Sre.forSearch code2 text 0 start lim must = (if (decide (start > lim) || decide (lim - start < 1)) = true then { (({ code := code2, text, lim, start, pc := 10, pos := start, handed := start, marks := #[], mustAdvance := must, seen := ({} : Sre.Seen).add 14 } : Sre.M)) with answer := some false } else m) := ⟨_, rfl⟩
    obtain ⟨m, h1⟩ := h1
    rw [h1, if_pos (by simp [h])]
    have : nextNl text lim (lim + 1 - start) start = none := by
      cases hf : lim + 1 - start with
      | zero => rfl
      | succ f =>
        show (if start < lim then _ else none) = none
        rw [if_neg (by omega)]
    rw [this]
    have : Ends { (({ code := code2, text, lim, start, pc := 10, pos := start, handed := start, marks := #[], mustAdvance := must, seen := ({} : Sre.Seen).add 14 } : Sre.M)) with answer := some false } none 1 := rfl
    exact this.more (by omega)
  · let M0 : Sre.M := { code := code2, text, lim, start, lastStart := lim, pc := 10, pos := start, handed := start, marks := #[], mustAdvance := must, seen := ({} : Sre.Seen).add 14 }
    have h1 : Sre.forSearch code2 text 0 start lim must = (if (decide (start > lim) || decide (lim - start < 1)) = true then { (({ code := code2, text, lim, start, pc := 10, pos := start, handed := start, marks := #[], mustAdvance := must, seen := ({} : Sre.Seen).add 14 } : Sre.M)) with answer := some false } else
      match Sre.M.admitted M0 (lim + 1 - start) start (({} : Sre.Seen).add 14) with
      | .ok (some s, seen) => m2 text lim s 10 s s true [g0 s] 1 none seen
      | .ok (none, seen) => { M0 with seen := seen, answer := some false }
      | .error why => M0.stick why) := rfl
    rw [h1, if_neg (by simp; omega)]
    obtain ⟨s1, e1⟩ := adm2 (m := M0) (text := text) (lim := lim) rfl rfl rfl (lim + 1 - start) start (({} : Sre.Seen).add 14) (by omega)
    rw [e1]
    cases hn : nextNl text lim (lim + 1 - start) start with
    | none =>
      have : Ends { M0 with seen := s1, answer := some false } none 1 := rfl
      exact this.more (by omega)
    | some ab =>
      obtain ⟨a, b⟩ := ab
      obtain ⟨g1, g2, g3, rfl⟩ := nextNl_at _ _ hn
      exact m2_here g2 g3
end
end Mine
namespace Mine

theorem slot_re_sub : PySem.Slot "re.Pattern" ("sub" : Str) "re.Pattern.sub" :=
  .of (owner := "re.Pattern") (n := "sub") (by rw [typeLookup_type, builtinLookup_eq_fast]; kernel_rfl) (by decide +kernel) (by decide +kernel) (by decide +kernel)
    (by first | exact .inl (by decide +kernel) | exact .inr (by decide +kernel)) (by rw [isSubtype_type]; kernel_rfl)
theorem entry_re_sub : entryFor table "re.Pattern.sub" = some Builtin.«re.Pattern.sub» := entryFor_of_tree (by kernel_rfl)
theorem entry_re_loop : entryFor table "re.Pattern.sub.loop" = some Builtin.«re.Pattern.sub.loop» := entryFor_of_tree (by kernel_rfl)
theorem plain_re_loop : plainId "re.Pattern.sub.loop" = true := by decide +kernel
theorem args_re_sub (a b c : Value) : argsOk "re.Pattern.sub" ⟨[a, b, c], []⟩ := by unfold argsOk; kernel_rfl
theorem type_re_sub : typeOf (.builtin "re.Pattern.sub") = pure (.type "method_descriptor") := by show builtinType _ = _; rw [builtinType_eq_fast]; kernel_rfl

theorem named3 (a b : Value) : Builtin.Re.reNamed "re.Pattern.sub" "sub" ["repl", "string", "count"] 2 [a, b] [] = pure [some a, some b, none] := by rfl

section
variable {prog : Program} {w : World} {A : Around} {E : Value → Shared → Prop} {s : Shared}
theorem wpAny_tell {seen : Sre.Seen} {Q : PUnit → Shared → Prop} (q : Q ⟨⟩ s) : ∀ l : List Nat, wpAny (model prog w) A (forIn l PUnit.unit fun i (_ : PUnit) => (do if seen.has i = true then do rule (Sre.names.getD i ""); pure (ForInStep.yield PUnit.unit) else pure (ForInStep.yield PUnit.unit) : Sem (ForInStep PUnit))) Q E s
  | [] => by rw [List.forIn_nil]; exact wpAny_pure q
  | i :: l => by
    rw [List.forIn_cons]
    refine wpAny_bind ?_
    by_cases h : seen.has i = true
    · rw [if_pos h]
      exact wpAny_bind (wpAny_rule (wpAny_pure (wpAny_tell q l)))
    · rw [if_neg h]
      exact wpAny_pure (wpAny_tell q l)
theorem drive : ∀ (turns n : Nat) (m : Sre.M) {Q : Sre.M → Shared → Prop}, n ≤ 4 * turns → 0 < turns → (Sre.M.runFor n m).outcome.isSome = true → Q (Sre.M.runFor n m) s → wpAny (model prog w) A (Builtin.Re.reDrive turns m) Q E s
  | 0, n, m, Q, _, h0, _, _ => absurd h0 (by decide)
  | turns + 1, n, m, Q, hn, _, ho, q => by
    show wpAny _ _ (if (Sre.M.runFor 4 m).outcome.isSome = true then pure (Sre.M.runFor 4 m) else do rule "sre.turn"; Builtin.Re.reDrive turns (Sre.M.runFor 4 m)) _ _ _
    by_cases h : (Sre.M.runFor 4 m).outcome.isSome = true
    · rw [if_pos h]
      have : Sre.M.runFor n m = Sre.M.runFor 4 m := by
        rcases Nat.le_total n 4 with hle | hle
        · obtain ⟨c, hc⟩ := Nat.exists_eq_add_of_le hle
          rw [hc, runFor_add, runFor_more ho]
        · obtain ⟨c, hc⟩ := Nat.exists_eq_add_of_le hle
          rw [hc, runFor_add, runFor_more h]
      rw [← this]
      exact wpAny_pure q
    · rw [if_neg h]
      have h4 : 4 < n := by
        refine Nat.not_le.mp fun hle => h ?_
        obtain ⟨c, hc⟩ := Nat.exists_eq_add_of_le hle
        rw [hc, runFor_add, runFor_more ho]; exact ho
      obtain ⟨c, rfl⟩ := Nat.exists_eq_add_of_le (Nat.le_of_lt h4)
      rw [runFor_add] at ho q
      exact wpAny_bind (wpAny_rule (drive turns c _ (by omega) (by omega) ho q))
theorem run_end {m : Sre.M} {r : Option (Nat × Nat)} {n : Nat} {Q : Option Sre.M → Shared → Prop} (h : Ends m r n) (hn : n ≤ 2 ^ 20)
    (q : match r with | some (a, b) => ∀ m', m'.start = a → m'.handed = b → Q (some m') s | none => Q none s) : wpAny (model prog w) A (Builtin.Re.reRunToEnd m) Q E s := by
  unfold Builtin.Re.reRunToEnd
  have ho : (Sre.M.runFor n m).outcome.isSome = true := by
    unfold Ends at h
    cases r with
    | none => rw [h]; rfl
    | some p => rw [h.1]; rfl
  refine wpAny_bind (drive (2 ^ 64) n m (by omega) (by decide) ho ?_)
  refine wpAny_bind ?_
  first
    | refine wpAny_tell ?_ _
    | skip
  unfold Ends at h
  cases r with
  | none =>
    rw [h]
    exact wpAny_pure q
  | some p =>
    rw [h.1]
    exact wpAny_pure (q _ h.2.1 h.2.2)
end
end Mine
namespace Mine

structure PatAt (h : Heap) (a : Addr) (code : Array Nat) : Prop where
  at_ : ∃ sl p0 fl, ∃ (ct : Addr) (vs : List Value) (n : Nat), h.get? a = some ⟨.type "re.Pattern", none, .fields #[p0, fl, rawInt 0, .none, .none, .ref ct, rawInt 0], sl⟩ ∧ h.get? ct = some (TObj vs n) ∧ (vs.toArray.map Builtin.Re.reRawOf).map (·.toNat) = code

section
variable {prog : Program} {w : World} {A : Around} {E : Value → Shared → Prop} {s : Shared} {a : Addr} {code : Array Nat}
theorem PatAt.keeps {h h' : Heap} (P : PatAt h a code) (hk : ∀ b o, h.get? b = some o → h'.get? b = some o) : PatAt h' a code := by
  obtain ⟨sl, p0, fl, ct, vs, n, e1, e2, e3⟩ := P.at_
  exact ⟨sl, p0, fl, ct, vs, n, hk _ _ e1, hk _ _ e2, e3⟩
theorem whole_target {x : Str} {t : Tok} {Q : Builtin.Re.ReTarget → Shared → Prop} (P : PatAt s.heap a code) (q : Q ⟨.ref a, .str x t, code, x.cps, 0, 0, 0, x.cps.size⟩ s) : wpAny (model prog w) A (Builtin.Re.reWholeTarget (.ref a) (.str x t)) Q E s := by
  obtain ⟨sl, p0, fl, ct, vs, n, e1, e2, e3⟩ := P.at_
  unfold Builtin.Re.reWholeTarget
  refine wpAny_bind (wpAny_fieldsOf e1 rfl ?_)
  refine wpAny_bind (wpAny_pure ?_)
  show wpAny _ _ (do let x' ← Builtin.Re.reRawItems (.ref ct); pure (⟨.ref a, .str x t, x'.map (·.toNat), x.cps, 0, 0, 0, x.cps.size⟩ : Builtin.Re.ReTarget)) _ _ _
  refine wpAny_bind (wpAny_bind (wpAny_seqItems e2 rfl (wpAny_pure (wpAny_pure ?_))))
  rw [← e3] at q
  exact q

/-- the pieces of a substitution -/
noncomputable def subF (next : Nat → Option (Nat × Nat)) (x rep : Str) : Nat → Nat → List Str
  | 0, _ => []
  | f + 1, done => match next done with
    | some (a, b) => (if done < a then [⟨x.cps.extract done a⟩] else []) ++ rep :: subF next x rep f b
    | none => if done < x.cps.size then [⟨x.cps.extract done x.cps.size⟩] else []

/-- the pieces may be put together -/
structure Fit (l : List Str) : Prop where
  short : Builtin.Str.tooLong (l.toArray.foldl (fun n x => n + x.length + Str.empty.length) 0) = false
  line : (glueAll l).length ≤ sizeLine

theorem join_wp {L : Addr} {ps : List (Str × Tok)} {n : Nat} {t : Tok} {Q : Value → Shared → Prop} (e : s.heap.get? L = some (LObj (PySem.strValues ps) n)) (hf : Fit (ps.map (·.1))) (q : ∀ t tk, Q (.str (glueAll (ps.map (·.1))) t) { s with toks := tk }) :
    wpAny (model prog w) A (call (.builtin "str.join") [.str Str.empty t, .ref L]) Q E s := by
  refine call_meets F.slot_str_join (typeIs_str s _ t) F.entry_str_join (F.args_str_join_2 _ _) (PySem.meets_str_join_list Str.empty t L ps hf.short) ⟨LObj.isList e, ?_⟩
  have hg := hf.line
  have q' : ∀ (x : Str) t tk, x = glueAll (ps.map (·.1)) → Q (.str x t) { s with toks := tk } := fun x t tk hx => by subst hx; exact q _ _
  cases ps with
  | nil => exact ⟨hg, q' _ _ _ rfl⟩
  | cons p ps =>
    cases ps with
    | nil => exact q' _ _ s.toks (by simp [glueAll, Builtin.Str.glued])
    | cons p' ps => exact ⟨hg, q' _ _ _ rfl⟩

theorem push_str {L : Addr} {ps : List (Str × Tok)} {n : Nat} {x : Str} {t : Tok} {Q : Unit → Shared → Prop} (e : s.heap.get? L = some (LObj (PySem.strValues ps) n)) (hz : ps.length ≤ 2 ^ 20) (q : ∀ h' n', (∀ b o, s.heap.get? b = some o → b ≠ L → h'.get? b = some o) → s.heap.objs.size ≤ h'.objs.size → h'.get? L = some (LObj (PySem.strValues (ps ++ [(x, t)])) n') → Q () { s with heap := h' }) :
    wpAny (model prog w) A (updateSeq L (·.push (.str x t))) Q E s := by
  have hl : (PySem.strValues ps).length = ps.length := by simp [PySem.strValues]
  obtain ⟨n', e'⟩ := upd_list (vs' := PySem.strValues (ps ++ [(x, t)])) e (fun x' => x'.push (.str x t)) (by simp [PySem.strValues])
  refine wpAny_updateSeq e rfl (q _ n' (fun b o eb ne => by rw [Heap.get?_update_other _ _ (Ne.symm ne)]; exact eb) (by rw [Heap.size_after_update]; exact Nat.le_refl _) e') ?_ ?_
  · rw [List.size_toArray, hl]; show _ ≤ 2 ^ 24; omega
  · rw [Array.size_push, List.size_toArray, hl]; show _ ≤ 2 ^ 24 + 1; omega
end
end Mine
namespace Mine

section
variable {prog : Program} {w : World} {A : Around} {a : Addr} {code : Array Nat}

/-- what a search tells -/
structure Finds (code : Array Nat) (x : Str) (next : Nat → Option (Nat × Nat)) : Prop where
  run : ∀ start must, ∃ n, n ≤ 2 ^ 20 ∧ Ends (Sre.forSearch code x.cps 0 start x.cps.size must) (next start) n
  pos : ∀ p a b, next p = some (a, b) → p ≤ a ∧ a < b ∧ b ≤ x.cps.size

theorem loop_run {x rep : Str} {tx trep : Tok} {L : Addr} {next : Nat → Option (Nat × Nat)} (hF : Finds code x next) (hsz : x.cps.size ≤ 2 ^ 16) {R : Result → Shared → Prop} : ∀ (f done : Nat) (k : Int) (must : Bool) (ps : List (Str × Tok)) (n : Nat) (s : Shared), x.cps.size - done < f → PatAt s.heap a code →
    s.heap.get? L = some (LObj (PySem.strValues ps) n) → ps.length + 2 * (x.cps.size - done) + 4 ≤ 2 ^ 20 → Fit (ps.map (·.1) ++ subF next x rep f done) →
    (∀ t h' tk, (∀ b o, s.heap.get? b = some o → b ≠ L → h'.get? b = some o) → s.heap.objs.size ≤ h'.objs.size → R (.ok (.ret (.str (glueAll (ps.map (·.1) ++ subF next x rep f done)) t))) { s with heap := h', toks := tk }) →
    wpAny (model prog w) A.in1 (Builtin.«re.Pattern.sub.loop» ⟨[.ref a, .str x tx, .str rep trep, rawInt 0, rawInt 0, rawInt k, rawInt (done : Nat), rawInt (done : Nat), .bool must, .ref L, .bool false], []⟩)
      (fun fin s' => match fin with | .done f => R (.ok f) s' | .again c' => c'.quiet = true ∧ codeAny (model prog w) A c' R s') (fun e s' => R (.error e) s') s
  | 0, done, _, _, _, _, _, h, _, _, _, _, _ => absurd h (Nat.not_lt_zero _)
  | f + 1, done, k, must, ps, n, s, hfu, hP, hL, hlen, hfit, hR => by
    show wpAny _ _ (Builtin.«re.Pattern.sub.loop» ⟨[.ref a, .str x tx, .str rep trep, .int 0 0, .int 0 0, .int k 0, .int (done : Nat) 0, .int (done : Nat) 0, .bool must, .ref L, .bool false], []⟩) _ _ _
    unfold Builtin.«re.Pattern.sub.loop»
    dsimp only
    refine wpAny_bind (whole_target hP ?_)
    dsimp only
    rw [if_pos (show ((0 : Int) == 0) = true from rfl)]
    refine wpAny_bind (show wpAny _ _ (pure () : Sem Unit) _ _ _ from wpAny_pure ?_)
    rw [if_neg (show ¬ ((0 : Int) != 0 && decide (k ≥ 0)) = true from by simp)]
    obtain ⟨nn, hnn, hE⟩ := hF.run done must
    refine wpAny_bind (run_end hE hnn ?_)
    cases hnx : next done with
    | none =>
      have hsub : subF next x rep (f + 1) done = if done < x.cps.size then [⟨x.cps.extract done x.cps.size⟩] else [] := by
        show (match next done with | some (a, b) => _ | none => _) = _
        rw [hnx]
      rw [hsub] at hfit hR
      -- what is left when the pieces lie
      have last : ∀ (ps' : List (Str × Tok)) (n' : Nat) (s' : Shared), s'.heap.get? L = some (LObj (PySem.strValues ps') n') → Fit (ps'.map (·.1)) → (∀ t tk, R (.ok (.ret (.str (glueAll (ps'.map (·.1))) t))) { s' with toks := tk }) →
          wpAny (model prog w) A.in1 (do
            let joiner ← Builtin.Re.reSlice x.cps 0 0 0
            let __do_lift ← seqItems? (.ref L)
            if (__do_lift.getD #[]).isEmpty = true then do
              let text ← pure joiner
              if false = true then do
                let __do_lift ← holding [text] (do let __do_lift ← mkInt k; newTuple [text, __do_lift])
                ret __do_lift
              else ret text
            else do
              let text ← call (.builtin (if ((0 : Nat) == 0) = true then "str.join" else "bytes.join")) [joiner, .ref L]
              if false = true then do
                let __do_lift ← holding [text] (do let __do_lift ← mkInt k; newTuple [text, __do_lift])
                ret __do_lift
              else ret text) (fun fin s' => match fin with | .done f => R (.ok f) s' | .again c' => c'.quiet = true ∧ codeAny (model prog w) A c' R s') (fun e s' => R (.error e) s') s' := by
        intro ps' n' s' e' hf hR'
        have hem : (⟨x.cps.extract 0 0⟩ : Str) = Str.empty := by
          show Str.mk _ = Str.mk _
          simp
        refine wpAny_bind (show wpAny _ _ (mkStr ⟨x.cps.extract 0 0⟩) _ _ _ from wpAny_mkStr ?_ (by rw [hem]; exact Nat.zero_le _))
        rw [hem]
        refine wpAny_bind (wpAny_seqItems e' rfl ?_)
        by_cases hp : ps' = []
        · subst hp
          rw [if_pos (show ((some (PySem.strValues ([] : List (Str × Tok))).toArray).getD #[]).isEmpty = true from rfl)]
          refine wpAny_bind (wpAny_pure ?_)
          rw [if_neg (by decide)]
          exact wpAny_pure (hR' _ _)
        · rw [if_neg (by
            cases ps' with
            | nil => exact absurd rfl hp
            | cons p ps => simp [PySem.strValues])]
          refine wpAny_bind (join_wp (s := { s' with toks := s'.toks + 1 }) e' hf fun t tk => ?_)
          rw [if_neg (by decide)]
          exact wpAny_pure (hR' _ _)
      dsimp only
      by_cases hd : done < x.cps.size
      · rw [if_pos hd] at hfit hR
        rw [if_pos (show (((done : Nat) : Int)).toNat < x.cps.size from hd)]
        refine wpAny_bind (show wpAny _ _ (mkStr ⟨x.cps.extract done x.cps.size⟩) _ _ _ from wpAny_mkStr ?_ ?_)
        · refine wpAny_bind (push_str (s := { s with toks := s.toks + 1 }) hL (by omega) fun h' n' kp sz e' => ?_)
          refine last (ps ++ [(_, s.toks)]) n' { s with heap := h', toks := s.toks + 1 } e' (by rw [List.map_append]; exact hfit) fun t tk => ?_
          rw [List.map_append]
          exact hR t h' tk kp sz
        · show (x.cps.extract done x.cps.size).size ≤ 2 ^ 24
          rw [Array.size_extract]; omega
      · rw [if_neg hd, List.append_nil] at hfit hR
        rw [if_neg (show ¬ (((done : Nat) : Int)).toNat < x.cps.size from hd)]
        exact last ps n s hL hfit fun t tk => hR t s.heap tk (fun _ _ e _ => e) (Nat.le_refl _)
    | some ab =>
      obtain ⟨a', b'⟩ := ab
      obtain ⟨g1, g2, g3⟩ := hF.pos _ _ _ hnx
      have hsub : subF next x rep (f + 1) done = (if done < a' then [⟨x.cps.extract done a'⟩] else []) ++ rep :: subF next x rep f b' := by
        show (match next done with | some (a, b) => _ | none => _) = _
        rw [hnx]
      rw [hsub] at hfit hR
      intro m hm1 hm2
      have turn : ∀ (ps' : List (Str × Tok)) (n' : Nat) (s' : Shared), PatAt s'.heap a code → s'.heap.get? L = some (LObj (PySem.strValues ps') n') → ps'.length ≤ ps.length + 1 → Fit (ps'.map (·.1) ++ rep :: subF next x rep f b') →
          (∀ t h' tk, (∀ b o, s'.heap.get? b = some o → b ≠ L → h'.get? b = some o) → s'.heap.objs.size ≤ h'.objs.size → R (.ok (.ret (.str (glueAll (ps'.map (·.1) ++ rep :: subF next x rep f b')) t))) { s' with heap := h', toks := tk }) →
          wpAny (model prog w) A.in1 (do
            updateSeq L fun x => x.push (.str rep trep)
            again (Code.builtin "re.Pattern.sub.loop" { pos := [Value.ref a, Value.str x tx, Value.str rep trep, rawInt 0, rawInt 0, rawInt (k + 1), rawInt (m.handed : Nat), rawInt (m.handed : Nat), Value.bool (m.handed == m.start), Value.ref L, Value.bool false] }))
            (fun fin s' => match fin with | .done f => R (.ok f) s' | .again c' => c'.quiet = true ∧ codeAny (model prog w) A c' R s') (fun e s' => R (.error e) s') s' := by
        intro ps' n' s' hP' e' hl' hf' hR'
        refine wpAny_bind (push_str e' (by omega) fun h' n'' kp sz e'' => ?_)
        refine wpAny_pure ⟨plainId_quiet plain_re_loop _, codeAny_builtin entry_re_loop ?_⟩
        rw [Around.under_plainId plain_re_loop _]
        rw [hm2]
        have hmap : (ps' ++ [(rep, trep)]).map (·.1) ++ subF next x rep f b' = ps'.map (·.1) ++ rep :: subF next x rep f b' := by
          rw [List.map_append, List.append_assoc]; rfl
        have hPL : ∀ (h'' : Heap), (∀ b o, s'.heap.get? b = some o → b ≠ L → h''.get? b = some o) → PatAt h'' a code := by
          intro h'' hk
          obtain ⟨sl, p0, fl, ct, vs, nn, q1, q2, q3⟩ := hP'.at_
          refine ⟨sl, p0, fl, ct, vs, nn, hk _ _ q1 (fun z => ?_), hk _ _ q2 (fun z => ?_), q3⟩
          · rw [z, e'] at q1; injection q1 with q1; injection q1 with q1; injection q1 with q1; exact absurd q1 (by decide)
          · rw [z, e'] at q2; exact list_ne_tup q2
        refine loop_run hF hsz f b' (k + 1) _ (ps' ++ [(rep, trep)]) n'' { s' with heap := h' } (by omega) (hPL h' kp) e'' (by rw [List.length_append, List.length_singleton]; omega) (by rw [hmap]; exact hf') fun t h2 tk k2 sz2 => ?_
        rw [hmap]
        exact hR' t h2 tk (fun b o e ne => k2 b o (kp b o e ne) ne) (Nat.le_trans sz sz2)
      dsimp only
      rw [hm1]
      have hitem : (Value.str rep trep != Value.none) = true := rfl
      by_cases hd : done < a'
      · rw [if_pos hd] at hfit hR
        rw [if_pos (show (((done : Nat) : Int)).toNat < a' from hd)]
        refine wpAny_bind (show wpAny _ _ (mkStr ⟨x.cps.extract done a'⟩) _ _ _ from wpAny_mkStr ?_ ?_)
        · refine wpAny_bind (push_str (s := { s with toks := s.toks + 1 }) hL (by omega) fun h' n' kp sz e' => ?_)
          rw [if_pos (show ((0 : Int) == 0) = true from rfl)]
          refine wpAny_bind (wpAny_pure ?_)
          rw [if_pos hitem, ← hm1]
          have hPL : PatAt h' a code := by
            obtain ⟨sl, p0, fl, ct, vs, nn, q1, q2, q3⟩ := hP.at_
            refine ⟨sl, p0, fl, ct, vs, nn, kp _ _ q1 (fun z => ?_), kp _ _ q2 (fun z => ?_), q3⟩
            · rw [z, hL] at q1; injection q1 with q1; injection q1 with q1; injection q1 with q1; exact absurd q1 (by decide)
            · rw [z, hL] at q2; exact list_ne_tup q2
          have hmap : ∀ z : Str, (ps ++ [(z, s.toks)]).map (·.1) ++ rep :: subF next x rep f b' = ps.map (·.1) ++ ([z] ++ rep :: subF next x rep f b') := by
            intro z
            rw [List.map_append, List.append_assoc]; rfl
          refine turn (ps ++ [(_, s.toks)]) n' { s with heap := h', toks := s.toks + 1 } hPL e' (by rw [List.length_append]; exact Nat.le_refl _) (by rw [hmap]; exact hfit) fun t h2 tk k2 sz2 => ?_
          rw [hmap]
          exact hR t h2 tk (fun b o e ne => k2 b o (kp b o e ne) ne) (Nat.le_trans sz sz2)
        · show (x.cps.extract done a').size ≤ 2 ^ 24
          rw [Array.size_extract]; omega
      · rw [if_neg hd, List.nil_append] at hfit hR
        rw [if_neg (show ¬ (((done : Nat) : Int)).toNat < a' from hd)]
        rw [if_pos (show ((0 : Int) == 0) = true from rfl)]
        refine wpAny_bind (wpAny_pure ?_)
        rw [if_pos hitem, ← hm1]
        exact turn ps n s hP hL (Nat.le_succ _) hfit hR
end
end Mine
namespace Mine

theorem plainAttrs_re : PlainAttrs "re.Pattern" :=
  ⟨⟨"object.__getattribute__", by rw [typeLookup_type, builtinLookup_eq_fast]; kernel_rfl, by decide +kernel⟩, by rw [typeLookup_type, builtinLookup_eq_fast]; kernel_rfl⟩

section
variable {X : Cx} {k : Nat}
theorem V_sub {a : Addr} {code : Array Nat} (P : PatAt X.hb a code) : GetV X k ("sub" : Str) (.val (.ref a)) "re.Pattern.sub" := by
  intro sc U W Γ A env s Q E v pl R hv q
  cases hv.val
  obtain ⟨sl, p0, fl, ct, vs, n, e1, e2, e3⟩ := (P.keeps R.base).at_
  exact getMethod_builtin ⟨_, e1, rfl⟩ plainAttrs_re slot_re_sub type_re_sub (fun a' ea => by cases ea; exact ⟨_, e1, rfl⟩) q
theorem special_str {x : Str} {t : Tok} : specialOf (.str x t) ("__call__" : Str) = pure none := by
  show typeLookup (.type "str") _ = pure none
  rw [typeLookup_type, builtinLookup_eq_fast]; kernel_rfl

theorem C_reSub {a : Addr} {code : Array Nat} {x rep : Str} {next : Nat → Option (Nat × Nat)} (P : PatAt X.hb a code) (hF : Finds code x next) (hsz : x.cps.size ≤ 2 ^ 16) (h92 : rep.cps.contains 92 = false) (hfit : Fit (subF next x rep (x.cps.size + 1) 0)) :
    CallV X k false (.builtin "re.Pattern.sub") [.val (.ref a), .str rep, .str x] [] (.str (glueAll (subF next x rep (x.cps.size + 1) 0))) := by
  intro sc U W Γ A env s Q E vs ks R hv hk q
  cases hk
  obtain ⟨_, _, rfl, h1, hv⟩ := hv.inv
  obtain ⟨_, _, rfl, h2, hv⟩ := hv.inv
  obtain ⟨_, _, rfl, h3, hv⟩ := hv.inv
  cases hv.inv0
  cases h1.val
  obtain ⟨t, rfl⟩ := h2.str
  obtain ⟨t', rfl⟩ := h3.str
  have P' : PatAt s.heap a code := P.keeps R.base
  obtain ⟨sl, p0, fl, ct, vs, n, e1, e2, e3⟩ := P'.at_
  refine wpAny_call (codeAny_call_builtin slot_re_sub.plain entry_re_sub (slot_re_sub.check _ _ _ _ _ _ _ _ ⟨_, e1, rfl⟩ (args_re_sub _ _ _) ?_))
  show wpAny _ A.in1 (Builtin.Re.reSubstitute "re.Pattern.sub" "sub" false ⟨[.ref a, .str rep t, .str x t'], []⟩) _ _ _
  unfold Builtin.Re.reSubstitute
  dsimp only
  rw [named3]
  refine wpAny_bind (wpAny_pure ?_)
  dsimp only
  refine wpAny_bind (wpAny_pure ?_)
  rw [special_str]
  refine wpAny_bind (wpAny_pure ?_)
  rw [if_neg (show ¬ ((none : Option Value).isSome = true) from by decide)]
  refine wpAny_bind (show wpAny _ _ (pure (some rep) : Sem (Option Str)) _ _ _ from wpAny_pure ?_)
  dsimp only
  refine wpAny_bind (wpAny_pure ?_)
  rw [h92, if_neg (show ¬ ((none : Option Value).isSome = true) from by decide), if_pos (show (!false) = true from rfl)]
  refine wpAny_bind (wpAny_pure ?_)
  dsimp only
  refine wpAny_bind (wpAny_holding (whole_target P' ?_))
  rw [if_neg (show ¬ ((0 : Int) == 1) = true from by decide)]
  refine wpAny_bind (wpAny_newList ?_ (Nat.zero_le _))
  refine wpAny_pure ⟨plainId_quiet plain_re_loop _, codeAny_builtin entry_re_loop ?_⟩
  rw [Around.under_plainId plain_re_loop _]
  have aft : ∀ (h' : Heap), (∀ b o, (s.heap.push (LObj [] 0)).get? b = some o → b ≠ s.heap.objs.size → h'.get? b = some o) → (s.heap.push (LObj [] 0)).objs.size ≤ h'.objs.size → Aft X.T (UW U W) s.heap h' := fun h' kp sz =>
    .ext R.tab (fun b o e => kp b o (Heap.get?_push_of_some _ e) (Nat.ne_of_lt (Heap.lt_size e))) (Nat.le_trans (by rw [Heap.size_push]; exact Nat.le_succ _) sz)
  refine loop_run (prog := X.prog) (w := X.w) (A := A) (R := wants Q E) (tx := t') (trep := t) (s := { s with heap := s.heap.push (LObj [] 0) }) (L := s.heap.objs.size) hF hsz (x.cps.size + 1) 0 0 false [] 0 (by omega) (P'.keeps fun b o e => Heap.get?_push_of_some _ e) (Heap.get?_push_size _ rfl) (by simp; omega) hfit fun t h' tk kp sz => ?_
  exact q _ h' tk (aft h' kp sz) (.inl (.str _ _))
end
end Mine
namespace Mine

noncomputable abbrev chs (x : Str) : List Nat := x.cps.toList
theorem fold_cps : ∀ (l : List Str) (acc : Array Nat), (l.foldl (fun acc p => acc ++ Str.empty.cps ++ p.cps) acc).toList = acc.toList ++ (l.map chs).flatten
  | [], acc => by simp
  | p :: l, acc => by
    rw [List.foldl_cons, fold_cps l, List.map_cons, List.flatten_cons]
    simp [Str.empty, chs]
theorem glue_chs (l : List Str) : chs (glueAll l) = (l.map chs).flatten := by
  cases l with
  | nil => rfl
  | cons p l =>
    show (l.foldl (fun acc p => acc ++ Str.empty.cps ++ p.cps) p.cps).toList = _
    rw [fold_cps, List.map_cons, List.flatten_cons]
theorem fold_len : ∀ (l : List Str) (n : Nat), l.foldl (fun n x => n + x.length + Str.empty.length) n = n + ((l.map chs).flatten).length
  | [], n => by simp
  | p :: l, n => by
    rw [List.foldl_cons, fold_len l, List.map_cons, List.flatten_cons, List.length_append]
    have : p.length = (chs p).length := by simp [chs, Str.length]
    have h0 : Str.empty.length = 0 := rfl
    omega
theorem Fit.of {l : List Str} (h : ((l.map chs).flatten).length ≤ 2 ^ 24) : Fit l := by
  refine ⟨?_, ?_⟩
  · show decide (_ > sizeLine) = false
    rw [decide_eq_false_iff_not, List.foldl_toArray, fold_len]
    show ¬ (_ > 2 ^ 24)
    omega
  · have : (glueAll l).length = (chs (glueAll l)).length := by simp [chs, Str.length]
    rw [this, glue_chs]; exact h
theorem chs_len (x : Str) : x.cps.size = (chs x).length := by simp [chs]
theorem chs_extract {x : Str} {a b : Nat} : chs ⟨x.cps.extract a b⟩ = ((chs x).drop a).take (b - a) := by
  simp [chs]
theorem chs_getD {x : Str} {p : Nat} : x.cps.getD p 0 = (chs x).getD p 0 := by
  simp [chs, Array.getD, List.getD]
  split <;> simp_all

/-- the ends of lines made one -/
noncomputable def nlG : Bool → List Nat → List Nat
  | _, [] => []
  | cr, c :: t => if c == 13 then 13 :: 10 :: nlG true t else if c == 10 then (if cr then nlG false t else 13 :: 10 :: nlG false t) else c :: nlG false t
/-- a dot at a line's start doubled -/
noncomputable def dotG : Bool → List Nat → List Nat
  | _, [] => []
  | b, c :: t => if b && c == 46 then 46 :: 46 :: dotG false t else c :: dotG (c == 10) t
theorem nlG_cr {t : List Nat} : nlG true t = if t.getD 0 0 == 10 then nlG false t.tail else nlG false t := by
  cases t with
  | nil => rfl
  | cons c t =>
    show (if c == 13 then 13 :: 10 :: nlG true t else if c == 10 then (if true then nlG false t else _) else c :: nlG false t) = if c == 10 then nlG false t else (if c == 13 then 13 :: 10 :: nlG true t else if c == 10 then (if false then nlG false t else 13 :: 10 :: nlG false t) else c :: nlG false t)
    cases h : c == 10 with
    | true =>
      rw [beq_iff_eq] at h; subst h; rfl
    | false => simp

section
variable {x : Str}
theorem drop_at {p : Nat} (h : p < (chs x).length) : (chs x).drop p = (chs x).getD p 0 :: (chs x).drop (p + 1) := by
  rw [List.drop_eq_getElem_cons h, List.getD_eq_getElem?_getD, List.getElem?_eq_getElem h]; rfl
theorem nl_next : ∀ (g p : Nat), (chs x).length - p < g → match nextNl x.cps x.cps.size g p with
    | some (a, b) => nlG false ((chs x).drop p) = ((chs x).drop p).take (a - p) ++ [13, 10] ++ nlG false ((chs x).drop b)
    | none => nlG false ((chs x).drop p) = (chs x).drop p
  | 0, p, h => absurd h (Nat.not_lt_zero _)
  | g + 1, p, h => by
    have hs := chs_len x
    unfold nextNl
    by_cases hp : p < x.cps.size
    · rw [if_pos hp]
      have hp' : p < (chs x).length := by omega
      have hd := drop_at hp'
      rw [chs_getD]
      generalize hc : (chs x).getD p 0 = c at hd
      by_cases hn : (c == 10 || c == 13) = true
      · rw [if_pos hn]
        dsimp only
        rw [Nat.sub_self, List.take_zero, List.nil_append, hd]
        unfold nlEnd
        rw [chs_getD, chs_getD, hc]
        by_cases h13 : (c == 13) = true
        · have e13 : c = 13 := by rwa [beq_iff_eq] at h13
          subst e13
          show 13 :: 10 :: nlG true ((chs x).drop (p + 1)) = _
          rw [nlG_cr]
          have hz : ((chs x).drop (p + 1)).getD 0 0 = (chs x).getD (p + 1) 0 := by
            simp [List.getD]
          have ht : ((chs x).drop (p + 1)).tail = (chs x).drop (p + 2) := by rw [List.tail_drop]
          rw [hz, ht]
          by_cases h10 : ((chs x).getD (p + 1) 0 == 10) = true
          · have hlt : p + 1 < x.cps.size := by
              refine Nat.lt_of_not_le fun hle => ?_
              rw [List.getD_eq_getElem?_getD, List.getElem?_eq_none (by omega)] at h10
              exact absurd h10 (by decide)
            rw [if_pos h10, if_pos (by rw [h10, decide_eq_true hlt]; rfl)]
            rfl
          · rw [if_neg h10, if_neg (by rw [Bool.not_eq_true] at h10; rw [h10]; simp)]
            rfl
        · have h10 : (c == 10) = true := by
            rw [Bool.or_eq_true] at hn
            exact hn.resolve_right h13
          have e10 : c = 10 := by rwa [beq_iff_eq] at h10
          subst e10
          rw [if_neg (by simp)]
          rfl
      · rw [if_neg hn]
        have ih := nl_next g (p + 1) (by omega)
        rw [Bool.not_eq_true, Bool.or_eq_false_iff] at hn
        have e : nlG false ((chs x).drop p) = c :: nlG false ((chs x).drop (p + 1)) := by
          rw [hd]
          show (if c == 13 then _ else if c == 10 then _ else c :: nlG false ((chs x).drop (p + 1))) = _
          rw [hn.1, hn.2]; rfl
        cases hx : nextNl x.cps x.cps.size g (p + 1) with
        | none =>
          rw [hx] at ih
          dsimp only at ih ⊢
          rw [e, ih, hd]
        | some ab =>
          obtain ⟨a, b⟩ := ab
          rw [hx] at ih
          dsimp only at ih ⊢
          have h1 := (nextNl_at _ _ hx).1
          rw [e, ih, hd, show a - p = (a - (p + 1)) + 1 by omega]
          rfl
    · rw [if_neg hp]
      rw [List.drop_eq_nil_of_le (by omega)]
      rfl
end
end Mine
namespace Mine

section
variable {x : Str}
theorem nextDot_at {text : Array Nat} {lim : Nat} : ∀ (f p : Nat) {a b : Nat}, nextDot text lim f p = some (a, b) → p ≤ a ∧ a < lim ∧ dotAt text a = true ∧ b = a + 1
  | 0, _, _, _, h => by cases h
  | f + 1, p, a, b, h => by
    unfold nextDot at h
    split at h
    · split at h
      · cases h
        exact ⟨Nat.le_refl _, by assumption, by assumption, rfl⟩
      · obtain ⟨h1, h2⟩ := nextDot_at f (p + 1) h
        exact ⟨by omega, h2⟩
    · cases h
noncomputable def atLine (l : List Nat) (p : Nat) : Bool := p == 0 || l.getD (p - 1) 0 == 10
theorem dot_next : ∀ (g p : Nat), (chs x).length - p < g → match nextDot x.cps x.cps.size g p with
    | some (a, b) => dotG (atLine (chs x) p) ((chs x).drop p) = ((chs x).drop p).take (a - p) ++ [46, 46] ++ dotG (atLine (chs x) b) ((chs x).drop b)
    | none => dotG (atLine (chs x) p) ((chs x).drop p) = (chs x).drop p
  | 0, p, h => absurd h (Nat.not_lt_zero _)
  | g + 1, p, h => by
    have hs := chs_len x
    unfold nextDot
    by_cases hp : p < x.cps.size
    · rw [if_pos hp]
      have hp' : p < (chs x).length := hs.symm ▸ hp
      have hd := drop_at hp'
      have hda : dotAt x.cps p = (atLine (chs x) p && (chs x).getD p 0 == 46) := by unfold dotAt atLine; rw [chs_getD, chs_getD]
      have hn1 : atLine (chs x) (p + 1) = ((chs x).getD p 0 == 10) := by unfold atLine; rw [Nat.add_sub_cancel]; simp
      rw [hda]
      generalize hc : (chs x).getD p 0 = c at hd hn1
      by_cases hn : (atLine (chs x) p && c == 46) = true
      · rw [if_pos hn]
        dsimp only
        rw [Nat.sub_self, List.take_zero, List.nil_append, hd]
        have e46 : c = 46 := by
          rw [Bool.and_eq_true] at hn
          exact eq_of_beq hn.2
        rw [hn1]
        subst e46
        show (if (atLine (chs x) p && 46 == 46) = true then _ else _) = _
        rw [if_pos hn]
        rfl
      · rw [if_neg hn]
        have ih := dot_next g (p + 1) (by omega)
        have e : dotG (atLine (chs x) p) ((chs x).drop p) = c :: dotG (atLine (chs x) (p + 1)) ((chs x).drop (p + 1)) := by
          rw [hd, hn1]
          show (if (atLine (chs x) p && c == 46) = true then _ else _) = _
          rw [if_neg hn]
        cases hx : nextDot x.cps x.cps.size g (p + 1) with
        | none =>
          rw [hx] at ih
          dsimp only at ih ⊢
          rw [e, ih, hd]
        | some ab =>
          obtain ⟨a, b⟩ := ab
          rw [hx] at ih
          dsimp only at ih ⊢
          have h1 := (nextDot_at _ _ hx).1
          rw [e, ih, hd, show a - p = (a - (p + 1)) + 1 by omega]
          rfl
    · rw [if_neg hp]
      rw [List.drop_eq_nil_of_le (by omega)]
      rfl

noncomputable abbrev nxN (x : Str) (p : Nat) : Option (Nat × Nat) := nextNl x.cps x.cps.size (x.cps.size + 1 - p) p
noncomputable abbrev nxD (x : Str) (p : Nat) : Option (Nat × Nat) := nextDot x.cps x.cps.size (x.cps.size - p + 1) p
theorem nlEnd_ok {text : Array Nat} {lim a : Nat} (h2 : a < lim) : a < nlEnd text lim a ∧ nlEnd text lim a ≤ lim := by
  unfold nlEnd
  split
  · rename_i hc
    rw [Bool.and_eq_true, Bool.and_eq_true, decide_eq_true_eq] at hc
    exact ⟨by omega, hc.2.1⟩
  · exact ⟨by omega, h2⟩
theorem finds2 : Finds code2 x (nxN x) where
  run := fun start must => ⟨16, by decide, search2⟩
  pos := fun p a b h => by
    obtain ⟨h1, h2, h3, rfl⟩ := nextNl_at _ _ h
    exact ⟨h1, nlEnd_ok h2⟩
theorem finds1 (hsz : x.cps.size ≤ 2 ^ 16) : Finds code1 x (nxD x) where
  run := fun start must => ⟨5 * (x.cps.size - start + 1), by omega, search1⟩
  pos := fun p a b h => by
    obtain ⟨h1, h2, h3, rfl⟩ := nextDot_at _ _ h
    exact ⟨h1, by omega, h2⟩
theorem sub_nl {rep : Str} (hr : chs rep = [13, 10]) : ∀ (f p : Nat), p ≤ x.cps.size → x.cps.size - p < f → ((subF (nxN x) x rep f p).map chs).flatten = nlG false ((chs x).drop p)
  | 0, p, _, h => absurd h (Nat.not_lt_zero _)
  | f + 1, p, hp, h => by
    have hs := chs_len x
    have hn := nl_next (x := x) (x.cps.size + 1 - p) p (by omega)
    have ef : subF (nxN x) x rep (f + 1) p = (match nxN x p with
      | some (a, b) => (if p < a then [⟨x.cps.extract p a⟩] else []) ++ rep :: subF (nxN x) x rep f b
      | none => if p < x.cps.size then [⟨x.cps.extract p x.cps.size⟩] else []) := rfl
    rw [ef]
    cases hx : nxN x p with
    | none =>
      rw [show nextNl x.cps x.cps.size (x.cps.size + 1 - p) p = none from hx] at hn
      dsimp only at hn ⊢
      rw [hn]
      by_cases hlt : p < x.cps.size
      · rw [if_pos hlt, List.map_cons, List.map_nil, List.flatten_cons, List.flatten_nil, List.append_nil, chs_extract]
        rw [List.take_of_length_le (by rw [List.length_drop]; omega)]
      · rw [if_neg hlt, List.drop_eq_nil_of_le (by omega)]; rfl
    | some ab =>
      obtain ⟨a, b⟩ := ab
      obtain ⟨g1, g2, g3⟩ := (finds2 (x := x)).pos p a b hx
      rw [show nextNl x.cps x.cps.size (x.cps.size + 1 - p) p = some (a, b) from hx] at hn
      dsimp only at hn ⊢
      rw [hn, List.map_append, List.flatten_append, List.map_cons, List.flatten_cons, sub_nl hr f b g3 (by omega), hr]
      by_cases hlt : p < a
      · rw [if_pos hlt, List.map_cons, List.map_nil, List.flatten_cons, List.flatten_nil, List.append_nil, chs_extract, List.append_assoc]
      · rw [if_neg hlt, show a - p = 0 by omega]; rfl
theorem sub_dot {rep : Str} (hr : chs rep = [46, 46]) (hsz : x.cps.size ≤ 2 ^ 16) : ∀ (f p : Nat), p ≤ x.cps.size → x.cps.size - p < f → ((subF (nxD x) x rep f p).map chs).flatten = dotG (atLine (chs x) p) ((chs x).drop p)
  | 0, p, _, h => absurd h (Nat.not_lt_zero _)
  | f + 1, p, hp, h => by
    have hs := chs_len x
    have hn := dot_next (x := x) (x.cps.size - p + 1) p (by omega)
    have ef : subF (nxD x) x rep (f + 1) p = (match nxD x p with
      | some (a, b) => (if p < a then [⟨x.cps.extract p a⟩] else []) ++ rep :: subF (nxD x) x rep f b
      | none => if p < x.cps.size then [⟨x.cps.extract p x.cps.size⟩] else []) := rfl
    rw [ef]
    cases hx : nxD x p with
    | none =>
      rw [show nextDot x.cps x.cps.size (x.cps.size - p + 1) p = none from hx] at hn
      dsimp only at hn ⊢
      rw [hn]
      by_cases hlt : p < x.cps.size
      · rw [if_pos hlt, List.map_cons, List.map_nil, List.flatten_cons, List.flatten_nil, List.append_nil, chs_extract]
        rw [List.take_of_length_le (by rw [List.length_drop]; omega)]
      · rw [if_neg hlt, List.drop_eq_nil_of_le (by omega)]; rfl
    | some ab =>
      obtain ⟨a, b⟩ := ab
      obtain ⟨g1, g2, g3⟩ := (finds1 hsz).pos p a b hx
      rw [show nextDot x.cps x.cps.size (x.cps.size - p + 1) p = some (a, b) from hx] at hn
      dsimp only at hn ⊢
      rw [hn, List.map_append, List.flatten_append, List.map_cons, List.flatten_cons, sub_dot hr hsz f b g3 (by omega), hr]
      by_cases hlt : p < a
      · rw [if_pos hlt, List.map_cons, List.map_nil, List.flatten_cons, List.flatten_nil, List.append_nil, chs_extract, List.append_assoc]
      · rw [if_neg hlt, show a - p = 0 by omega]; rfl
theorem nlG_len : ∀ (b : Bool) (t : List Nat), (nlG b t).length ≤ 2 * t.length
  | _, [] => Nat.le_refl _
  | b, c :: t => by
    have h1 := nlG_len true t
    have h2 := nlG_len false t
    show (if c == 13 then 13 :: 10 :: nlG true t else if c == 10 then (if b then nlG false t else 13 :: 10 :: nlG false t) else c :: nlG false t).length ≤ _
    rw [List.length_cons]
    split
    · simp only [List.length_cons]; omega
    · split
      · split
        · omega
        · simp only [List.length_cons]; omega
      · simp only [List.length_cons]; omega
theorem dotG_len : ∀ (b : Bool) (t : List Nat), (dotG b t).length ≤ 2 * t.length
  | _, [] => Nat.le_refl _
  | b, c :: t => by
    have h1 := dotG_len (c == 10) t
    have h2 := dotG_len false t
    show (if b && c == 46 then 46 :: 46 :: dotG false t else c :: dotG (c == 10) t).length ≤ _
    rw [List.length_cons]
    split
    · simp only [List.length_cons]; omega
    · simp only [List.length_cons]; omega
end

/-- a text of given signs -/
noncomputable def ofChs (l : List Nat) : Str := ⟨l.toArray⟩
theorem ofChs_chs (x : Str) : ofChs (chs x) = x := by
  cases x; simp [ofChs, chs]
theorem chs_ofChs (l : List Nat) : chs (ofChs l) = l := by simp [ofChs, chs]
/-- quotedata -/
noncomputable def quoteF (l : List Nat) : List Nat := dotG true (nlG false l)

theorem sc18 : ScOk (fscope 18) := .of (by decide +kernel)
theorem pb18 : PosBind 18 1 := by
  intro vs h name qual dV kV doc pm cdv ct hd
  subst hd
  obtain ⟨v0, rfl⟩ := ofLen1 h
  rfl
section
variable {X : Cx} {k : Nat}
/-- the patterns as the text's top leaves them -/
structure Pats (X : Cx) : Prop where
  p1 : PatAt X.hb 114 code1
  p2 : PatAt X.hb 119 code2
theorem glue_eq {l : List Str} {t : List Nat} (h : (l.map chs).flatten = t) : glueAll l = ofChs t := by
  rw [← ofChs_chs (glueAll l), glue_chs, h]
theorem quote_ok (F : Facts X) (P : Pats X) {t : List Nat} (hl : t.length ≤ 2 ^ 15) : CallV X (k + 1) true (.ref 126) [.str (ofChs t)] [] (.str (ofChs (quoteF t))) := by
  refine ownFn F.f18 sc18 pb18 rfl F.nolim (by decide +kernel) (by decide +kernel) ?_
  obtain ⟨tc, htc⟩ := F.crlf
  have hs1 : (ofChs t).cps.size = t.length := by simp [ofChs]
  have g1 := sub_nl (x := ofChs t) (rep := ("\r\n" : Str)) rfl ((ofChs t).cps.size + 1) 0 (Nat.zero_le _) (by omega)
  rw [List.drop_zero, chs_ofChs] at g1
  have hn := nlG_len false t
  have hs2 : (ofChs (nlG false t)).cps.size = (nlG false t).length := by simp [ofChs]
  have g2 := sub_dot (x := ofChs (nlG false t)) (rep := (".." : Str)) rfl (by omega) ((ofChs (nlG false t)).cps.size + 1) 0 (Nat.zero_le _) (by omega)
  rw [List.drop_zero, chs_ofChs] at g2
  have hd := dotG_len true (nlG false t)
  have c2 := C_reSub (X := X) (k := k) (x := ofChs t) (rep := ("\r\n" : Str)) P.p2 finds2 (by omega) (by decide +kernel) (Fit.of (by rw [g1]; omega))
  rw [glue_eq g1] at c2
  have c1 := C_reSub (X := X) (k := k) (x := ofChs (nlG false t)) (rep := (".." : Str)) P.p1 (finds1 (by omega)) (by omega) (by decide +kernel) (Fit.of (by rw [g2]; show (dotG true _).length ≤ _; omega))
  rw [glue_eq g2] at c1
  exact S_consR (S_ret (E_meth (E_glob (.nth 1 rfl) F.g_twin_re_1 fun _ _ => .val _) (V_sub P.p1) (L_cons E_str (L_cons (E_meth (E_glob (.nth 2 rfl) F.g_twin_re_2 fun _ _ => .val _) (V_sub P.p2) (L_cons (E_glob (.nth 3 rfl) htc fun _ _ => .str _ _) (L_cons (E_name .here) L_nil)) c2) L_nil)) c1))
end
end Mine
namespace Mine

noncomputable def dflt : List Int := [0, 0, 1, 1, 0, 1, 2, 1, 3, 0, 0, 1, 1, 2, 4, 1]
noncomputable def signs : List Int := [23, 29, 51, 46, 28]
noncomputable def drawsF (script : List Int) : List Int := script.take 16 ++ dflt.drop script.length
theorem draws_len (script : List Int) : (drawsF script).length = 16 := by
  unfold drawsF
  rw [List.length_append, List.length_take, List.length_drop]
  exact (Nat.add_comm _ _).trans (Nat.sub_add_min_cancel 16 _)
noncomputable def sizeF (ds : List Int) : Nat := 2 + (ds.getD 0 0 % 2).toNat
noncomputable def sentF (ds : List Int) : Nat := 1 + (ds.getD 1 0 % 3).toNat
noncomputable def lateF (ds : List Int) : Bool := ds.getD 2 0 % 2 == 1
noncomputable def wideF (ds : List Int) : Nat := 3 + (ds.getD 3 0 % 4).toNat
noncomputable def signF (x : Int) : Int := signs.getD (x % 5).toNat 0
noncomputable def lettersF (ds : List Int) : List Int := (ds.drop 4).map signF
noncomputable def rowsF (l : List Int) : List (List Int) := [l.take 4, (l.drop 4).take 4, l.drop 8]
noncomputable def spelled : List (Int × Str) := [(23, ("." : Str)), (29, ("<=" : Str)), (51, ("->" : Str)), (46, ("**=" : Str)), (28, ("!=" : Str))]
noncomputable def endsF : List Str := [("\r" : Str), ("\n" : Str), ("\r\n" : Str)]
noncomputable def sp (x : Int) : Str := (atL spelled x).getD Str.empty
noncomputable def lineF (rows : List (List Int)) (j : Nat) : List Nat := ((rows.getD j []).map fun x => chs (sp x)).flatten ++ chs (endsF.getD j Str.empty)
noncomputable def textF (rows : List (List Int)) : List Nat := lineF rows 0 ++ lineF rows 1 ++ lineF rows 2
noncomputable def quoteN : Nat → List Nat → List Nat
  | 0, t => t
  | n + 1, t => quoteN n (quoteF t)
noncomputable def meantAll (sent : Nat) (rows : List (List Int)) : List Int := (rows.map fun row => meantF (row ++ [0]) (if row.getD 0 0 = 23 then sent else 0)).flatten
theorem sign_in (x : Int) : signF x ∈ signs := by
  unfold signF
  have h0 : 0 ≤ x % 5 := Int.emod_nonneg _ (by decide)
  have h1 : x % 5 < 5 := Int.emod_lt_of_pos _ (by decide)
  obtain ⟨n, hn⟩ := Int.eq_ofNat_of_zero_le h0
  have hn5 : n < 5 := by omega
  rw [hn, Int.toNat_natCast]
  match n, hn5 with
  | 0, _ => decide
  | 1, _ => decide
  | 2, _ => decide
  | 3, _ => decide
  | 4, _ => decide
theorem sp_at {x : Int} (h : x ∈ signs) : atL spelled x = some (sp x) := by
  simp only [signs, List.mem_cons, List.not_mem_nil, or_false] at h
  rcases h with rfl | rfl | rfl | rfl | rfl <;> rfl
theorem sp_len {x : Int} (h : x ∈ signs) : (chs (sp x)).length ≤ 3 := by
  simp only [signs, List.mem_cons, List.not_mem_nil, or_false] at h
  rcases h with rfl | rfl | rfl | rfl | rfl <;> decide
theorem spell_len : ∀ {row : List Int}, (∀ x ∈ row, x ∈ signs) → ((row.map fun x => chs (sp x)).flatten).length ≤ 3 * row.length
  | [], _ => Nat.le_refl _
  | x :: t, h => by
    rw [List.map_cons, List.flatten_cons, List.length_append, List.length_cons]
    have h1 := sp_len (h x (.head _))
    have h2 := spell_len (row := t) fun y hy => h y (.tail _ hy)
    omega
theorem quoteF_len (t : List Nat) : (quoteF t).length ≤ 4 * t.length := by
  unfold quoteF
  have h1 := dotG_len true (nlG false t)
  have h2 := nlG_len false t
  omega
theorem fmodI {i : Int} {n : Nat} (h : 0 < n) : i.fmod (n : Int) = ((i % (n : Int)).toNat : Int) := by
  rw [Int.fmod_eq_emod_of_nonneg _ (by omega), Int.toNat_of_nonneg (Int.emod_nonneg _ (by omega))]
end Mine
namespace Mine

noncomputable abbrev nu1 : List (Str × NameKind) := [((".0" : Str), .local), (("x" : Str), .local), (("signs" : Str), .cell)]
noncomputable abbrev nu2 : List (Str × NameKind) := [((".0" : Str), .local), (("k" : Str), .local), (("ends" : Str), .cell), (("rows" : Str), .cell), (("spelled" : Str), .cell)]
noncomputable abbrev nu3 : List (Str × NameKind) := [((".0" : Str), .local), (("x" : Str), .local), (("spelled" : Str), .cell)]
noncomputable abbrev nu4 : List (Str × NameKind) := [((".0" : Str), .local), (("row" : Str), .local), (("x" : Str), .local), (("_law_meant" : Str), .globalImplicit), (("sent" : Str), .cell)]
noncomputable abbrev nu5 : List (Str × NameKind) := [((".0" : Str), .local), (("stream" : Str), .local), (("_law_followed" : Str), .globalImplicit), (("draws" : Str), .cell), (("size" : Str), .cell)]
noncomputable abbrev nu6 : List (Str × NameKind) := [((".0" : Str), .local), (("part" : Str), .local)]
noncomputable abbrev nu7 : List (Str × NameKind) := [((".0" : Str), .local), (("stream" : Str), .local), (("x" : Str), .local)]
noncomputable abbrev nu8 : List (Str × NameKind) := [((".0" : Str), .local), (("kind" : Str), .local), (("whole" : Str), .cell)]

noncomputable def argOf : Expr → Expr
  | .Call _ (e :: _) _ _ => e
  | e => e
noncomputable def lcE : Expr → Expr × List Expr
  | .ListComp e [⟨_, _, ifs, _⟩] _ _ => (e, ifs)
  | e => (e, [])
noncomputable def binL : Expr → Expr
  | .BinOp l _ _ _ => l
  | e => e
noncomputable def subL : Expr → Expr
  | .Subscript e _ _ => e
  | e => e
noncomputable def arg1 : Expr → Expr
  | .Call _ [_, e] _ _ => e
  | .Call _ [e] _ _ => e
  | e => e
noncomputable def binR : Expr → Expr
  | .BinOp _ _ r _ => r
  | e => e
noncomputable def rhsOf : Option Stmt → Expr
  | some (.Assign _ e _) => e
  | _ => .Constant .none 0 ⟨0, 0, 0, 0⟩
noncomputable def cmpL : Option Stmt → Expr
  | some (.If (.Compare l _ _ _) _ _ _) => l
  | _ => .Constant .none 0 ⟨0, 0, 0, 0⟩
noncomputable def cmpR : Option Stmt → Expr
  | some (.If (.Compare _ _ [r] _) _ _ _) => r
  | _ => .Constant .none 0 ⟨0, 0, 0, 0⟩
/-- the second clause's iterable -/
noncomputable def it2 : Expr → Expr
  | .ListComp _ [_, ⟨_, i, _, _⟩] _ _ => i
  | e => e
noncomputable abbrev ltE : Expr × List Expr := lcE (rhsOf (fbody 78)[5]?)
noncomputable abbrev txE : Expr × List Expr := lcE (argOf (rhsOf (fbody 78)[8]?))
noncomputable abbrev tiE : Expr × List Expr := lcE (argOf (binL txE.1))
noncomputable abbrev paE : Expr × List Expr := lcE (rhsOf (fbody 78)[13]?)
noncomputable abbrev noE : Expr × List Expr := lcE (cmpL (fbody 78)[14]?)
noncomputable abbrev whB : List Stmt := (forOf (fbody 78)[18]?).2
noncomputable abbrev suE : Expr × List Expr := lcE (arg1 (binR (argOf (subL (rhsOf whB[0]?)))))
noncomputable def rowStr (row : List Int) : Str := glueAll (row.map sp)
noncomputable def lineStr (rows : List (List Int)) (j : Nat) : Str := rowStr (rows.getD j []) ++ endsF.getD j Str.empty
theorem chs_app (x y : Str) : chs (x ++ y) = chs x ++ chs y := by
  show (x.cps ++ y.cps).toList = _
  simp [chs]
theorem line_chs {rows : List (List Int)} {j : Nat} : chs (lineStr rows j) = lineF rows j := by
  unfold lineStr lineF rowStr
  rw [chs_app, glue_chs, List.map_map]
  rfl
theorem row_fit {row : List Int} (h : ∀ x ∈ row, x ∈ signs) (hl : row.length ≤ 2 ^ 16) : Fit (row.map sp) := Fit.of (by
  have := spell_len h
  rw [List.map_map]
  show ((row.map fun x => chs (sp x)).flatten).length ≤ _
  omega)
theorem text_glue {rows : List (List Int)} : glueAll [lineStr rows 0, lineStr rows 1, lineStr rows 2] = ofChs (textF rows) := by
  refine glue_eq ?_
  simp only [List.map_cons, List.map_nil, List.flatten_cons, List.flatten_nil, List.append_nil, line_chs]
  unfold textF
  rw [List.append_assoc]
theorem rows_at {rows : List (List Int)} {j : Nat} (h : j < rows.length) : (lists rows)[j]? = some (.list (nums (rows.getD j []))) := by
  rw [List.getElem?_map, List.getElem?_eq_getElem h, List.getD_eq_getElem?_getD, List.getElem?_eq_getElem h]; rfl
theorem rows_mem {rows : List (List Int)} {j : Nat} (h : j < rows.length) : rows.getD j [] ∈ rows := by
  rw [List.getD_eq_getElem?_getD, List.getElem?_eq_getElem h]
  exact List.getElem_mem h

section
variable {X : Cx} {k : Nat}

theorem letComp (sc : Scope) (hsc : sc.names = nu1) : ∀ ds : List Int, Comps X k sc [none, none, some (.val (.list (nums signs)))] 1 ("x" : Str) ltE.2 ltE.1 (nums ds) (nums (ds.map signF))
  | [] => .nil
  | x :: ds => by
    obtain ⟨kind_, names_, gen, co, more⟩ := sc
    simp only at hsc; subst hsc
    have hm : (nums signs)[(x % 5).toNat]? = some (.int (signF x)) := by
      have h1 : (x % 5).toNat < signs.length := by
        have := Int.emod_lt_of_pos x (show (0 : Int) < 5 by decide)
        show _ < 5
        omega
      rw [nums_at h1]; rfl
    exact .keep (.nth 1 rfl) rfl (E_sub (E_name (.nth 2 rfl)) (E_is (a := .int (x.fmod 5)) (by rw [show (5 : Int) = ((5 : Nat) : Int) from rfl, fmodI (by decide)]) (E_bin (E_name (.nth 1 rfl)) E_int (B_mod (j := 5) (by decide)))) (I_at hm (by
      have := Int.emod_lt_of_pos x (show (0 : Int) < 5 by decide)
      omega))) (letComp _ rfl ds)

theorem spellComp (sc : Scope) (hsc : sc.names = nu3) : ∀ row : List Int, (∀ x ∈ row, x ∈ signs) → Comps X k sc [none, none, some (.val (.dictS spelled))] 1 ("x" : Str) tiE.2 tiE.1 (nums row) ((row.map sp).map AV.str)
  | [], _ => .nil
  | x :: row, h => by
    obtain ⟨kind_, names_, gen, co, more⟩ := sc
    simp only at hsc; subst hsc
    have hx := h x (.head _)
    exact .keep (.nth 1 rfl) rfl (E_sub (E_name (.nth 2 rfl)) (E_name (.nth 1 rfl)) (I_dictS (sp_at hx))) (spellComp _ rfl row fun y hy => h y (.tail _ hy))

theorem textComp {rows : List (List Int)} (hr : ∀ row ∈ rows, (∀ x ∈ row, x ∈ signs) ∧ row.length ≤ 2 ^ 16) (h3 : rows.length = 3) (sc : Scope) (hsc : sc.names = nu2) : ∀ js : List Nat, (∀ j ∈ js, j < 3) → Comps X k sc [none, none, some (.val (.list (endsF.map AV.str))), some (.val (.list (lists rows))), some (.val (.dictS spelled))] 1 ("k" : Str) txE.2 txE.1 (js.map fun i => AV.int (i : Nat)) ((js.map (lineStr rows)).map AV.str)
  | [], _ => .nil
  | j :: js, h => by
    obtain ⟨kind_, names_, gen, co, more⟩ := sc
    simp only at hsc; subst hsc
    have hj3 := h j (.head _)
    have hj : j < rows.length := by omega
    obtain ⟨hs, hl⟩ := hr _ (rows_mem hj)
    have hend : (endsF.map AV.str)[j]? = some (.str (endsF.getD j Str.empty)) := by
      match j, hj3 with
      | 0, _ => rfl
      | 1, _ => rfl
      | 2, _ => rfl
    have hf := row_fit hs hl
    have hline : (lineStr rows j).length ≤ sizeLine := by
      have : (lineStr rows j).length = (chs (lineStr rows j)).length := by simp [chs, Str.length]
      rw [this, line_chs]
      unfold lineF
      rw [List.length_append]
      have h1 := spell_len hs
      have h2 : (chs (endsF.getD j Str.empty)).length ≤ 2 := by
        match j, hj3 with
        | 0, _ => decide
        | 1, _ => decide
        | 2, _ => decide
      show _ ≤ 2 ^ 24
      omega
    refine .keep (.nth 1 rfl) rfl ?_ (textComp hr h3 _ rfl js fun z hz => h z (.tail _ hz))
    exact (E_bin (E_meth E_str V_join (L_cons (EvalsN.evals (N_listComp (bor := false) (I_list (E_sub (E_name (.nth 3 rfl)) (E_name (.nth 1 rfl)) (I_at (rows_at hj) (by omega)))) (ns' := nu3) ⟨.loc (.loc (.cell (.nth 4 rfl) .nil)), rfl, by decide +kernel, by decide +kernel, (by intro sl h; cases h), rfl⟩ (spellComp _ rfl _ hs) (fun h => by cases h) (by rw [List.length_map]; show _ ≤ 2 ^ 24; omega))) L_nil) (C_join hf.short hf.line)) (E_sub (E_name (.nth 2 rfl)) (E_name (.nth 1 rfl)) (I_at hend (by omega))) (B_strAdd hline))

theorem meantNest (F : Facts X) (hk : 1 ≤ k) {sent : Nat} (hs : sent ≤ 8) (sc : Scope) (hsc : sc.names = nu4) : ∀ rows : List (List Int), (∀ row ∈ rows, row ≠ [] ∧ row.length ≤ 2 ^ 16) → Nest X k sc [none, none, none, none, some (.val (.int (sent : Nat)))] 1 2 ("row" : Str) (it2 (cmpR (fbody 78)[11]?)) (lists rows) (meantAll sent rows)
  | [], _ => .nil
  | row :: rows, h => by
    obtain ⟨kind_, names_, gen, co, more⟩ := sc
    simp only at hsc; subst hsc
    obtain ⟨hne, hl⟩ := h row (.head _)
    have h0 : row[0]? = some (row.getD 0 0) := by
      cases row with
      | nil => exact absurd rfl hne
      | cons a t => rfl
    exact .cons (.nth 1 rfl) (by intro sl h; cases h) (I_list (E_call (E_glob (.nth 3 rfl) F.g_law_meant fun _ _ => .val _) (keep73 F) (L_cons (E_name (.nth 1 rfl)) (L_cons (E_name (.nth 4 rfl)) L_nil)) K_nil ((meant_ok (k := 0) F h0 (by omega)).up hk))) (meantNest F hk hs _ rfl rows fun z hz => h z (.tail _ hz))

theorem everyNest (sc : Scope) (hsc : sc.names = nu7) : ∀ streams : List (List Int), Nest X k sc [none, none, none] 1 2 ("stream" : Str) (it2 (rhsOf (fbody 78)[15]?)) (lists streams) streams.flatten
  | [] => .nil
  | stream :: streams => by
    obtain ⟨kind_, names_, gen, co, more⟩ := sc
    simp only at hsc; subst hsc
    exact .cons (.nth 1 rfl) (by intro sl h; cases h) (I_list (E_name (.nth 1 rfl))) (everyNest _ rfl streams)

theorem partComp (F : Facts X) (hk : 90 ≤ k) {ds : List Int} (hd : ds.length = 16) {size : Nat} (hsz : 0 < size ∧ size ≤ 8) (sc : Scope) (hsc : sc.names = nu5) : ∀ (streams : List (List Int)) (ps : List (List (Int × Int))), streams.map (fun st => followF st size (wideF ds) (lateF ds)) = ps.map some → (∀ st ∈ streams, st.length < 2 ^ 20) →
    Comps X k sc [none, none, none, some (.val (.list (nums ds))), some (.val (.int (size : Nat)))] 1 ("stream" : Str) paE.2 paE.1 (lists streams) (ps.map AV.dictI)
  | [], [], _, _ => .nil
  | [], _ :: _, h, _ => by cases h
  | _ :: _, [], h, _ => by cases h
  | st :: streams, p :: ps, h, hl => by
    obtain ⟨kind_, names_, gen, co, more⟩ := sc
    simp only at hsc; subst hsc
    rw [List.map_cons, List.map_cons] at h
    injection h with h1 h2
    have hw4 := Int.emod_lt_of_pos (ds.getD 3 0) (show (0 : Int) < 4 by decide)
    have hw0 := Int.emod_nonneg (ds.getD 3 0) (show (4 : Int) ≠ 0 by decide)
    have hw : 0 < wideF ds ∧ wideF ds ≤ 8 := by unfold wideF; omega
    refine .keep (.nth 1 rfl) rfl ?_ (partComp F hk hd hsz _ rfl streams ps h2 fun z hz => hl z (.tail _ hz))
    exact (E_call (E_glob (.nth 2 rfl) F.g_law_followed fun _ _ => .val _) (keep76 F) (L_cons (E_name (.nth 1 rfl)) (L_cons (E_name (.nth 4 rfl)) (L_cons (E_is (a := .int (3 + (ds.getD 3 0).fmod 4)) (c := .int ((wideF ds : Nat) : Int)) (by unfold wideF; rw [show (4 : Int) = ((4 : Nat) : Int) from rfl, fmodI (by decide)]; push_cast; rfl) (E_bin E_int (E_bin (E_sub (E_name (.nth 3 rfl)) E_int (I_at (i := 3) (nums_at (by omega)) (by decide))) E_int (B_mod (j := 4) (by decide))) (B_add))) (L_cons (E_is (a := .val (.bool ((ds.getD 2 0).fmod 2 == 1))) (c := .val (.bool (lateF ds))) (by unfold lateF; rw [Int.fmod_eq_emod_of_nonneg _ (by decide)]) (E_cmp (E_bin (E_sub (E_name (.nth 3 rfl)) E_int (I_at (i := 2) (nums_at (by omega)) (by decide))) E_int (B_mod (j := 2) (by decide))) E_int (C_eq))) L_nil)))) K_nil ((followed_ok (k := 80) F (Nat.le_refl _) (hl st (.head _)) hsz hw h1).up (by omega)))

theorem noneComp (sc : Scope) (hsc : sc.names = nu6) : ∀ ps : List (List (Int × Int)), Comps X k sc [none, none] 1 ("part" : Str) noE.2 noE.1 (ps.map AV.dictI) []
  | [] => .nil
  | p :: ps => by
    obtain ⟨kind_, names_, gen, co, more⟩ := sc
    simp only at hsc; subst hsc
    exact .skip (.nth 1 rfl) (show Tests _ _ _ _ _ _ from T_cmp (E_name (.nth 1 rfl)) E_none C_dictIs) (noneComp _ rfl ps)

theorem sumComp {wh : List (Int × Int)} (sc : Scope) (hsc : sc.names = nu8) : ∀ ks : List Int, (∀ x ∈ ks, x ∈ wh.map (·.1)) → Comps X k sc [none, none, some (.val (.dictI wh))] 1 ("kind" : Str) suE.2 suE.1 (nums ks) (nums (ks.map (atv wh)))
  | [], _ => .nil
  | x :: ks, h => by
    obtain ⟨kind_, names_, gen, co, more⟩ := sc
    simp only at hsc; subst hsc
    have hx := h x (.head _)
    exact .keep (.nth 1 rfl) rfl (E_sub (E_name (.nth 2 rfl)) (E_name (.nth 1 rfl)) (I_dictI (atv_at hx))) (sumComp _ rfl ks fun y hy => h y (.tail _ hy))
end
end Mine
namespace Mine

noncomputable def sumOf (wh : List (Int × Int)) : Int := ((wh.map (·.1)).map (atv wh)).sum
noncomputable def spareF (every : List Int) (size : Nat) (wh : List (Int × Int)) : Nat := ((every.length : Int) - sumOf wh).toNat / (size + 1)
structure WholeOk (every : List Int) (size : Nat) (wh : List (Int × Int)) : Prop where
  len : wh.length ≤ size
  pos : 0 ≤ (every.length : Int) - sumOf wh
  top : sumOf wh + 2 ^ 30 ≥ 0
  kinds : ∀ kind ∈ signs ++ [52], (every.count kind : Int) - (spareF every size wh : Int) ≤ (atL wh kind).getD 0 ∧ (atL wh kind).getD 0 ≤ (every.count kind : Int)
noncomputable abbrev lawRows (ds : List Int) : List (List Int) := rowsF (lettersF ds)
noncomputable abbrev lawText (ds : List Int) : List Nat := quoteN (sentF ds) (textF (lawRows ds))
noncomputable abbrev lawStreams (ds : List Int) : List (List Int) := (streamsF (meantAll (sentF ds) (lawRows ds)) [] []).1
structure Good (ds : List Int) : Prop where
  sym : symF (ofChs (lawText ds)) (ofChs (lawText ds)).length 0 = meantAll (sentF ds) (lawRows ds)
  parts : ∃ p0 p1 p2 : List (Int × Int), (lawStreams ds).map (fun st => followF st (sizeF ds) (wideF ds) (lateF ds)) = [some p0, some p1, some p2] ∧ p0.length ≤ 8 ∧ p1.length ≤ 8 ∧ p2.length ≤ 8 ∧
    WholeOk (lawStreams ds).flatten (sizeF ds) (joinedF (joinedF p0 p1 (sizeF ds)) p2 (sizeF ds)) ∧ WholeOk (lawStreams ds).flatten (sizeF ds) (joinedF p0 (joinedF p1 p2 (sizeF ds)) (sizeF ds))
  slen : (meantAll (sentF ds) (lawRows ds)).length < 2 ^ 10

section
variable {X : Cx} {k : Nat}

theorem turnLoop (F : Facts X) (P : Pats X) (hk : 1 ≤ k) {script ds lets : List Int} {size sent : Nat} {rows : List (List Int)} : ∀ (n j : Nat) (t : List Nat), t.length * 4 ^ n ≤ 2 ^ 15 →
    Fors X k (fscope 78) [some (.val (.list (nums script))), some (.val (.list (nums ds))), some (.val (.int (size : Nat))), some (.val (.int (sent : Nat))), some (.val (.list (nums signs))), some (.val (.dictS spelled)), some (.val (.list (nums lets))), some (.val (.list (lists rows))), some (.val (.list (endsF.map AV.str))), some (.val (.str (ofChs t))), none, none, none, none, none, none, none, none, none, none] (forOf (fbody 78)[9]?).1 (forOf (fbody 78)[9]?).2 ((List.range' j n).map fun i => .int (i : Nat)) (.next [some (.val (.list (nums script))), some (.val (.list (nums ds))), some (.val (.int (size : Nat))), some (.val (.int (sent : Nat))), some (.val (.list (nums signs))), some (.val (.dictS spelled)), some (.val (.list (nums lets))), some (.val (.list (lists rows))), some (.val (.list (endsF.map AV.str))), some (.val (.str (ofChs (quoteN n t)))), none, none, none, none, none, none, none, none, none, none])
  | 0, _, _, _ => F_nil fun _ _ => rfl
  | n + 1, j, t, h => by
    have h4 : t.length * 4 * 4 ^ n ≤ 2 ^ 15 := by rw [Nat.mul_assoc, Nat.mul_comm 4, ← Nat.pow_succ]; exact h
    have hq := quoteF_len t
    have h5 : (quoteF t).length * 4 ^ n ≤ 2 ^ 15 := Nat.le_trans (Nat.mul_le_mul_right _ hq) (by rw [Nat.mul_comm 4]; exact h4)
    have hp : 0 < 4 ^ (n + 1) := Nat.pow_pos (by decide)
    have hl : t.length ≤ 2 ^ 15 := Nat.le_trans (Nat.le_mul_of_pos_right _ hp) h
    rw [List.range'_succ, List.map_cons]
    exact F_cons (i' := 10) (.nth 10 rfl) (by exact S_cons (S_assign (E_call (E_glob (.nth 22 rfl) F.g_quotedata fun _ _ => .val _) (keep18 F) (L_cons (E_name (.nth 9 rfl)) L_nil) K_nil ((quote_ok (k := 0) F P (by omega)).up (by omega))) (.nth 9 rfl)) S_nil) (F_less (by exact .keep (.keep (.keep (.keep (.keep (.keep (.keep (.keep (.keep (.keep (.drop (.keep (.keep (.keep (.keep (.keep (.keep (.keep (.keep (.keep .nil)))))))))))))))))))) (turnLoop F P hk n (j + 1) (quoteF t) h5))

theorem lastLoop (F : Facts X) {script ds lets syms every : List Int} {size sent : Nat} {rows streams : List (List Int)} {txt : List Nat} {p0 p1 p2 front back : List (Int × Int)} {wh : List (Int × Int)} : ∀ (items : List Int), (∀ kind ∈ items, (every.count kind : Int) - (spareF every size wh : Int) ≤ (atL wh kind).getD 0 ∧ (atL wh kind).getD 0 ≤ (every.count kind : Int)) →
    Fors X k (fscope 78) [some (.val (.list (nums script))), some (.val (.list (nums ds))), some (.val (.int (size : Nat))), some (.val (.int (sent : Nat))), some (.val (.list (nums signs))), some (.val (.dictS spelled)), some (.val (.list (nums lets))), some (.val (.list (lists rows))), some (.val (.list (endsF.map AV.str))), some (.val (.str (ofChs txt))), none, some (.val (.list (nums syms))), some (.val (.list (lists streams))), some (.val (.list [.dictI p0, .dictI p1, .dictI p2])), some (.val (.list (nums every))), some (.val (.dictI front)), some (.val (.dictI back)), some (.val (.dictI wh)), none, some (.val (.int (spareF every size wh : Nat)))] (forOf whB[2]?).1 (forOf whB[2]?).2 (nums items) (.next [some (.val (.list (nums script))), some (.val (.list (nums ds))), some (.val (.int (size : Nat))), some (.val (.int (sent : Nat))), some (.val (.list (nums signs))), some (.val (.dictS spelled)), some (.val (.list (nums lets))), some (.val (.list (lists rows))), some (.val (.list (endsF.map AV.str))), some (.val (.str (ofChs txt))), none, some (.val (.list (nums syms))), some (.val (.list (lists streams))), some (.val (.list [.dictI p0, .dictI p1, .dictI p2])), some (.val (.list (nums every))), some (.val (.dictI front)), some (.val (.dictI back)), some (.val (.dictI wh)), none, some (.val (.int (spareF every size wh : Nat)))])
  | [], _ => F_nil fun _ _ => rfl
  | kind :: items, h => by
    obtain ⟨h1, h2⟩ := h kind (.head _)
    refine F_cons (Γ₂ := [some (.val (.list (nums script))), some (.val (.list (nums ds))), some (.val (.int (size : Nat))), some (.val (.int (sent : Nat))), some (.val (.list (nums signs))), some (.val (.dictS spelled)), some (.val (.list (nums lets))), some (.val (.list (lists rows))), some (.val (.list (endsF.map AV.str))), some (.val (.str (ofChs txt))), none, some (.val (.list (nums syms))), some (.val (.list (lists streams))), some (.val (.list [.dictI p0, .dictI p1, .dictI p2])), some (.val (.list (nums every))), some (.val (.dictI front)), some (.val (.dictI back)), some (.val (.dictI wh)), some (.val (.int kind)), some (.val (.int (spareF every size wh : Nat)))]) (i' := 18) (.nth 18 rfl) ?_ (F_less (by exact .keep (.keep (.keep (.keep (.keep (.keep (.keep (.keep (.keep (.keep (.keep (.keep (.keep (.keep (.keep (.keep (.keep (.keep (.drop (.keep .nil)))))))))))))))))))) (lastLoop F items fun z hz => h z (.tail _ hz)))
    refine S_cons (S_ifF (T_isnt (t := !true) rfl ?_) S_nil) S_nil
    exact (T_not (T_chain2 (E_bin (E_meth (E_name (.nth 14 rfl)) (V_count) (L_cons (E_name (.nth 18 rfl)) L_nil) (C_count)) (E_name (.nth 19 rfl)) (B_sub)) (E_meth (E_name (.nth 17 rfl)) (V_dget) (L_cons (E_name (.nth 18 rfl)) (L_cons E_int L_nil)) (C_dget)) (CmpV.is (by simpa using h1) C_le) (E_meth (E_name (.nth 14 rfl)) (V_count) (L_cons (E_name (.nth 18 rfl)) L_nil) (C_count)) (CmpV.is (by simpa using h2) C_le)))

theorem whole_body (F : Facts X) (hk : 120 ≤ k) {script ds lets syms every : List Int} {size sent : Nat} {rows streams : List (List Int)} {txt : List Nat} {p0 p1 p2 front back : List (Int × Int)} {wh : List (Int × Int)} (hsz : 0 < size ∧ size ≤ 8) (hev : every.length < 2 ^ 20) (hw : WholeOk every size wh) :
    ∃ o, Execs X k (fscope 78) [some (.val (.list (nums script))), some (.val (.list (nums ds))), some (.val (.int (size : Nat))), some (.val (.int (sent : Nat))), some (.val (.list (nums signs))), some (.val (.dictS spelled)), some (.val (.list (nums lets))), some (.val (.list (lists rows))), some (.val (.list (endsF.map AV.str))), some (.val (.str (ofChs txt))), none, some (.val (.list (nums syms))), some (.val (.list (lists streams))), some (.val (.list [.dictI p0, .dictI p1, .dictI p2])), some (.val (.list (nums every))), some (.val (.dictI front)), some (.val (.dictI back)), some (.val (.dictI wh)), none, none] whB (.next [some (.val (.list (nums script))), some (.val (.list (nums ds))), some (.val (.int (size : Nat))), some (.val (.int (sent : Nat))), some (.val (.list (nums signs))), some (.val (.dictS spelled)), some (.val (.list (nums lets))), some (.val (.list (lists rows))), some (.val (.list (endsF.map AV.str))), some (.val (.str (ofChs txt))), none, some (.val (.list (nums syms))), some (.val (.list (lists streams))), some (.val (.list [.dictI p0, .dictI p1, .dictI p2])), some (.val (.list (nums every))), some (.val (.dictI front)), some (.val (.dictI back)), some (.val (.dictI wh)), none, o]) := by
  refine ⟨some (.val (.int (spareF every size wh : Nat))), ?_⟩
  obtain ⟨n, hn⟩ : ∃ n : Nat, (every.length : Int) - sumOf wh = (n : Nat) := ⟨_, (Int.toNat_of_nonneg hw.pos).symm⟩
  have hn40 : n < 2 ^ 40 := by
    have := hw.top
    omega
  have hsp : n / (size + 1) = spareF every size wh := by unfold spareF; rw [hn]; rfl
  refine S_cons (S_assign (E_sub (E_call (E_glob (.nth 26 rfl) F.g_int_divmod fun _ _ => .val _) (keep13 F) (L_cons (E_is (a := .int ((every.length : Int) - sumOf wh)) (c := .int (n : Nat)) (by rw [hn]) (E_bin (E_is (c := .int (every.length : Int)) (by rw [List.length_map]) (E_call (E_glob (.nth 20 rfl) F.g_len fun _ _ => .val _) (keepB) (L_cons (E_name (.nth 14 rfl)) L_nil) K_nil (C_len_list (by rw [List.length_map]; omega)))) (E_call (E_glob (.nth 27 rfl) F.g_sum fun _ _ => .val _) keepB (L_cons (EvalsN.evals (N_listComp (bor := false) (I_dict (E_name (.nth 17 rfl))) (ns' := nu8) ⟨.loc (.loc (.cell (.nth 17 rfl) .nil)), rfl, by decide +kernel, by decide +kernel, (by intro sl h; cases h), rfl⟩ (sumComp _ rfl (wh.map (·.1)) fun _ h => h) (fun h => by cases h) (by rw [List.length_map, List.length_map]; have := hw.len; show _ ≤ 2 ^ 24; omega))) L_nil) K_nil C_sum) B_sub)) (L_cons (E_is (c := .int ((size + 1 : Nat) : Int)) rfl (E_bin (E_name (.nth 2 rfl)) E_int (B_add))) L_nil)) K_nil ((idm_ok (k := 70) F (by omega) (a := n) (b := size + 1) hn40 (by omega) (by omega)).up (by omega))) E_int (I_tup (i := 0) (c := (spareF every size wh : Nat)) (by rw [← hsp]; rfl) (by decide))) (.nth 19 rfl)) ?_
  refine S_cons (S_ifF (T_isnt (by have := hw.len; simpa using this) (T_cmp (E_call (E_glob (.nth 20 rfl) F.g_len fun _ _ => .val _) (keepB) (L_cons (E_name (.nth 17 rfl)) L_nil) K_nil (C_len_dict (by have := hw.len; omega))) (E_name (.nth 2 rfl)) (C_gt))) S_nil) ?_
  refine S_cons (S_for (I_list (EvalsN.evals (N_is (l := nums signs ++ nums [52]) (l' := nums (signs ++ [52])) (by rw [nums, nums, nums, List.map_append]) (N_bin (E_name (.nth 4 rfl)) (EvalsN.evals (N_list (L_cons E_int L_nil) (by simp only [List.length_cons, List.length_nil]; decide))) (BN_add (by simp only [signs, List.length_map, List.length_cons, List.length_nil]; decide)))))) (lastLoop F (signs ++ [52]) hw.kinds)) S_nil

theorem wholeLoop (F : Facts X) (hk : 120 ≤ k) {script ds lets syms every : List Int} {size sent : Nat} {rows streams : List (List Int)} {txt : List Nat} {p0 p1 p2 front back : List (Int × Int)} (hsz : 0 < size ∧ size ≤ 8) (hev : every.length < 2 ^ 20) : ∀ (items : List (List (Int × Int))), (∀ wh ∈ items, WholeOk every size wh) →
    Fors X k (fscope 78) [some (.val (.list (nums script))), some (.val (.list (nums ds))), some (.val (.int (size : Nat))), some (.val (.int (sent : Nat))), some (.val (.list (nums signs))), some (.val (.dictS spelled)), some (.val (.list (nums lets))), some (.val (.list (lists rows))), some (.val (.list (endsF.map AV.str))), some (.val (.str (ofChs txt))), none, some (.val (.list (nums syms))), some (.val (.list (lists streams))), some (.val (.list [.dictI p0, .dictI p1, .dictI p2])), some (.val (.list (nums every))), some (.val (.dictI front)), some (.val (.dictI back)), none, none, none] (forOf (fbody 78)[18]?).1 whB (items.map AV.dictI) (.next [some (.val (.list (nums script))), some (.val (.list (nums ds))), some (.val (.int (size : Nat))), some (.val (.int (sent : Nat))), some (.val (.list (nums signs))), some (.val (.dictS spelled)), some (.val (.list (nums lets))), some (.val (.list (lists rows))), some (.val (.list (endsF.map AV.str))), some (.val (.str (ofChs txt))), none, some (.val (.list (nums syms))), some (.val (.list (lists streams))), some (.val (.list [.dictI p0, .dictI p1, .dictI p2])), some (.val (.list (nums every))), some (.val (.dictI front)), some (.val (.dictI back)), none, none, none])
  | [], _ => F_nil fun _ _ => rfl
  | wh :: items, h => by
    obtain ⟨o, hb⟩ := whole_body F hk (script := script) (ds := ds) (lets := lets) (syms := syms) (sent := sent) (rows := rows) (streams := streams) (txt := txt) (p0 := p0) (p1 := p1) (p2 := p2) (front := front) (back := back) hsz hev (h wh (.head _))
    exact F_cons (Γ₂ := [some (.val (.list (nums script))), some (.val (.list (nums ds))), some (.val (.int (size : Nat))), some (.val (.int (sent : Nat))), some (.val (.list (nums signs))), some (.val (.dictS spelled)), some (.val (.list (nums lets))), some (.val (.list (lists rows))), some (.val (.list (endsF.map AV.str))), some (.val (.str (ofChs txt))), none, some (.val (.list (nums syms))), some (.val (.list (lists streams))), some (.val (.list [.dictI p0, .dictI p1, .dictI p2])), some (.val (.list (nums every))), some (.val (.dictI front)), some (.val (.dictI back)), some (.val (.dictI wh)), none, o]) (i' := 17) (.nth 17 rfl) hb (F_less (by exact .keep (.keep (.keep (.keep (.keep (.keep (.keep (.keep (.keep (.keep (.keep (.keep (.keep (.keep (.keep (.keep (.keep (.drop (.keep (.drop .nil)))))))))))))))))))) (wholeLoop F hk hsz hev items fun z hz => h z (.tail _ hz)))
end
end Mine
namespace Mine

theorem take_min {α : Type} {l : List α} {a : Nat} : l.take (min a l.length) = l.take a := by
  rcases Nat.le_total a l.length with h | h
  · rw [Nat.min_eq_left h]
  · rw [Nat.min_eq_right h, List.take_of_length_le h, List.take_of_length_le (Nat.le_refl _)]
theorem drop_min {α : Type} {l : List α} {a : Nat} : l.drop (min a l.length) = l.drop a := by
  rcases Nat.le_total a l.length with h | h
  · rw [Nat.min_eq_left h]
  · rw [Nat.min_eq_right h, List.drop_eq_nil_of_le h, List.drop_eq_nil_of_le (Nat.le_refl _)]
theorem cut_take' {α : Type} {l : List α} {a : Nat} : cutL none (some (a : Int)) l = l.take a := by
  unfold cutL
  simp only [Option.elim, List.drop_zero, clipAt_nat, Nat.sub_zero]
  exact take_min
theorem cut_drop' {α : Type} {l : List α} {a : Nat} : cutL (some (a : Int)) none l = l.drop a := by
  unfold cutL
  simp only [Option.elim, clipAt_nat]
  rw [drop_min, List.take_of_length_le (by rw [List.length_drop]; exact Nat.sub_le_sub_left (Nat.min_le_left _ _) _)]
theorem cut_mid {α : Type} {l : List α} {a b : Nat} (ha : a ≤ l.length) (hb : b ≤ l.length) : cutL (some (a : Int)) (some (b : Int)) l = (l.drop a).take (b - a) := by
  unfold cutL
  simp only [Option.elim, clipAt_nat]
  rw [Nat.min_eq_left ha, Nat.min_eq_left hb]
theorem joined_len {a b : List (Int × Int)} {size : Nat} : (joinedF a b size).length ≤ a.length + b.length := by
  unfold joinedF
  refine Nat.le_trans (dput_len _ _) ?_
  rw [List.length_nil, Nat.zero_add]
  refine Nat.le_trans (List.length_filterMap_le _ _) ?_
  rw [List.length_map]
  unfold bothF
  refine Nat.le_trans (dput_len _ _) ?_
  rw [List.length_nil, Nat.zero_add, List.length_map, List.length_append, List.length_map, List.length_map]
  exact Nat.le_refl _
theorem streams_flat : ∀ (items : List Int) (done : List (List Int)) (last : List Int), ((streamsF items done last).1.flatten).length ≤ done.flatten.length + last.length + items.length
  | [], done, last => by
    show done.flatten.length ≤ _
    omega
  | s :: t, done, last => by
    show ((if s = 0 then streamsF t (done ++ [last]) [] else streamsF t done (last ++ [s])).1.flatten).length ≤ _
    split
    · have := streams_flat t (done ++ [last]) []
      simp only [List.flatten_append, List.length_append, List.flatten_cons, List.flatten_nil, List.append_nil, List.length_nil, List.length_cons] at this ⊢
      omega
    · have := streams_flat t done (last ++ [s])
      simp only [List.length_append, List.length_cons, List.length_nil] at this ⊢
      omega
theorem flat_len {ll : List (List Int)} {l : List Int} (h : l ∈ ll) : l.length ≤ ll.flatten.length := by
  induction ll with
  | nil => cases h
  | cons a t ih =>
    rw [List.flatten_cons, List.length_append]
    rcases List.mem_cons.mp h with rfl | h
    · omega
    · have := ih h; omega
noncomputable def listEs : Expr → List Expr
  | .List es _ => es
  | _ => []
noncomputable abbrev dfA : List AV := [.int 0, .int 0, .int 1, .int 1, .int 0, .int 1, .int 2, .int 1, .int 3, .int 0, .int 0, .int 1, .int 1, .int 2, .int 4, .int 1]
section
variable {X : Cx} {k : Nat}
theorem L_int {b : Bool} {sc : Scope} {Γ : List (Option Slot)} {i : Int} {n : Nat} {p : Pos} {es : List Expr} {as : List AV} (h : EvalsL X b k sc Γ es as) : EvalsL X b k sc Γ (.Constant (.int i) n p :: es) (.int i :: as) := L_cons E_int h
theorem dfA_eq : dfA = nums dflt := rfl

set_option maxHeartbeats 400000 in
theorem law_body (F : Facts X) (P : Pats X) (hk : 120 ≤ k) {script : List Int} (hscr : script.length ≤ 2 ^ 10) (G : Good (drawsF script)) : Execs X k (fscope 78) [some (.val (.list (nums script))), none, none, none, none, none, none, none, none, none, none, none, none, none, none, none, none, none, none, none] (fbody 78) (.ret (.val (.bool true))) := by
  obtain ⟨ds, hds⟩ : ∃ ds, ds = drawsF script := ⟨_, rfl⟩
  rw [← hds] at G
  have hdl : ds.length = 16 := by rw [hds]; exact draws_len script
  obtain ⟨size, hsize⟩ : ∃ size, size = sizeF ds := ⟨_, rfl⟩
  obtain ⟨sent, hsent⟩ : ∃ sent, sent = sentF ds := ⟨_, rfl⟩
  obtain ⟨rows, hrows⟩ : ∃ rows, rowsF (lettersF ds) = rows := ⟨_, rfl⟩
  obtain ⟨lets, hlets⟩ : ∃ lets, lets = (ds.drop 4).map signF := ⟨_, rfl⟩
  have hll : lets.length = 12 := by rw [hlets, List.length_map, List.length_drop, hdl]
  have h20 := Int.emod_lt_of_pos (ds.getD 0 0) (show (0 : Int) < 2 by decide)
  have h30 := Int.emod_lt_of_pos (ds.getD 1 0) (show (0 : Int) < 3 by decide)
  have hsz : 0 < size ∧ size ≤ 8 := by rw [hsize]; unfold sizeF; omega
  have hsn : sent ≤ 3 := by rw [hsent]; unfold sentF; omega
  have hletm : ∀ x ∈ lets, x ∈ signs := fun x hx => by
    rw [hlets] at hx
    obtain ⟨y, _, rfl⟩ := List.mem_map.mp hx
    exact sign_in y
  have hrE : rows = [lets.take 4, (lets.drop 4).take 4, lets.drop 8] := by rw [← hrows, hlets]; rfl
  have hr3 : rows.length = 3 := by rw [hrE]; rfl
  have hrl : ∀ row ∈ rows, row.length = 4 := fun row hrow => by
    rw [hrE] at hrow
    simp only [List.mem_cons, List.not_mem_nil, or_false] at hrow
    rcases hrow with rfl | rfl | rfl <;> simp [hll]
  have hrm : ∀ row ∈ rows, ∀ x ∈ row, x ∈ signs := fun row hrow x hx => by
    rw [hrE] at hrow
    simp only [List.mem_cons, List.not_mem_nil, or_false] at hrow
    rcases hrow with rfl | rfl | rfl
    · exact hletm x (List.mem_of_mem_take hx)
    · exact hletm x (List.mem_of_mem_drop (List.mem_of_mem_take hx))
    · exact hletm x (List.mem_of_mem_drop hx)
  have hr : ∀ row ∈ rows, (∀ x ∈ row, x ∈ signs) ∧ row.length ≤ 2 ^ 16 := fun row hrow => ⟨hrm row hrow, by rw [hrl row hrow]; decide⟩
  have hrne : ∀ row ∈ rows, row ≠ [] := fun row hrow e => by
    have := hrl row hrow
    rw [e] at this; cases this
  have hline : ∀ j, j < 3 → (lineF rows j).length ≤ 14 := fun j hj => by
    have hm := rows_mem (rows := rows) (j := j) (by omega)
    unfold lineF
    rw [List.length_append]
    have h1 := spell_len (hrm _ hm)
    rw [hrl _ hm] at h1
    have h2 : (chs (endsF.getD j Str.empty)).length ≤ 2 := by
      match j, hj with
      | 0, _ => decide
      | 1, _ => decide
      | 2, _ => decide
    omega
  have htxl : (textF rows).length ≤ 42 := by
    unfold textF
    rw [List.length_append, List.length_append]
    have a0 := hline 0 (by decide)
    have a1 := hline 1 (by decide)
    have a2 := hline 2 (by decide)
    omega
  have htl : (textF rows).length * 4 ^ sent ≤ 2 ^ 15 := by
    have : 4 ^ sent ≤ 4 ^ 3 := Nat.pow_le_pow_right (by decide) hsn
    exact Nat.le_trans (Nat.mul_le_mul htxl this) (by decide)
  have hfit : Fit ((List.range 3).map (lineStr rows)) := Fit.of (by
    have : (((List.range 3).map (lineStr rows)).map chs).flatten = textF rows := by
      show ([lineStr rows 0, lineStr rows 1, lineStr rows 2].map chs).flatten = _
      rw [← chs_ofChs (textF rows), ← text_glue, glue_chs]
    rw [this]; omega)
  obtain ⟨txt, htxt⟩ : ∃ txt, quoteN sent (textF rows) = txt := ⟨_, rfl⟩
  have htx : ∀ (n : Nat) (t : List Nat), (quoteN n t).length ≤ t.length * 4 ^ n := by
    intro n
    induction n with
    | zero => intro t; simp [quoteN]
    | succ n ih =>
      intro t
      refine Nat.le_trans (ih (quoteF t)) ?_
      rw [Nat.pow_succ, Nat.mul_comm (4 ^ n) 4, ← Nat.mul_assoc]
      refine Nat.mul_le_mul_right _ ?_
      have := quoteF_len t
      omega
  have hx : (ofChs txt).length ≤ sizeLine := by
    have h1 := htx sent (textF rows)
    rw [htxt] at h1
    have : (ofChs txt).length = txt.length := by simp [ofChs, Str.length]
    rw [this]
    show _ ≤ 2 ^ 24
    omega
  obtain ⟨syms, hsyms⟩ : ∃ syms, symF (ofChs txt) (ofChs txt).length 0 = syms := ⟨_, rfl⟩
  have hGs := G.sym
  have hGp := G.parts
  have hGl := G.slen
  simp only [lawText, lawRows, lawStreams, ← hsize, ← hsent, hrows] at hGs hGp hGl
  rw [htxt, hsyms] at hGs
  rw [← hGs] at hGp hGl
  obtain ⟨streams, hstr⟩ : ∃ streams, (streamsF syms [] []).1 = streams := ⟨_, rfl⟩
  rw [hstr] at hGp
  obtain ⟨p0, p1, p2, hpp, hp0, hp1, hp2, hfr, hbk⟩ := hGp
  have hsyms' := hGs
  have hev : streams.flatten.length < 2 ^ 10 := by
    have := streams_flat syms [] []
    rw [hstr] at this
    simp at this
    simp
    omega
  have hstl : streams.length ≤ 2 ^ 10 := by
    have := streamsF_len syms [] []
    rw [hstr] at this
    simp at this
    omega
  have hj1 := joined_len (a := p0) (b := p1) (size := size)
  have hj2 := joined_len (a := p1) (b := p2) (size := size)
  have hrng : (List.range sent).map (fun i => AV.int (i : Nat)) = (List.range' 0 sent).map fun i => AV.int (i : Nat) := by rw [List.range_eq_range']
  have l1 : cutL none (some 4) (nums lets) = nums (lets.take 4) := by rw [show (4 : Int) = ((4 : Nat) : Int) from rfl, cut_take', nums, nums, List.map_take]
  have l2 : cutL (some 4) (some 8) (nums lets) = nums ((lets.drop 4).take 4) := by
    rw [show (4 : Int) = ((4 : Nat) : Int) from rfl, show (8 : Int) = ((8 : Nat) : Int) from rfl, cut_mid (by rw [List.length_map]; omega) (by rw [List.length_map]; omega), nums, nums, List.map_take, List.map_drop]
  have l3 : cutL (some 8) none (nums lets) = nums (lets.drop 8) := by rw [show (8 : Int) = ((8 : Nat) : Int) from rfl, cut_drop', nums, nums, List.map_drop]
  refine X_less (Γ₁ := [some (.val (.list (nums script))), none, none, none, none, none, none, none, none, none, none, none, none, none, none, none, none, none, none, none]) (by exact Less.refl _) ?_
  refine S_cons (Γ' := [some (.val (.list (nums script))), some (.val (.list (nums ds))), none, none, none, none, none, none, none, none, none, none, none, none, none, none, none, none, none, none]) (S_assign (E_is (c := .list (nums ds)) (by rw [hds]; unfold drawsF; rw [nums, nums, nums, List.map_append, List.map_take, List.map_drop]) (EvalsN.evals (N_bin (EvalsN.evals (N_cut (E_name .here) PartV.none (.some (E_int (i := 16))) (by rw [List.length_map]; show _ ≤ 2 ^ 24; omega) (cut_take' (a := 16)))) (EvalsN.evals (N_cut (EvalsN.evals (N_is (l := dfA) (l' := nums dflt) dfA_eq (N_list (as := dfA) ?lits (by simp only [dfA, List.length_cons, List.length_nil]; decide)))) (.some (E_is (c := .int (script.length : Nat)) (by rw [List.length_map]) (E_call (E_glob (.nth 20 rfl) F.g_len fun _ _ => .val _) (keepB) (L_cons (E_name .here) L_nil) K_nil (C_len_list (by rw [List.length_map]; omega))))) PartV.none (by decide +kernel) cut_drop')) (BN_add (by rw [List.length_take, List.length_drop, List.length_map, List.length_map]; show _ ≤ 2 ^ 24; rw [show dflt.length = 16 from rfl]; omega))))) (.nth 1 rfl)) ?_
  case lits =>
    refine L_int ?_
    refine L_int ?_
    refine L_int ?_
    refine L_int ?_
    refine L_int ?_
    refine L_int ?_
    refine L_int ?_
    refine L_int ?_
    refine L_int ?_
    refine L_int ?_
    refine L_int ?_
    refine L_int ?_
    refine L_int ?_
    refine L_int ?_
    refine L_int ?_
    refine L_int ?_
    exact L_nil
  refine S_cons (Γ' := [some (.val (.list (nums script))), some (.val (.list (nums ds))), some (.val (.int (size : Nat))), none, none, none, none, none, none, none, none, none, none, none, none, none, none, none, none, none]) (S_assign (E_is (a := .int (2 + (ds.getD 0 0).fmod 2)) (c := .int (size : Nat)) (by rw [hsize]; unfold sizeF; rw [show (2 : Int) = ((2 : Nat) : Int) from rfl, fmodI (by decide)]; push_cast; rfl) (E_bin E_int (E_bin (E_sub (E_name (.nth 1 rfl)) E_int (I_at (i := 0) (nums_at (by omega)) (by decide))) E_int (B_mod (j := 2) (by decide))) (B_add))) (.nth 2 rfl)) ?_
  refine S_cons (Γ' := [some (.val (.list (nums script))), some (.val (.list (nums ds))), some (.val (.int (size : Nat))), some (.val (.int (sent : Nat))), none, none, none, none, none, none, none, none, none, none, none, none, none, none, none, none]) (S_assign (E_is (a := .int (1 + (ds.getD 1 0).fmod 3)) (c := .int (sent : Nat)) (by rw [hsent]; unfold sentF; rw [show (3 : Int) = ((3 : Nat) : Int) from rfl, fmodI (by decide)]; push_cast; rfl) (E_bin E_int (E_bin (E_sub (E_name (.nth 1 rfl)) E_int (I_at (i := 1) (nums_at (by omega)) (by decide))) E_int (B_mod (j := 3) (by decide))) (B_add))) (.nth 3 rfl)) ?_
  refine S_cons (Γ' := [some (.val (.list (nums script))), some (.val (.list (nums ds))), some (.val (.int (size : Nat))), some (.val (.int (sent : Nat))), some (.val (.list (nums signs))), none, none, none, none, none, none, none, none, none, none, none, none, none, none, none]) (S_assign (E_is (a := .list [.int 23, .int 29, .int 51, .int 46, .int 28]) (c := .list (nums signs)) rfl (EvalsN.evals (N_list (L_int (L_int (L_int (L_int (L_int L_nil))))) (by simp only [List.length_cons, List.length_nil]; decide)))) (.nth 4 rfl)) ?_
  refine S_cons (Γ' := [some (.val (.list (nums script))), some (.val (.list (nums ds))), some (.val (.int (size : Nat))), some (.val (.int (sent : Nat))), some (.val (.list (nums signs))), some (.val (.dictS spelled)), none, none, none, none, none, none, none, none, none, none, none, none, none, none]) (S_assign (E_dictS (l := spelled) (.cons E_int E_str (.cons E_int E_str (.cons E_int E_str (.cons E_int E_str (.cons E_int E_str .nil))))) (by simp) (by decide) (by decide)) (.nth 5 rfl)) ?_
  refine S_cons (Γ' := [some (.val (.list (nums script))), some (.val (.list (nums ds))), some (.val (.int (size : Nat))), some (.val (.int (sent : Nat))), some (.val (.list (nums signs))), some (.val (.dictS spelled)), some (.val (.list (nums ((ds.drop 4).map signF)))), none, none, none, none, none, none, none, none, none, none, none, none, none]) (S_listComp (bor := false) (I_list (EvalsN.evals (N_cut (l' := nums (ds.drop 4)) (E_name (.nth 1 rfl)) (.some (E_int (i := 4))) PartV.none (by rw [List.length_map]; show _ ≤ 2 ^ 24; omega) (by rw [show (4 : Int) = ((4 : Nat) : Int) from rfl, cut_drop', nums, nums, List.map_drop])))) (ns' := nu1) ⟨.loc (.loc (.cell (.nth 4 rfl) .nil)), rfl, by decide +kernel, by decide +kernel, (by intro sl h; cases h), rfl⟩ (letComp _ rfl (ds.drop 4)) (fun h => by cases h) (by rw [List.length_map, List.length_drop]; show _ ≤ 2 ^ 24; omega) (.nth 6 rfl) (by decide +kernel) (by decide +kernel)) ?_
  rw [← hlets]
  refine S_cons (Γ' := [some (.val (.list (nums script))), some (.val (.list (nums ds))), some (.val (.int (size : Nat))), some (.val (.int (sent : Nat))), some (.val (.list (nums signs))), some (.val (.dictS spelled)), some (.val (.list (nums lets))), some (.val (.list (lists rows))), none, none, none, none, none, none, none, none, none, none, none, none]) (S_assign (E_is (c := .list (lists rows)) (by rw [hrE]; rfl) (EvalsN.evals (N_list (L_cons (EvalsN.evals (N_cut (E_name (.nth 6 rfl)) PartV.none (.some (E_int (i := 4))) (by rw [List.length_map]; show _ ≤ 2 ^ 24; omega) (l1))) (L_cons (EvalsN.evals (N_cut (E_name (.nth 6 rfl)) (.some (E_int (i := 4))) (.some (E_int (i := 8))) (by rw [List.length_map]; show _ ≤ 2 ^ 24; omega) (l2))) (L_cons (EvalsN.evals (N_cut (E_name (.nth 6 rfl)) (.some (E_int (i := 8))) PartV.none (by rw [List.length_map]; show _ ≤ 2 ^ 24; omega) (l3))) L_nil))) (by simp only [List.length_cons, List.length_nil]; decide)))) (.nth 7 rfl)) ?_
  refine S_cons (Γ' := [some (.val (.list (nums script))), some (.val (.list (nums ds))), some (.val (.int (size : Nat))), some (.val (.int (sent : Nat))), some (.val (.list (nums signs))), some (.val (.dictS spelled)), some (.val (.list (nums lets))), some (.val (.list (lists rows))), some (.val (.list (endsF.map AV.str))), none, none, none, none, none, none, none, none, none, none, none]) (S_assign (E_is (a := .list [.str _, .str _, .str _]) (c := .list (endsF.map AV.str)) rfl (EvalsN.evals (N_list (L_cons E_str (L_cons E_str (L_cons E_str L_nil))) (by simp only [List.length_cons, List.length_nil]; decide)))) (.nth 8 rfl)) ?_
  refine S_cons (Γ' := [some (.val (.list (nums script))), some (.val (.list (nums ds))), some (.val (.int (size : Nat))), some (.val (.int (sent : Nat))), some (.val (.list (nums signs))), some (.val (.dictS spelled)), some (.val (.list (nums lets))), some (.val (.list (lists rows))), some (.val (.list (endsF.map AV.str))), some (.val (.str (ofChs (textF rows)))), none, none, none, none, none, none, none, none, none, none]) (S_assign (E_is (c := .str (ofChs (textF rows))) (by rw [← text_glue]; rfl) (E_meth E_str V_join (L_cons (EvalsN.evals (N_listComp (bor := false) (I_range (.nth 21 rfl) F.g_range (E_int (i := 3)) (n := 3) (by decide)) (ns' := nu2) ⟨.loc (.loc (.cell (.nth 8 rfl) (.cell (.nth 7 rfl) (.cell (.nth 5 rfl) .nil)))), rfl, by decide +kernel, by decide +kernel, (by intro sl h; cases h), rfl⟩ (textComp hr hr3 _ rfl (List.range 3) fun j hj => List.mem_range.mp hj) (fun h => by cases h) (by simp only [List.length_map, List.length_range]; decide))) L_nil) (C_join hfit.short hfit.line))) (.nth 9 rfl)) ?_
  refine S_cons (Γ' := [some (.val (.list (nums script))), some (.val (.list (nums ds))), some (.val (.int (size : Nat))), some (.val (.int (sent : Nat))), some (.val (.list (nums signs))), some (.val (.dictS spelled)), some (.val (.list (nums lets))), some (.val (.list (lists rows))), some (.val (.list (endsF.map AV.str))), some (.val (.str (ofChs txt))), none, none, none, none, none, none, none, none, none, none]) (S_for (I_range (n := sent) (.nth 21 rfl) F.g_range (E_name (.nth 3 rfl)) (by omega)) (by rw [hrng]; have z := turnLoop (k := k) F P (by omega) (script := script) (ds := ds) (lets := lets) (size := size) (sent := sent) (rows := rows) sent 0 (textF rows) htl; rw [htxt] at z; exact z)) ?_
  refine S_cons (Γ' := [some (.val (.list (nums script))), some (.val (.list (nums ds))), some (.val (.int (size : Nat))), some (.val (.int (sent : Nat))), some (.val (.list (nums signs))), some (.val (.dictS spelled)), some (.val (.list (nums lets))), some (.val (.list (lists rows))), some (.val (.list (endsF.map AV.str))), some (.val (.str (ofChs txt))), none, some (.val (.list (nums syms))), none, none, none, none, none, none, none, none]) (S_assign (E_is (c := .list (nums syms)) (by rw [hsyms]) (E_call (E_glob (.nth 23 rfl) F.g_law_symbols fun _ _ => .val _) (keep72 F) (L_cons (E_name (.nth 9 rfl)) L_nil) K_nil ((symbols_ok (k := 0) F hx).up (by omega)))) (.nth 11 rfl)) ?_
  refine S_cons (Γ' := [some (.val (.list (nums script))), some (.val (.list (nums ds))), some (.val (.int (size : Nat))), some (.val (.int (sent : Nat))), some (.val (.list (nums signs))), some (.val (.dictS spelled)), some (.val (.list (nums lets))), some (.val (.list (lists rows))), some (.val (.list (endsF.map AV.str))), some (.val (.str (ofChs txt))), none, some (.val (.list (nums syms))), none, none, none, none, none, none, none, none]) (S_ifF (T_isnt (by rw [hsyms']; simp) (T_cmp (E_name (.nth 11 rfl)) (EvalsN.evals (N_nest (bor := false) (I_list (E_name (.nth 7 rfl))) (ns' := nu4) (Γ' := [none, none, none, none, some (.val (.int (sent : Nat)))]) (i₀ := 1) (i₁ := 2) ⟨.loc (.loc (.loc (.glo (.cell (.nth 3 rfl) .nil)))), rfl, by decide +kernel, by decide +kernel, (by intro sl h; cases h), rfl⟩ (meantNest F (by omega) (by omega) _ rfl rows fun row hrow => ⟨hrne row hrow, (hr row hrow).2⟩) (fun {Γ₁} hΓ i => by
    obtain ⟨a1, a2, a3, a4, a5, rfl⟩ := ofLen5 hΓ
    exact ⟨_, .there (.nth 1 rfl), .there (.nth 1 rfl)⟩) (fun p => by cases p with | there p => cases p with | here => rfl) (by show _ ≤ 2 ^ 24; rw [← hsyms']; omega))) (C_neInts (by omega)))) S_nil) ?_
  refine S_cons (Γ' := [some (.val (.list (nums script))), some (.val (.list (nums ds))), some (.val (.int (size : Nat))), some (.val (.int (sent : Nat))), some (.val (.list (nums signs))), some (.val (.dictS spelled)), some (.val (.list (nums lets))), some (.val (.list (lists rows))), some (.val (.list (endsF.map AV.str))), some (.val (.str (ofChs txt))), none, some (.val (.list (nums syms))), some (.val (.list (lists streams))), none, none, none, none, none, none, none]) (S_assign (E_is (c := .list (lists streams)) (by rw [hstr]) (E_call (E_glob (.nth 24 rfl) F.g_law_streams fun _ _ => .val _) (keep74 F) (L_cons (E_name (.nth 11 rfl)) L_nil) K_nil ((streams_ok (k := 0) F (by omega)).up (by omega)))) (.nth 12 rfl)) ?_
  refine S_cons (Γ' := [some (.val (.list (nums script))), some (.val (.list (nums ds))), some (.val (.int (size : Nat))), some (.val (.int (sent : Nat))), some (.val (.list (nums signs))), some (.val (.dictS spelled)), some (.val (.list (nums lets))), some (.val (.list (lists rows))), some (.val (.list (endsF.map AV.str))), some (.val (.str (ofChs txt))), none, some (.val (.list (nums syms))), some (.val (.list (lists streams))), some (.val (.list [.dictI p0, .dictI p1, .dictI p2])), none, none, none, none, none, none]) (S_listComp (bor := false) (I_list (E_name (.nth 12 rfl))) (ns' := nu5) ⟨.loc (.loc (.glo (.cell (.nth 1 rfl) (.cell (.nth 2 rfl) .nil)))), rfl, by decide +kernel, by decide +kernel, (by intro sl h; cases h), rfl⟩ (partComp F (by omega) hdl hsz _ rfl streams [p0, p1, p2] hpp fun st hst => by have := flat_len hst; omega) (fun h => by cases h) (by rw [List.length_map]; show _ ≤ 2 ^ 24; omega) (.nth 13 rfl) (by decide +kernel) (by decide +kernel)) ?_
  refine S_cons (Γ' := [some (.val (.list (nums script))), some (.val (.list (nums ds))), some (.val (.int (size : Nat))), some (.val (.int (sent : Nat))), some (.val (.list (nums signs))), some (.val (.dictS spelled)), some (.val (.list (nums lets))), some (.val (.list (lists rows))), some (.val (.list (endsF.map AV.str))), some (.val (.str (ofChs txt))), none, some (.val (.list (nums syms))), some (.val (.list (lists streams))), some (.val (.list [.dictI p0, .dictI p1, .dictI p2])), none, none, none, none, none, none]) (S_ifF (T_isnt (t := !decide (([] : List Int) = [])) (by decide) (T_cmp (EvalsN.evals (N_listComp (bor := false) (I_list (E_name (.nth 13 rfl))) (ns' := nu6) ⟨.loc (.loc .nil), rfl, by decide +kernel, by decide +kernel, (by intro sl h; cases h), rfl⟩ (noneComp _ rfl [p0, p1, p2]) (fun h => by cases h) (by show 3 ≤ 2 ^ 24; decide))) (EvalsN.evals (N_list L_nil (by decide))) (C_neInts (l := []) (l' := []) (by omega)))) S_nil) ?_
  refine S_cons (Γ' := [some (.val (.list (nums script))), some (.val (.list (nums ds))), some (.val (.int (size : Nat))), some (.val (.int (sent : Nat))), some (.val (.list (nums signs))), some (.val (.dictS spelled)), some (.val (.list (nums lets))), some (.val (.list (lists rows))), some (.val (.list (endsF.map AV.str))), some (.val (.str (ofChs txt))), none, some (.val (.list (nums syms))), some (.val (.list (lists streams))), some (.val (.list [.dictI p0, .dictI p1, .dictI p2])), some (.val (.list (nums streams.flatten))), none, none, none, none, none]) (S_nest (bor := false) (I_list (E_name (.nth 12 rfl))) (ns' := nu7) (Γ' := [none, none, none]) (i₀ := 1) (i₁ := 2) ⟨.loc (.loc (.loc .nil)), rfl, by decide +kernel, by decide +kernel, (by intro sl h; cases h), rfl⟩ (everyNest _ rfl streams) (fun {Γ₁} hΓ i => by
    obtain ⟨a1, a2, a3, rfl⟩ := ofLen3 hΓ
    exact ⟨_, .there (.nth 1 rfl), .there (.nth 1 rfl)⟩) (fun p => by cases p with | there p => cases p with | here => rfl) (by show _ ≤ 2 ^ 24; omega) (.nth 14 rfl) (by decide +kernel) (by decide +kernel)) ?_
  refine S_cons (Γ' := [some (.val (.list (nums script))), some (.val (.list (nums ds))), some (.val (.int (size : Nat))), some (.val (.int (sent : Nat))), some (.val (.list (nums signs))), some (.val (.dictS spelled)), some (.val (.list (nums lets))), some (.val (.list (lists rows))), some (.val (.list (endsF.map AV.str))), some (.val (.str (ofChs txt))), none, some (.val (.list (nums syms))), some (.val (.list (lists streams))), some (.val (.list [.dictI p0, .dictI p1, .dictI p2])), some (.val (.list (nums streams.flatten))), some (.val (.dictI (joinedF (joinedF p0 p1 size) p2 size))), none, none, none, none]) (S_assign (E_call (E_glob (.nth 25 rfl) F.g_law_joined fun _ _ => .val _) (keep77 F) (L_cons (E_call (E_glob (.nth 25 rfl) F.g_law_joined fun _ _ => .val _) (keep77 F) (L_cons (E_sub (E_name (.nth 13 rfl)) E_int (I_at (i := 0) rfl (by decide))) (L_cons (E_sub (E_name (.nth 13 rfl)) E_int (I_at (i := 1) rfl (by decide))) (L_cons (E_name (.nth 2 rfl)) L_nil))) K_nil ((joined_ok (k := 0) F (by omega) (by omega) (by omega)).up (by omega))) (L_cons (E_sub (E_name (.nth 13 rfl)) E_int (I_at (i := 2) rfl (by decide))) (L_cons (E_name (.nth 2 rfl)) L_nil))) K_nil ((joined_ok (k := 0) F (by omega) (by omega) (by omega)).up (by omega))) (.nth 15 rfl)) ?_
  refine S_cons (Γ' := [some (.val (.list (nums script))), some (.val (.list (nums ds))), some (.val (.int (size : Nat))), some (.val (.int (sent : Nat))), some (.val (.list (nums signs))), some (.val (.dictS spelled)), some (.val (.list (nums lets))), some (.val (.list (lists rows))), some (.val (.list (endsF.map AV.str))), some (.val (.str (ofChs txt))), none, some (.val (.list (nums syms))), some (.val (.list (lists streams))), some (.val (.list [.dictI p0, .dictI p1, .dictI p2])), some (.val (.list (nums streams.flatten))), some (.val (.dictI (joinedF (joinedF p0 p1 size) p2 size))), some (.val (.dictI (joinedF p0 (joinedF p1 p2 size) size))), none, none, none]) (S_assign (E_call (E_glob (.nth 25 rfl) F.g_law_joined fun _ _ => .val _) (keep77 F) (L_cons (E_sub (E_name (.nth 13 rfl)) E_int (I_at (i := 0) rfl (by decide))) (L_cons (E_call (E_glob (.nth 25 rfl) F.g_law_joined fun _ _ => .val _) (keep77 F) (L_cons (E_sub (E_name (.nth 13 rfl)) E_int (I_at (i := 1) rfl (by decide))) (L_cons (E_sub (E_name (.nth 13 rfl)) E_int (I_at (i := 2) rfl (by decide))) (L_cons (E_name (.nth 2 rfl)) L_nil))) K_nil ((joined_ok (k := 0) F (by omega) (by omega) (by omega)).up (by omega))) (L_cons (E_name (.nth 2 rfl)) L_nil))) K_nil ((joined_ok (k := 0) F (by omega) (by omega) (by omega)).up (by omega))) (.nth 16 rfl)) ?_
  refine S_cons (Γ' := [some (.val (.list (nums script))), some (.val (.list (nums ds))), some (.val (.int (size : Nat))), some (.val (.int (sent : Nat))), some (.val (.list (nums signs))), some (.val (.dictS spelled)), some (.val (.list (nums lets))), some (.val (.list (lists rows))), some (.val (.list (endsF.map AV.str))), some (.val (.str (ofChs txt))), none, some (.val (.list (nums syms))), some (.val (.list (lists streams))), some (.val (.list [.dictI p0, .dictI p1, .dictI p2])), some (.val (.list (nums streams.flatten))), some (.val (.dictI (joinedF (joinedF p0 p1 size) p2 size))), some (.val (.dictI (joinedF p0 (joinedF p1 p2 size) size))), none, none, none]) (S_for (I_list (EvalsN.evals (N_list (L_cons (E_name (.nth 15 rfl)) (L_cons (E_name (.nth 16 rfl)) L_nil)) (by simp only [List.length_cons, List.length_nil]; decide)))) (wholeLoop F hk hsz (by omega) [joinedF (joinedF p0 p1 size) p2 size, joinedF p0 (joinedF p1 p2 size) size] (fun wh hwh => by
    simp only [List.mem_cons, List.not_mem_nil, or_false] at hwh
    rcases hwh with rfl | rfl
    · exact hfr
    · exact hbk))) ?_
  exact S_consR (S_ret E_bool)
end
end Mine
namespace Mine

/-- the longest sign at a list's head -/
noncomputable def sizeG (l : List Nat) : Nat → Nat
  | 0 => 0
  | s + 1 => if KTD.inKeys (ofChs (l.take (s + 1))) tokDat = true then s + 1 else sizeG l s
theorem cut_chs {l : List Nat} {p s : Nat} : cutS (ofChs l) p (p + s) = ofChs ((l.drop p).take s) := by
  show Str.mk (((((ofChs l).cps.toList).drop p).take (p + s - p)).toArray) = Str.mk _
  rw [Nat.add_sub_cancel_left]
  rw [show (ofChs l).cps.toList = l from chs_ofChs l]
theorem sizeG_eq {l : List Nat} {p : Nat} : ∀ s, sizeAt (ofChs l) p s = sizeG (l.drop p) s
  | 0 => rfl
  | s + 1 => by
    unfold sizeAt sizeG
    rw [cut_chs, sizeG_eq s]
/-- a text read sign by sign -/
inductive Toks : List Nat → List Int → Prop
  | nil : Toks [] []
  | tok {l : List Nat} {n : Nat} {m : List Int} : l ≠ [] → sizeG l 3 = n → n ≠ 0 → Toks (l.drop n) m → Toks l (tokVal (ofChs (l.take n)) :: m)
  | skip {l : List Nat} {m : List Int} : l ≠ [] → sizeG l 3 = 0 → Toks (l.drop 2) m → Toks l (0 :: m)
theorem Toks.symF {l : List Nat} : ∀ {t : List Nat} {m : List Int}, Toks t m → ∀ (f p : Nat), t = l.drop p → t.length ≤ f → symF (ofChs l) f p = m := by
  intro t m h
  have hlen : (ofChs l).length = l.length := by simp [ofChs, Str.length]
  induction h with
  | nil =>
    intro f p hp hf
    cases f with
    | zero => rfl
    | succ f =>
      show (if p < (ofChs l).length then _ else []) = []
      rw [if_neg]
      rw [hlen]
      intro hlt
      have := congrArg List.length hp
      rw [List.length_drop, List.length_nil] at this
      omega
  | @tok t n m hne hs hn _ ih =>
    intro f p hp hf
    cases f with
    | zero => exact absurd (List.length_eq_zero_iff.mp (Nat.le_zero.mp hf)) hne
    | succ f =>
      have hlt : p < (ofChs l).length := by
        rw [hlen]
        refine Nat.lt_of_not_le fun hle => hne ?_
        rw [hp, List.drop_eq_nil_of_le hle]
      show (if p < (ofChs l).length then (if sizeAt (ofChs l) p 3 = 0 then _ else tokVal (cutS (ofChs l) p (p + sizeAt (ofChs l) p 3)) :: Mine.symF (ofChs l) f (p + sizeAt (ofChs l) p 3)) else []) = _
      rw [if_pos hlt, sizeG_eq, ← hp, hs, if_neg hn, cut_chs, ← hp]
      have hd : t.drop n = l.drop (p + n) := by rw [hp, List.drop_drop]
      rw [ih f (p + n) hd (by rw [List.length_drop]; omega)]
  | @skip t m hne hs _ ih =>
    intro f p hp hf
    cases f with
    | zero => exact absurd (List.length_eq_zero_iff.mp (Nat.le_zero.mp hf)) hne
    | succ f =>
      have hlt : p < (ofChs l).length := by
        rw [hlen]
        refine Nat.lt_of_not_le fun hle => hne ?_
        rw [hp, List.drop_eq_nil_of_le hle]
      show (if p < (ofChs l).length then (if sizeAt (ofChs l) p 3 = 0 then 0 :: Mine.symF (ofChs l) f (p + 2) else _) else []) = _
      rw [if_pos hlt, sizeG_eq, ← hp, hs, if_pos rfl]
      have hd : t.drop 2 = l.drop (p + 2) := by rw [hp, List.drop_drop]
      rw [ih f (p + 2) hd (by rw [List.length_drop]; omega)]

/-- a key of the table, as signs -/
theorem inKeys_iff {l : List Nat} : ∀ {T : List (Str × Int)}, KTD.inKeys (ofChs l) (T.map fun p => (p.1, KTD.Dat.flat (.int p.2))) = T.any fun p => chs p.1 == l
  | [] => rfl
  | p :: T => by
    rw [List.map_cons, List.any_cons]
    show (decide (ofChs l = p.1) || KTD.inKeys (ofChs l) (T.map fun p => (p.1, KTD.Dat.flat (.int p.2)))) = _
    rw [inKeys_iff]
    congr 1
    have : ofChs l = p.1 ↔ chs p.1 = l := ⟨fun h => by rw [← h, chs_ofChs], fun h => by rw [← h, ofChs_chs]⟩
    by_cases h : chs p.1 = l
    · rw [decide_eq_true (this.mpr h)]; simp [h]
    · rw [decide_eq_false (fun z => h (this.mp z))]; simp [h]
theorem key_of {l : List Nat} (h : tokTab.any (fun p => chs p.1 == l) = true) : KTD.inKeys (ofChs l) tokDat = true := by
  show KTD.inKeys (ofChs l) (tokTab.map fun p => (p.1, KTD.Dat.flat (.int p.2))) = true
  rw [inKeys_iff]; exact h
theorem not_key {l : List Nat} (h : ∀ p ∈ tokTab, chs p.1 ≠ l) : ¬ KTD.inKeys (ofChs l) tokDat = true := by
  show ¬ KTD.inKeys (ofChs l) (tokTab.map fun p => (p.1, KTD.Dat.flat (.int p.2))) = true
  rw [inKeys_iff, List.any_eq_true]
  rintro ⟨p, hp, e⟩
  exact h p hp (eq_of_beq e)
/-- two signs that no third one follows -/
noncomputable def noThird (a b : Nat) : Bool := tokTab.all fun p => !((chs p.1).take 2 == [a, b] && (chs p.1).length == 3)
theorem third {a b c : Nat} (h : noThird a b = true) : ¬ KTD.inKeys (ofChs [a, b, c]) tokDat = true := not_key fun p hp e => by
  have := List.all_eq_true.mp h p hp
  rw [e] at this
  simp at this
theorem len2 {a b c : Nat} {t : List Nat} (h3 : noThird a b = true) (h2 : tokTab.any (fun p => chs p.1 == [a, b]) = true) : sizeG (a :: b :: c :: t) 3 = 2 := by
  show (if KTD.inKeys (ofChs [a, b, c]) tokDat = true then 3 else if KTD.inKeys (ofChs [a, b]) tokDat = true then 2 else _) = 2
  rw [if_neg (third h3), if_pos (key_of h2)]
theorem dots3 {t : List Nat} : sizeG (46 :: 46 :: 46 :: t) 3 = 3 := by
  show (if KTD.inKeys (ofChs [46, 46, 46]) tokDat = true then 3 else _) = 3
  rw [if_pos (key_of (by decide +kernel))]
theorem star3 {t : List Nat} : sizeG (42 :: 42 :: 61 :: t) 3 = 3 := by
  show (if KTD.inKeys (ofChs [42, 42, 61]) tokDat = true then 3 else _) = 3
  rw [if_pos (key_of (by decide +kernel))]
noncomputable def dotRule : Bool := tokTab.all fun p => !((chs p.1).headD 0 == 46) || chs p.1 == [46] || chs p.1 == [46, 46, 46]
theorem dot_key {l : List Nat} (h1 : (46 :: l) ≠ [46]) (h3 : (46 :: l) ≠ [46, 46, 46]) : ¬ KTD.inKeys (ofChs (46 :: l)) tokDat = true := not_key fun p hp e => by
  have h : dotRule = true := by decide +kernel
  have := List.all_eq_true.mp h p hp
  rw [e] at this
  simp at this
  rcases this with h | h
  · exact h1 (by rw [h])
  · exact h3 (by rw [h])
theorem dot1 {c : Nat} {t : List Nat} (hc : c ≠ 46) : sizeG (46 :: c :: t) 3 = 1 := by
  have h2 : ¬ KTD.inKeys (ofChs [46, c]) tokDat = true := dot_key (by simp) (by simp)
  have h1 : KTD.inKeys (ofChs [46]) tokDat = true := key_of (by decide +kernel)
  have h3 : ¬ KTD.inKeys (ofChs ((46 :: c :: t).take 3)) tokDat = true := by
    cases t with
    | nil => exact h2
    | cons d t => exact dot_key (by simp) (by simp [hc])
  show (if KTD.inKeys (ofChs ((46 :: c :: t).take 3)) tokDat = true then 3 else if KTD.inKeys (ofChs [46, c]) tokDat = true then 2 else if KTD.inKeys (ofChs [46]) tokDat = true then 1 else 0) = 1
  rw [if_neg h3, if_neg h2, if_pos h1]
theorem dot2 {c : Nat} {t : List Nat} (hc : c ≠ 46) : sizeG (46 :: 46 :: c :: t) 3 = 1 := by
  have h3 : ¬ KTD.inKeys (ofChs [46, 46, c]) tokDat = true := dot_key (by simp) (by simp [hc])
  have h2 : ¬ KTD.inKeys (ofChs [46, 46]) tokDat = true := dot_key (by simp) (by simp)
  have h1 : KTD.inKeys (ofChs [46]) tokDat = true := key_of (by decide +kernel)
  show (if KTD.inKeys (ofChs [46, 46, c]) tokDat = true then 3 else if KTD.inKeys (ofChs [46, 46]) tokDat = true then 2 else if KTD.inKeys (ofChs [46]) tokDat = true then 1 else 0) = 1
  rw [if_neg h3, if_neg h2, if_pos h1]
/-- a run of dots -/
theorem toks_dots {c : Nat} {t : List Nat} {m : List Int} (hc : c ≠ 46) (h : Toks (c :: t) m) : ∀ r : Nat, Toks (List.replicate r 46 ++ c :: t) (List.replicate (r / 3) 52 ++ List.replicate (r % 3) 23 ++ m)
  | 0 => h
  | 1 => by
    have v : tokVal (ofChs [46]) = 23 := by decide +kernel
    have := Toks.tok (l := 46 :: c :: t) (n := 1) (by simp) (dot1 hc) (by decide) h
    rw [show (46 :: c :: t).take 1 = [46] from rfl, v] at this
    exact this
  | 2 => by
    have v : tokVal (ofChs [46]) = 23 := by decide +kernel
    have := Toks.tok (l := 46 :: 46 :: c :: t) (n := 1) (by simp) (dot2 hc) (by decide) (toks_dots hc h 1)
    rw [show (46 :: 46 :: c :: t).take 1 = [46] from rfl, v] at this
    exact this
  | r + 3 => by
    have v : tokVal (ofChs [46, 46, 46]) = 52 := by decide +kernel
    have ih := toks_dots hc h r
    have := Toks.tok (l := 46 :: 46 :: 46 :: (List.replicate r 46 ++ c :: t)) (n := 3) (by simp) dots3 (by decide) ih
    rw [show (46 :: 46 :: 46 :: (List.replicate r 46 ++ c :: t)).take 3 = [46, 46, 46] from rfl, v] at this
    have e1 : (r + 3) / 3 = r / 3 + 1 := by omega
    have e2 : (r + 3) % 3 = r % 3 := by omega
    rw [e1, e2, List.replicate_succ]
    exact this
theorem toks_crlf {t : List Nat} {m : List Int} (h : Toks t m) : Toks (13 :: 10 :: t) (0 :: m) := by
  refine Toks.skip (by simp) ?_ h
  have hr : (tokTab.all fun p => !((chs p.1).headD 0 == 13)) = true := by decide +kernel
  have no : ∀ l, ¬ KTD.inKeys (ofChs (13 :: l)) tokDat = true := fun l => not_key fun p hp e => by
    have := List.all_eq_true.mp hr p hp
    rw [e] at this
    simp at this
  show (if KTD.inKeys (ofChs ((13 :: 10 :: t).take 3)) tokDat = true then 3 else if KTD.inKeys (ofChs [13, 10]) tokDat = true then 2 else if KTD.inKeys (ofChs [13]) tokDat = true then 1 else 0) = 0
  rw [if_neg (show ¬ KTD.inKeys (ofChs ((13 :: 10 :: t).take 3)) tokDat = true from no (10 :: t.take 1)), if_neg (no [10]), if_neg (no [])]
/-- a sign that is no dot -/
theorem toks_sign {x : Int} (hx : x ∈ signs) (h23 : x ≠ 23) {c : Nat} {t : List Nat} {m : List Int} (h : Toks (c :: t) m) : Toks (chs (sp x) ++ c :: t) (x :: m) := by
  simp only [signs, List.mem_cons, List.not_mem_nil, or_false] at hx
  rcases hx with rfl | rfl | rfl | rfl | rfl
  · exact absurd rfl h23
  · have := Toks.tok (l := 60 :: 61 :: c :: t) (n := 2) (by simp) (len2 (by decide +kernel) (by decide +kernel)) (by decide) h
    rwa [show (60 :: 61 :: c :: t).take 2 = [60, 61] from rfl, show tokVal (ofChs [60, 61]) = 29 from by decide +kernel] at this
  · have := Toks.tok (l := 45 :: 62 :: c :: t) (n := 2) (by simp) (len2 (by decide +kernel) (by decide +kernel)) (by decide) h
    rwa [show (45 :: 62 :: c :: t).take 2 = [45, 62] from rfl, show tokVal (ofChs [45, 62]) = 51 from by decide +kernel] at this
  · have := Toks.tok (l := 42 :: 42 :: 61 :: c :: t) (n := 3) (by simp) star3 (by decide) h
    rwa [show (42 :: 42 :: 61 :: c :: t).take 3 = [42, 42, 61] from rfl, show tokVal (ofChs [42, 42, 61]) = 46 from by decide +kernel] at this
  · have := Toks.tok (l := 33 :: 61 :: c :: t) (n := 2) (by simp) (len2 (by decide +kernel) (by decide +kernel)) (by decide) h
    rwa [show (33 :: 61 :: c :: t).take 2 = [33, 61] from rfl, show tokVal (ofChs [33, 61]) = 28 from by decide +kernel] at this
theorem sign_head {x : Int} (hx : x ∈ signs) (h23 : x ≠ 23) : ∃ c t, chs (sp x) = c :: t ∧ c ≠ 46 ∧ c ≠ 10 ∧ c ≠ 13 ∧ ∀ y ∈ t, y ≠ 10 ∧ y ≠ 13 := by
  simp only [signs, List.mem_cons, List.not_mem_nil, or_false] at hx
  rcases hx with rfl | rfl | rfl | rfl | rfl
  · exact absurd rfl h23
  · exact ⟨60, [61], rfl, by decide, by decide, by decide, by decide⟩
  · exact ⟨45, [62], rfl, by decide, by decide, by decide, by decide⟩
  · exact ⟨42, [42, 61], rfl, by decide, by decide, by decide, by decide⟩
  · exact ⟨33, [61], rfl, by decide, by decide, by decide, by decide⟩
noncomputable abbrev spellR (row : List Int) : List Nat := (row.map fun x => chs (sp x)).flatten
theorem spellR_ne {row : List Int} {t : List Nat} : ∃ c u, spellR row ++ 13 :: t = c :: u := by
  cases h : spellR row ++ 13 :: t with
  | nil => simp at h
  | cons c u => exact ⟨c, u, rfl⟩
theorem toks_row {t : List Nat} {m : List Int} (h : Toks t m) : ∀ (row : List Int) (r : Nat), (∀ x ∈ row, x ∈ signs) → Toks (List.replicate r 46 ++ (spellR row ++ 13 :: 10 :: t)) (meantF (row ++ [0]) r ++ m)
  | [], r, _ => by
    have := toks_dots (c := 13) (by decide) (toks_crlf h) r
    show Toks (List.replicate r 46 ++ 13 :: 10 :: t) (((List.replicate (r / 3) 52 ++ List.replicate (r % 3) 23 ++ [0]) ++ []) ++ m)
    rw [List.append_nil, List.append_assoc]
    exact this
  | x :: row, r, hx => by
    have ih := toks_row h row
    by_cases h23 : x = 23
    · subst h23
      have := ih (r + 1) fun y hy => hx y (.tail _ hy)
      rw [List.replicate_succ', List.append_assoc] at this
      exact this
    · have h0 := ih 0 fun y hy => hx y (.tail _ hy)
      have hs := hx x (.head _)
      obtain ⟨c, u, hcu⟩ := spellR_ne (row := row) (t := 10 :: t)
      rw [List.replicate_zero, List.nil_append, hcu] at h0
      have h1 := toks_sign hs h23 h0
      obtain ⟨c', t', hw, hc', _⟩ := sign_head hs h23
      rw [hw] at h1
      have h2 := toks_dots hc' h1 r
      have e1 : spellR (x :: row) ++ 13 :: 10 :: t = c' :: (t' ++ c :: u) := by
        show (chs (sp x) ++ spellR row) ++ 13 :: 10 :: t = _
        rw [List.append_assoc, hcu, hw]; rfl
      have e2 : meantF (x :: row ++ [0]) r = (List.replicate (r / 3) 52 ++ List.replicate (r % 3) 23 ++ [x]) ++ meantF (row ++ [0]) 0 := by
        show (if x = 23 then _ else _) = _
        rw [if_neg h23]; rfl
      rw [e1, e2, List.append_assoc, List.append_assoc]
      exact h2
end Mine
namespace Mine

/-- signs that end no line -/
noncomputable def Plain (w : List Nat) : Prop := ∀ y ∈ w, y ≠ 10 ∧ y ≠ 13
theorem nl_plain : ∀ {w : List Nat} {b : Bool} {t : List Nat}, Plain w → w ≠ [] → nlG b (w ++ t) = w ++ nlG false t
  | [], _, _, _, h => absurd rfl h
  | c :: w, b, t, hp, _ => by
    obtain ⟨h10, h13⟩ := hp c (.head _)
    show (if c == 13 then _ else if c == 10 then _ else c :: nlG false (w ++ t)) = _
    rw [show (c == 13) = false from by simpa using h13, show (c == 10) = false from by simpa using h10]
    show c :: nlG false (w ++ t) = _
    by_cases hw : w = []
    · subst hw; rfl
    · rw [nl_plain (b := false) (fun y hy => hp y (.tail _ hy)) hw]; rfl
theorem dot_plain : ∀ {w : List Nat} {t : List Nat}, Plain w → dotG false (w ++ t) = w ++ dotG false t
  | [], _, _ => rfl
  | c :: w, t, hp => by
    obtain ⟨h10, h13⟩ := hp c (.head _)
    show (if false && c == 46 then _ else c :: dotG (c == 10) (w ++ t)) = _
    rw [Bool.false_and, show (c == 10) = false from by simpa using h10]
    show c :: dotG false (w ++ t) = _
    rw [dot_plain fun y hy => hp y (.tail _ hy)]; rfl
theorem spellR_plain {row : List Int} (h : ∀ x ∈ row, x ∈ signs) : Plain (spellR row) := by
  intro y hy
  obtain ⟨w, hw, hy⟩ := List.mem_flatten.mp hy
  obtain ⟨x, hx, rfl⟩ := List.mem_map.mp hw
  by_cases h23 : x = 23
  · subst h23
    have : y ∈ [46] := hy
    rw [List.mem_singleton] at this
    subst this
    decide
  · obtain ⟨c, t, hct, h1, h2, h3, h4⟩ := sign_head (h x hx) h23
    have hy' : y ∈ c :: t := hct ▸ hy
    rcases List.mem_cons.mp hy' with rfl | hy'
    · exact ⟨h2, h3⟩
    · exact h4 y hy'

/-- how many dots a row takes on -/
noncomputable def dotsOf (row : List Int) (n : Nat) : Nat := if row.getD 0 0 = 23 then n else 0
noncomputable def lineN (n : Nat) (row : List Int) : List Nat := List.replicate (dotsOf row n) 46 ++ (spellR row ++ [13, 10])
noncomputable def docN (n : Nat) (rows : List (List Int)) : List Nat := (rows.map (lineN n)).flatten
theorem rep_mid {u : List Nat} : ∀ n : Nat, List.replicate n 46 ++ (46 :: u) = 46 :: (List.replicate n 46 ++ u)
  | 0 => rfl
  | n + 1 => by
    rw [List.replicate_succ]
    show 46 :: (List.replicate n 46 ++ (46 :: u)) = _
    rw [rep_mid n]; rfl
theorem line_dot {row : List Int} {n : Nat} {t : List Nat} (h : ∀ x ∈ row, x ∈ signs) (hne : row ≠ []) : dotG true (lineN n row ++ t) = lineN (n + 1) row ++ dotG true t := by
  have hp := spellR_plain h
  have tail : ∀ {w : List Nat}, Plain w → dotG false (w ++ ([13, 10] ++ t)) = w ++ ([13, 10] ++ dotG true t) := fun {w} hw => by
    rw [dot_plain hw]; rfl
  obtain ⟨x, r, rfl⟩ : ∃ x r, row = x :: r := by
    cases row with
    | nil => exact absurd rfl hne
    | cons x r => exact ⟨x, r, rfl⟩
  by_cases h23 : x = 23
  · subst h23
    have e1 : dotsOf (23 :: r) n = n := if_pos rfl
    have e2 : dotsOf (23 :: r) (n + 1) = n + 1 := if_pos rfl
    unfold lineN
    rw [e1, e2]
    have hw : Plain (List.replicate n 46 ++ spellR r) := fun y hy => by
      rcases List.mem_append.mp hy with hy | hy
      · rw [List.eq_of_mem_replicate hy]; decide
      · exact spellR_plain (fun z hz => h z (.tail _ hz)) y hy
    have e3 : List.replicate n 46 ++ (spellR (23 :: r) ++ [13, 10]) ++ t = 46 :: ((List.replicate n 46 ++ spellR r) ++ ([13, 10] ++ t)) := by
      show List.replicate n 46 ++ ((46 :: spellR r) ++ [13, 10]) ++ t = _
      simp only [List.append_assoc, List.cons_append]
      rw [rep_mid]
    have e4 : List.replicate (n + 1) 46 ++ (spellR (23 :: r) ++ [13, 10]) ++ dotG true t = 46 :: 46 :: ((List.replicate n 46 ++ spellR r) ++ ([13, 10] ++ dotG true t)) := by
      show List.replicate (n + 1) 46 ++ ((46 :: spellR r) ++ [13, 10]) ++ dotG true t = _
      rw [List.replicate_succ]
      simp only [List.append_assoc, List.cons_append]
      rw [rep_mid]
    rw [e3, e4]
    show (if true && 46 == 46 then 46 :: 46 :: dotG false _ else _) = _
    rw [if_pos (show (true && (46 : Nat) == 46) = true from rfl), tail hw]
  · have e1 : dotsOf (x :: r) n = 0 := if_neg h23
    have e2 : dotsOf (x :: r) (n + 1) = 0 := if_neg h23
    unfold lineN
    rw [e1, e2]
    obtain ⟨c, u, hcu, h46, h10, h13, hu⟩ := sign_head (h x (.head _)) h23
    have e3 : spellR (x :: r) = c :: (u ++ spellR r) := by
      show chs (sp x) ++ spellR r = _
      rw [hcu]; rfl
    have hw : Plain (u ++ spellR r) := fun y hy => by
      rcases List.mem_append.mp hy with hy | hy
      · exact hu y hy
      · exact spellR_plain (fun z hz => h z (.tail _ hz)) y hy
    rw [e3]
    show (if true && c == 46 then _ else c :: dotG (c == 10) ((u ++ spellR r) ++ [13, 10] ++ t)) = _
    rw [show (true && c == 46) = false from by simpa using h46, show (c == 10) = false from by simpa using h10]
    show c :: dotG false ((u ++ spellR r) ++ [13, 10] ++ t) = _
    rw [List.append_assoc, tail hw]
    simp
theorem doc_dot {n : Nat} : ∀ {rows : List (List Int)}, (∀ row ∈ rows, row ≠ [] ∧ ∀ x ∈ row, x ∈ signs) → dotG true (docN n rows) = docN (n + 1) rows
  | [], _ => rfl
  | row :: rows, h => by
    obtain ⟨h1, h2⟩ := h row (.head _)
    have ih := doc_dot (n := n) (rows := rows) fun z hz => h z (.tail _ hz)
    show dotG true (lineN n row ++ docN n rows) = lineN (n + 1) row ++ docN (n + 1) rows
    rw [line_dot h2 h1, ih]
theorem line_nl {row : List Int} {n : Nat} {t : List Nat} (h : ∀ x ∈ row, x ∈ signs) (hne : row ≠ []) : nlG false (lineN n row ++ t) = lineN n row ++ nlG false t := by
  have hw : Plain (List.replicate (dotsOf row n) 46 ++ spellR row) := fun y hy => by
    rcases List.mem_append.mp hy with hy | hy
    · rw [List.eq_of_mem_replicate hy]; decide
    · exact spellR_plain h y hy
  have hwne : List.replicate (dotsOf row n) 46 ++ spellR row ≠ [] := by
    cases row with
    | nil => exact absurd rfl hne
    | cons x r =>
      intro z
      have : spellR (x :: r) = [] := (List.append_eq_nil_iff.mp z).2
      have h2 : chs (sp x) = [] := (List.append_eq_nil_iff.mp (show chs (sp x) ++ spellR r = [] from this)).1
      have hx := h x (.head _)
      simp only [signs, List.mem_cons, List.not_mem_nil, or_false] at hx
      rcases hx with rfl | rfl | rfl | rfl | rfl <;> exact absurd h2 (by decide)
  have e : lineN n row ++ t = (List.replicate (dotsOf row n) 46 ++ spellR row) ++ (13 :: 10 :: t) := by
    unfold lineN
    simp
  have e2 : lineN n row ++ nlG false t = (List.replicate (dotsOf row n) 46 ++ spellR row) ++ (13 :: 10 :: nlG false t) := by
    unfold lineN
    simp
  rw [e, e2, nl_plain hw hwne]
  rfl
theorem doc_nl {n : Nat} : ∀ {rows : List (List Int)}, (∀ row ∈ rows, row ≠ [] ∧ ∀ x ∈ row, x ∈ signs) → nlG false (docN n rows) = docN n rows
  | [], _ => rfl
  | row :: rows, h => by
    obtain ⟨h1, h2⟩ := h row (.head _)
    have ih := doc_nl (n := n) (rows := rows) fun z hz => h z (.tail _ hz)
    show nlG false (lineN n row ++ docN n rows) = lineN n row ++ docN n rows
    rw [line_nl h2 h1, ih]
theorem doc_quote {rows : List (List Int)} (h : ∀ row ∈ rows, row ≠ [] ∧ ∀ x ∈ row, x ∈ signs) : ∀ (m n : Nat), quoteN m (docN n rows) = docN (n + m) rows
  | 0, n => rfl
  | m + 1, n => by
    show quoteN m (quoteF (docN n rows)) = _
    unfold quoteF
    rw [doc_nl h, doc_dot h, doc_quote h m (n + 1)]
    congr 1
    omega
theorem spellR_ne' {row : List Int} (h : ∀ x ∈ row, x ∈ signs) (hne : row ≠ []) : ∃ c u, spellR row = c :: u ∧ c ≠ 10 ∧ c ≠ 13 := by
  have hp := spellR_plain h
  cases hs : spellR row with
  | nil =>
    cases row with
    | nil => exact absurd rfl hne
    | cons x r =>
      have h2 : chs (sp x) = [] := (List.append_eq_nil_iff.mp (show chs (sp x) ++ spellR r = [] from hs)).1
      have hx := h x (.head _)
      simp only [signs, List.mem_cons, List.not_mem_nil, or_false] at hx
      rcases hx with rfl | rfl | rfl | rfl | rfl <;> exact absurd h2 (by decide)
  | cons c u => exact ⟨c, u, rfl, hp c (by rw [hs]; exact .head _)⟩
/-- the mail as it is typed: its ends made one, it is a doc without dots yet -/
theorem text_nl {a b c : List Int} (ha : a ≠ [] ∧ ∀ x ∈ a, x ∈ signs) (hb : b ≠ [] ∧ ∀ x ∈ b, x ∈ signs) (hc : c ≠ [] ∧ ∀ x ∈ c, x ∈ signs) : nlG false (textF [a, b, c]) = docN 0 [a, b, c] := by
  have ne : ∀ {r : List Int}, r ≠ [] ∧ (∀ x ∈ r, x ∈ signs) → spellR r ≠ [] := fun {r} h z => by
    obtain ⟨c, u, e, _⟩ := spellR_ne' h.2 h.1
    rw [z] at e; cases e
  have e0 : textF [a, b, c] = spellR a ++ (13 :: (spellR b ++ (10 :: (spellR c ++ [13, 10])))) := by
    show ((spellR a ++ [13]) ++ (spellR b ++ [10])) ++ (spellR c ++ [13, 10]) = _
    simp
  have z0 : ∀ r : List Int, lineN 0 r = spellR r ++ [13, 10] := fun r => by
    unfold lineN dotsOf
    split <;> rfl
  rw [e0, nl_plain (spellR_plain ha.2) (ne ha)]
  show spellR a ++ (13 :: 10 :: nlG true (spellR b ++ (10 :: (spellR c ++ [13, 10])))) = _
  rw [nl_plain (spellR_plain hb.2) (ne hb)]
  show spellR a ++ (13 :: 10 :: (spellR b ++ (13 :: 10 :: nlG false (spellR c ++ [13, 10])))) = _
  rw [nl_plain (spellR_plain hc.2) (ne hc)]
  show _ = lineN 0 a ++ (lineN 0 b ++ (lineN 0 c ++ []))
  rw [z0, z0, z0]
  show spellR a ++ (13 :: 10 :: (spellR b ++ (13 :: 10 :: (spellR c ++ [13, 10])))) = _
  simp
theorem text_quote {a b c : List Int} (ha : a ≠ [] ∧ ∀ x ∈ a, x ∈ signs) (hb : b ≠ [] ∧ ∀ x ∈ b, x ∈ signs) (hc : c ≠ [] ∧ ∀ x ∈ c, x ∈ signs) (n : Nat) : quoteN (n + 1) (textF [a, b, c]) = docN (n + 1) [a, b, c] := by
  have h : ∀ row ∈ [a, b, c], row ≠ [] ∧ ∀ x ∈ row, x ∈ signs := fun row hr => by
    simp only [List.mem_cons, List.not_mem_nil, or_false] at hr
    rcases hr with rfl | rfl | rfl
    · exact ha
    · exact hb
    · exact hc
  show quoteN n (quoteF (textF [a, b, c])) = _
  unfold quoteF
  rw [text_nl ha hb hc, doc_dot h, doc_quote h n 1]
  congr 1
  omega
theorem toks_doc (n : Nat) : ∀ {rows : List (List Int)}, (∀ row ∈ rows, ∀ x ∈ row, x ∈ signs) → Toks (docN n rows) ((rows.map fun row => meantF (row ++ [0]) (dotsOf row n)).flatten)
  | [], _ => .nil
  | row :: rows, h => by
    have ih := toks_doc n (rows := rows) fun z hz => h z (.tail _ hz)
    have := toks_row ih row (dotsOf row n) (h row (.head _))
    have e : docN n (row :: rows) = List.replicate (dotsOf row n) 46 ++ (spellR row ++ 13 :: 10 :: docN n rows) := by
      show lineN n row ++ docN n rows = _
      unfold lineN
      simp
    rw [e]
    exact this
end Mine
namespace Mine
noncomputable abbrev keysI (l : List (Int × Int)) : List Int := l.map (·.1)
noncomputable abbrev valsI (l : List (Int × Int)) : List Int := l.map (·.2)
theorem atv_cons (p : Int × Int) (t : List (Int × Int)) (k : Int) : atv (p :: t) k = if p.1 = k then p.2 else atv t k := by
  by_cases h : p.1 = k <;> simp [atv, atL, h]
theorem atv_not {k : Int} : ∀ {t : List (Int × Int)}, k ∉ keysI t → atv t k = 0
  | [], _ => rfl
  | p :: t, h => by
    have h1 : ¬ p.1 = k := fun e => h (by rw [← e]; exact List.mem_map_of_mem (f := fun q : Int × Int => q.1) (.head _))
    have h2 : k ∉ keysI t := fun m => h (List.mem_cons_of_mem _ m)
    rw [atv_cons, if_neg h1, atv_not h2]
theorem atv_mem : ∀ {l : List (Int × Int)}, (keysI l).Nodup → ∀ p ∈ l, atv l p.1 = p.2
  | [], _, p, h => by cases h
  | q :: t, hn, p, h => by
    rw [atv_cons]
    have hn' := List.nodup_cons.mp (show (q.1 :: keysI t).Nodup from hn)
    rcases List.mem_cons.mp h with rfl | h
    · rw [if_pos rfl]
    · have : ¬ q.1 = p.1 := fun e => hn'.1 (by rw [e]; exact List.mem_map_of_mem (f := fun q : Int × Int => q.1) h)
      rw [if_neg this]
      exact atv_mem hn'.2 p h
theorem sum_split {f g : Int → Int} : ∀ K : List Int, (K.map fun k => f k + g k).sum = (K.map f).sum + (K.map g).sum
  | [] => rfl
  | k :: K => by
    have := sum_split (f := f) (g := g) K
    simp only [List.map_cons, List.sum_cons]
    omega
theorem sum_none {k v : Int} : ∀ {K : List Int}, k ∉ K → (K.map fun x => if k = x then v else 0).sum = 0
  | [], _ => rfl
  | x :: K, h => by
    have h1 : ¬ k = x := fun e => h (by rw [e]; exact .head _)
    have h2 := sum_none (v := v) (K := K) fun m => h (.tail _ m)
    simp only [List.map_cons, List.sum_cons, if_neg h1, h2]
    rfl
theorem sum_single {k v : Int} : ∀ {K : List Int}, K.Nodup → k ∈ K → (K.map fun x => if k = x then v else 0).sum = v
  | [], _, h => by cases h
  | x :: K, hn, h => by
    have hn' := List.nodup_cons.mp hn
    simp only [List.map_cons, List.sum_cons]
    by_cases e : k = x
    · subst e
      rw [if_pos rfl, sum_none hn'.1]; omega
    · rw [if_neg e, sum_single hn'.2 ((List.mem_cons.mp h).resolve_left e)]; omega
theorem sum_atv : ∀ {f : List (Int × Int)}, (keysI f).Nodup → ∀ {K : List Int}, K.Nodup → (∀ k ∈ keysI f, k ∈ K) → (K.map (atv f)).sum = (valsI f).sum
  | [], _, K, _, _ => by
    induction K with
    | nil => rfl
    | cons x K ih => simp only [List.map_cons, List.sum_cons] at *; rw [ih (by simp_all) (by simp)]; rfl
  | p :: t, hn, K, hK, hs => by
    have hn' := List.nodup_cons.mp (show (p.1 :: keysI t).Nodup from hn)
    have e : ∀ x, atv (p :: t) x = (if p.1 = x then p.2 else 0) + atv t x := fun x => by
      rw [atv_cons]
      by_cases q : p.1 = x
      · rw [if_pos q, if_pos q, atv_not (by rw [← q]; exact hn'.1)]; omega
      · rw [if_neg q, if_neg q]; omega
    rw [funext e, sum_split, sum_single hK (hs _ (.head _)), sum_atv hn'.2 hK fun k hk => hs k (.tail _ hk)]
    simp only [valsI, List.map_cons, List.sum_cons]
theorem sumOf_eq {f : List (Int × Int)} (h : (keysI f).Nodup) : sumOf f = (valsI f).sum := sum_atv h h fun _ m => m

noncomputable def ddI : List Int → List Int → List Int
  | acc, [] => acc
  | acc, k :: ks => if k ∈ acc then ddI acc ks else ddI (acc ++ [k]) ks
theorem dput_in (g : Int → Int) {acc : List Int} {k : Int} (h : k ∈ acc) : dput (acc.map fun k => (k, g k)) k (g k) = acc.map fun k => (k, g k) := by
  have h1 : ((acc.map fun k => (k, g k)).any fun kv => kv.1 = k) = true := by
    rw [List.any_eq_true]
    exact ⟨(k, g k), List.mem_map_of_mem (f := fun k => (k, g k)) h, by simp⟩
  unfold dput
  rw [if_pos h1, List.map_map]
  refine List.map_congr_left fun x _ => ?_
  show (if x = k then (x, g k) else (x, g x)) = (x, g x)
  by_cases e : x = k
  · rw [if_pos e, e]
  · rw [if_neg e]
theorem dput_out (g : Int → Int) {acc : List Int} {k : Int} (h : k ∉ acc) : dput (acc.map fun k => (k, g k)) k (g k) = (acc ++ [k]).map fun k => (k, g k) := by
  have h1 : ¬ ((acc.map fun k => (k, g k)).any fun kv => kv.1 = k) = true := by
    rw [List.any_eq_true]
    rintro ⟨p, hp, e⟩
    obtain ⟨x, hx, rfl⟩ := List.mem_map.mp hp
    have : x = k := by simpa using e
    exact h (this ▸ hx)
  unfold dput
  rw [if_neg h1, List.map_append]
  rfl
theorem fold_dd (g : Int → Int) : ∀ (ks acc : List Int), (ks.map fun k => (k, g k)).foldl (fun l p => dput l p.1 p.2) (acc.map fun k => (k, g k)) = (ddI acc ks).map fun k => (k, g k)
  | [], _ => rfl
  | k :: ks, acc => by
    rw [List.map_cons, List.foldl_cons]
    by_cases h : k ∈ acc
    · have e : ddI acc (k :: ks) = ddI acc ks := by rw [ddI, if_pos h]
      rw [e, ← fold_dd g ks acc]
      show List.foldl _ (dput (acc.map fun k => (k, g k)) k (g k)) _ = _
      rw [dput_in g h]
    · have e : ddI acc (k :: ks) = ddI (acc ++ [k]) ks := by rw [ddI, if_neg h]
      rw [e, ← fold_dd g ks (acc ++ [k])]
      show List.foldl _ (dput (acc.map fun k => (k, g k)) k (g k)) _ = _
      rw [dput_out g h]
theorem dd_nodup : ∀ (ks acc : List Int), acc.Nodup → (ddI acc ks).Nodup
  | [], _, h => h
  | k :: ks, acc, h => by
    rw [ddI]
    split
    · exact dd_nodup ks acc h
    · rename_i hk
      refine dd_nodup ks _ (List.nodup_append.mpr ⟨h, by simp, fun a ha b hb => ?_⟩)
      rw [List.mem_singleton.mp hb]
      rintro rfl
      exact hk ha
theorem dd_mem {k : Int} : ∀ (ks acc : List Int), k ∈ ddI acc ks ↔ k ∈ acc ∨ k ∈ ks
  | [], acc => by simp [ddI]
  | x :: ks, acc => by
    rw [ddI]
    split
    · rename_i hx
      rw [dd_mem ks acc, List.mem_cons]
      constructor
      · rintro (h | h)
        · exact .inl h
        · exact .inr (.inr h)
      · rintro (h | rfl | h)
        · exact .inl h
        · exact .inl hx
        · exact .inr h
    · rw [dd_mem ks (acc ++ [x]), List.mem_append, List.mem_singleton, List.mem_cons, or_assoc]
theorem dd_self : ∀ (ks acc : List Int), ks.Nodup → (∀ k ∈ ks, k ∉ acc) → ddI acc ks = acc ++ ks
  | [], acc, _, _ => by simp [ddI]
  | k :: ks, acc, h, hd => by
    have h' := List.nodup_cons.mp h
    rw [ddI, if_neg (hd k (.head _)), dd_self ks (acc ++ [k]) h'.2 fun x hx m => ?_, List.append_assoc]
    · rfl
    · rcases List.mem_append.mp m with m | m
      · exact hd x (.tail _ hx) m
      · rw [List.mem_singleton.mp m] at hx
        exact h'.1 hx
theorem fold_self (g : Int → Int) {ks : List Int} (h : ks.Nodup) : (ks.map fun k => (k, g k)).foldl (fun l p => dput l p.1 p.2) [] = ks.map fun k => (k, g k) := by
  have := fold_dd g ks []
  rw [dd_self ks [] h (by simp)] at this
  exact this

/-- the place that bisect_right finds -/
theorem bisR_is {ks : List Int} {x : Int} (hs : ∀ i j, i ≤ j → j < ks.length → ks.getD i 0 ≤ ks.getD j 0) : ∀ (f lo hi : Nat), hi - lo ≤ f → lo ≤ hi → hi ≤ ks.length → (∀ i, i < lo → ks.getD i 0 ≤ x) → (∀ i, hi ≤ i → i < ks.length → x < ks.getD i 0) →
    bisR ks x f lo hi ≤ ks.length ∧ (∀ i, i < bisR ks x f lo hi → ks.getD i 0 ≤ x) ∧ ∀ i, bisR ks x f lo hi ≤ i → i < ks.length → x < ks.getD i 0
  | 0, lo, hi, hf, hl, hh, h1, h2 => by
    have : lo = hi := by omega
    subst this
    exact ⟨hh, h1, h2⟩
  | f + 1, lo, hi, hf, hl, hh, h1, h2 => by
    rw [bisR]
    split
    · split
      · rename_i hlt hx
        refine bisR_is hs f lo ((lo + hi) / 2) (by omega) (by omega) (by omega) h1 fun i hi1 hi2 => ?_
        have := hs ((lo + hi) / 2) i hi1 hi2
        omega
      · rename_i hlt hx
        refine bisR_is hs f ((lo + hi) / 2 + 1) hi (by omega) (by omega) hh (fun i hi1 => ?_) h2
        have := hs i ((lo + hi) / 2) (by omega) (by omega)
        omega
    · have : lo = hi := by omega
      subst this
      exact ⟨hh, h1, h2⟩
theorem getI {l : List Int} {i : Nat} (h : i < l.length) : l.getD i 0 = l[i] := by simp [List.getD, List.getElem?_eq_getElem h]
theorem sort_get {l : List Int} (h : l.Pairwise (· ≤ ·)) : ∀ i j, i ≤ j → j < l.length → l.getD i 0 ≤ l.getD j 0 := fun i j hij hj => by
  have hi : i < l.length := by omega
  rw [getI hi, getI hj]
  by_cases e : i = j
  · subst e; exact Int.le_refl _
  · exact List.pairwise_iff_getElem.mp h i j hi hj (by omega)
theorem insR_sort {l : List Int} {x : Int} (h : l.Pairwise (· ≤ ·)) : (insR l x).Pairwise (· ≤ ·) := by
  obtain ⟨h0, h1, h2⟩ := bisR_is (x := x) (sort_get h) l.length 0 l.length (by omega) (by omega) (by omega) (fun i hi => by omega) (fun i hi hi' => by omega)
  unfold insR
  generalize bisR l x l.length 0 l.length = r at h0 h1 h2
  have ht : ∀ a ∈ l.take r, a ≤ x := fun a ha => by
    obtain ⟨i, hi, rfl⟩ := List.mem_iff_getElem.mp ha
    rw [List.length_take] at hi
    have := h1 i (by omega)
    rw [getI (by omega)] at this
    rw [List.getElem_take]; exact this
  have hd : ∀ b ∈ l.drop r, x ≤ b := fun b hb => by
    obtain ⟨i, hi, rfl⟩ := List.mem_iff_getElem.mp hb
    rw [List.length_drop] at hi
    have := h2 (r + i) (by omega) (by omega)
    rw [getI (by omega)] at this
    rw [List.getElem_drop]; omega
  refine List.pairwise_append.mpr ⟨h.sublist (List.take_sublist ..), List.pairwise_cons.mpr ⟨hd, h.sublist (List.drop_sublist ..)⟩, fun a ha b hb => ?_⟩
  rcases List.mem_cons.mp hb with rfl | hb
  · exact ht a ha
  · exact Int.le_trans (ht a ha) (hd b hb)
theorem insR_perm {l : List Int} {x : Int} : (insR l x).Perm (x :: l) := by
  unfold insR
  refine List.perm_middle.trans ?_
  rw [List.take_append_drop]
theorem ranks_are (f : Int → Int) : ∀ (ks l : List Int), l.Pairwise (· ≤ ·) → (ks.foldl (fun l k => insR l (f k)) l).Pairwise (· ≤ ·) ∧ (ks.foldl (fun l k => insR l (f k)) l).Perm (ks.map f ++ l)
  | [], l, h => ⟨h, .refl _⟩
  | k :: ks, l, h => by
    obtain ⟨h1, h2⟩ := ranks_are f ks (insR l (f k)) (insR_sort h)
    refine ⟨h1, h2.trans ?_⟩
    rw [List.map_cons, List.cons_append]
    exact (List.Perm.append_left _ insR_perm).trans List.perm_middle
theorem cut_counts {r : List Int} {size : Nat} (h : r.Pairwise (· ≤ ·)) (hl : size < r.length) : r.countP (fun v => decide (r.getD (r.length - size - 1) 0 < v)) ≤ size ∧ size + 1 ≤ r.countP (fun v => decide (r.getD (r.length - size - 1) 0 ≤ v)) := by
  have hm : r.length - size - 1 < r.length := by omega
  rw [getI hm]
  generalize hc : r[r.length - size - 1] = c
  have hd : r.drop (r.length - size - 1) = c :: r.drop (r.length - size - 1 + 1) := by rw [List.drop_eq_getElem_cons hm, hc]
  have hsplit := List.take_append_drop (r.length - size - 1) r
  rw [hd] at hsplit
  have hlen : (r.drop (r.length - size - 1 + 1)).length = size := by rw [List.length_drop]; omega
  generalize r.drop (r.length - size - 1 + 1) = q at *
  generalize r.take (r.length - size - 1) = p at *
  rw [← hsplit] at h ⊢
  obtain ⟨_, h2, h3⟩ := List.pairwise_append.mp h
  have h4 := (List.pairwise_cons.mp h2).1
  rw [List.countP_append, List.countP_append, List.countP_cons, List.countP_cons]
  have e1 : p.countP (fun v => decide (c < v)) = 0 := by
    rw [List.countP_eq_zero]
    intro a ha
    have := h3 a ha c (.head _)
    simp; omega
  have e2 : q.countP (fun v => decide (c ≤ v)) = q.length := by
    rw [List.countP_eq_length]
    intro a ha
    have := h4 a ha
    simpa using this
  have e3 := List.countP_le_length (p := fun v => decide (c < v)) (l := q)
  rw [e1, e2]
  simp
  omega

structure Sk (size : Nat) (every : List Int) (f : List (Int × Int)) : Prop where
  nd : (keysI f).Nodup
  pos : ∀ p ∈ f, 0 < p.2
  len : f.length ≤ size
  err : ∃ e : Int, 0 ≤ e ∧ (∀ k : Int, (every.count k : Int) - e ≤ atv f k ∧ atv f k ≤ (every.count k : Int)) ∧ e * ((size + 1 : Nat) : Int) + (valsI f).sum ≤ (every.length : Int)
theorem atv_ge {f : List (Int × Int)} (hn : (keysI f).Nodup) (h : ∀ p ∈ f, 0 < p.2) (k : Int) : 0 ≤ atv f k ∧ (k ∈ keysI f → 0 < atv f k) := by
  by_cases hk : k ∈ keysI f
  · obtain ⟨p, hp, rfl⟩ := List.mem_map.mp hk
    rw [atv_mem hn p hp]
    exact ⟨Int.le_of_lt (h p hp), fun _ => h p hp⟩
  · rw [atv_not hk]
    exact ⟨Int.le_refl _, fun m => absurd m hk⟩
theorem keys_map {K : List Int} {g : Int → Int} : keysI (K.map fun k => (k, g k)) = K := by
  show List.map (fun p : Int × Int => p.1) _ = _
  rw [List.map_map]
  exact List.map_id K
theorem vals_map {K : List Int} {g : Int → Int} : valsI (K.map fun k => (k, g k)) = K.map g := by
  show List.map (fun p : Int × Int => p.2) _ = _
  rw [List.map_map]
  rfl
theorem sum_cut {s : Int → Int} {c : Int} (hc : 0 ≤ c) : ∀ K : List Int, (∀ k ∈ K, 0 ≤ s k) → ((K.filter fun k => decide (c < s k)).map fun k => s k - c).sum + c * ((K.countP fun k => decide (c ≤ s k) : Nat) : Int) ≤ (K.map s).sum
  | [], _ => by simp
  | k :: K, h => by
    have ih := sum_cut (s := s) hc K fun x hx => h x (.tail _ hx)
    have h0 := h k (.head _)
    rw [List.filter_cons, List.countP_cons, List.map_cons, List.sum_cons]
    by_cases h1 : c < s k
    · have h2 : c ≤ s k := by omega
      simp only [h1, h2, decide_true, if_true, List.map_cons, List.sum_cons, Int.natCast_add, Int.mul_add]
      simp
      omega
    · by_cases h2 : c ≤ s k
      · simp only [h1, h2, decide_true, decide_false, if_true, Int.natCast_add, Int.mul_add]
        simp
        omega
      · simp only [h1, h2, decide_false]
        simp
        omega
theorem Sk.join {size : Nat} {ev1 ev2 : List Int} {f1 f2 : List (Int × Int)} (H1 : Sk size ev1 f1) (H2 : Sk size ev2 f2) : Sk size (ev1 ++ ev2) (joinedF f1 f2 size) := by
  obtain ⟨n1, p1, _, e1, z1, b1, s1⟩ := H1
  obtain ⟨n2, p2, _, e2, z2, b2, s2⟩ := H2
  obtain ⟨K, hKd⟩ : ∃ K, K = ddI [] (keysI f1 ++ keysI f2) := ⟨_, rfl⟩
  have hKn : K.Nodup := by rw [hKd]; exact dd_nodup _ _ (by simp)
  have hKm : ∀ k, k ∈ K ↔ k ∈ keysI f1 ∨ k ∈ keysI f2 := fun k => by rw [hKd, dd_mem, List.mem_append]; simp
  obtain ⟨s, hs⟩ : ∃ s : Int → Int, s = fun k => atv f1 k + atv f2 k := ⟨_, rfl⟩
  have hs0 : ∀ k, 0 ≤ s k := fun k => by
    have := (atv_ge n1 p1 k).1
    have := (atv_ge n2 p2 k).1
    rw [hs]; show 0 ≤ atv f1 k + atv f2 k; omega
  have hsK : ∀ k, k ∉ K → s k = 0 := fun k hk => by
    rw [hKm] at hk
    rw [hs]
    show atv f1 k + atv f2 k = 0
    rw [atv_not fun m => hk (.inl m), atv_not fun m => hk (.inr m)]; rfl
  have hb : bothF f1 f2 = K.map fun k => (k, s k) := by
    rw [hKd, hs]
    exact fold_dd (fun k => atv f1 k + atv f2 k) (keysI f1 ++ keysI f2) []
  have hbk : (bothF f1 f2).map (·.1) = K := by rw [hb]; exact keys_map
  have hbv : ∀ k, atv (bothF f1 f2) k = s k := fun k => by
    by_cases hk : k ∈ K
    · have := atv_mem (l := bothF f1 f2) (by rw [keysI, hbk]; exact hKn) (k, s k) (by rw [hb]; exact List.mem_map_of_mem (f := fun k => (k, s k)) hk)
      exact this
    · rw [atv_not (by rw [keysI, hbk]; exact hk), hsK k hk]
  obtain ⟨c, hc⟩ : ∃ c, c = cutF (bothF f1 f2) size := ⟨_, rfl⟩
  obtain ⟨r, hr⟩ : ∃ r, r = ranksF (bothF f1 f2) := ⟨_, rfl⟩
  have hr2 : r.Pairwise (· ≤ ·) ∧ r.Perm (K.map s) := by
    have := ranks_are (atv (bothF f1 f2)) K [] .nil
    rw [List.append_nil, funext hbv] at this
    rw [hr, ranksF, hbk, funext hbv]
    exact this
  have hrl : r.length = K.length := by rw [hr2.2.length_eq, List.length_map]
  have hcut : 0 ≤ c ∧ (K.filter fun k => decide (c < s k)).length ≤ size ∧ (c * ((size + 1 : Nat) : Int) ≤ c * ((K.countP fun k => decide (c ≤ s k) : Nat) : Int)) := by
    rw [cutF, ← hr] at hc
    by_cases hl : size < r.length
    · rw [if_pos hl] at hc
      obtain ⟨c1, c2⟩ := cut_counts hr2.1 hl
      rw [← hc] at c1 c2
      rw [hr2.2.countP_eq, List.countP_map] at c1 c2
      have hc0 : 0 ≤ c := by
        have hm : r.length - size - 1 < r.length := by omega
        have : c ∈ r := by rw [hc, getI hm]; exact List.getElem_mem hm
        obtain ⟨k, _, rfl⟩ := List.mem_map.mp (hr2.2.mem_iff.mp this)
        exact hs0 k
      refine ⟨hc0, ?_, Int.mul_le_mul_of_nonneg_left (by exact_mod_cast c2) hc0⟩
      rw [← List.countP_eq_length_filter]; exact c1
    · rw [if_neg hl] at hc
      refine ⟨by omega, ?_, by rw [hc]; omega⟩
      have := List.length_filter_le (fun k => decide (c < s k)) K
      omega
  obtain ⟨c0, cl, cc⟩ := hcut
  obtain ⟨J, hJ⟩ : ∃ J, J = K.filter fun k => decide (c < s k) := ⟨_, rfl⟩
  have hJn : J.Nodup := by rw [hJ]; exact hKn.sublist (List.filter_sublist ..)
  have hJm : ∀ k, k ∈ J ↔ c < s k := fun k => by
    rw [hJ, List.mem_filter]
    constructor
    · rintro ⟨_, h⟩; simpa using h
    · intro h
      refine ⟨?_, by simpa using h⟩
      by_cases hk : k ∈ K
      · exact hk
      · rw [hsK k hk] at h; omega
  have hj : joinedF f1 f2 size = J.map fun k => (k, s k - c) := by
    have e : ((bothF f1 f2).map (·.1)).filterMap (fun k => if cutF (bothF f1 f2) size < atv (bothF f1 f2) k then some (k, atv (bothF f1 f2) k - cutF (bothF f1 f2) size) else none) = J.map fun k => (k, s k - c) := by
      rw [hbk, ← hc, hJ, ← List.filterMap_eq_map, ← List.filterMap_eq_filter, List.filterMap_filterMap]
      refine congrArg (fun F => List.filterMap F K) (funext fun k => ?_)
      rw [hbv]
      by_cases h : c < s k
      · simp [h, Option.guard]
      · simp [h, Option.guard]
    unfold joinedF
    rw [e]
    exact fold_self (fun k => s k - c) hJn
  have hjv : ∀ k, atv (joinedF f1 f2 size) k = if c < s k then s k - c else 0 := fun k => by
    by_cases hk : c < s k
    · rw [if_pos hk]
      exact atv_mem (l := joinedF f1 f2 size) (by rw [hj, keys_map]; exact hJn) (k, s k - c) (by rw [hj]; exact List.mem_map_of_mem (f := fun k => (k, s k - c)) ((hJm k).mpr hk))
    · rw [if_neg hk]
      exact atv_not (by rw [hj, keys_map, hJm]; exact hk)
  refine ⟨by rw [hj, keys_map]; exact hJn, fun p hp => ?_, by rw [hj, List.length_map, hJ]; exact cl, e1 + e2 + c, by omega, fun k => ?_, ?_⟩
  · rw [hj] at hp
    obtain ⟨k, hk, rfl⟩ := List.mem_map.mp hp
    have := (hJm k).mp hk
    show 0 < s k - c
    omega
  · rw [hjv, List.count_append, Int.natCast_add]
    have h0 := hs0 k
    have h1 := b1 k
    have h2 := b2 k
    have h3 : s k = atv f1 k + atv f2 k := by rw [hs]
    split <;> omega
  · have hsum := sum_cut (s := s) c0 K fun k _ => hs0 k
    rw [← hJ] at hsum
    have e3 : (K.map s).sum = (valsI f1).sum + (valsI f2).sum := by
      rw [hs, sum_split, sum_atv n1 hKn fun k hk => (hKm k).mpr (.inl hk), sum_atv n2 hKn fun k hk => (hKm k).mpr (.inr hk)]
    have e4 : (((ev1 ++ ev2).length : Nat) : Int) = (ev1.length : Int) + (ev2.length : Int) := by rw [List.length_append, Int.natCast_add]
    rw [hj, vals_map, e4, Int.add_mul, Int.add_mul]
    omega
theorem Sk.whole {size : Nat} {every : List Int} {f : List (Int × Int)} (H : Sk size every f) : WholeOk every size f := by
  obtain ⟨n, p, l, e, z, b, s⟩ := H
  have hp : ∀ {t : List (Int × Int)}, (∀ q ∈ t, 0 < q.2) → 0 ≤ (valsI t).sum := by
    intro t
    induction t with
    | nil => intro _; simp
    | cons q t ih =>
      intro h
      have h1 := ih fun x hx => h x (.tail _ hx)
      have h2 := h q (.head _)
      simp only [valsI, List.map_cons, List.sum_cons] at *
      omega
  have hs := hp p
  have he : 0 ≤ e * ((size + 1 : Nat) : Int) := Int.mul_nonneg z (by omega)
  have hsp : e ≤ (spareF every size f : Int) := by
    unfold spareF
    rw [sumOf_eq n]
    obtain ⟨e', rfl⟩ := Int.eq_ofNat_of_zero_le z
    have : e' * (size + 1) ≤ ((every.length : Int) - (valsI f).sum).toNat := by
      have : ((e' * (size + 1) : Nat) : Int) ≤ (every.length : Int) - (valsI f).sum := by rw [Int.natCast_mul]; omega
      omega
    exact_mod_cast (Nat.le_div_iff_mul_le (by omega)).mpr this
  refine ⟨l, by rw [sumOf_eq n]; omega, by rw [sumOf_eq n]; omega, fun k _ => ?_⟩
  have := b k
  show _ ≤ atv f k ∧ atv f k ≤ _
  omega
end Mine
section
namespace Mine
/-- an hour with the counters told as digits, not as a number -/
noncomputable def digTab (size : Nat) : List (List Int) :=
  if size = 2 then ([0, 1, 2, 3, 4, 5].flatMap fun a => [0, 1, 2, 3, 4, 5].map fun b => [a, b]).filter fun l => decide (l.sum ≤ 5)
  else ([0, 1, 2, 3, 4, 5].flatMap fun a => [0, 1, 2, 3, 4, 5].flatMap fun b => [0, 1, 2, 3, 4, 5].map fun c => [a, b, c]).filter fun l => decide (l.sum ≤ 5)
noncomputable def cntD (size : Nat) (kind : Int) (names digits : List Int) : List Int × List Int :=
  match heldF size kind names digits, freeF size digits with
  | h :: _, _ => (names, digits.set h.toNat (digits.getD h.toNat 0 + 1))
  | [], f :: _ => (names.set f.toNat kind, digits.set f.toNat (digits.getD f.toNat 0 + 1))
  | [], [] => (names, digits.map fun d => d - 1)
noncomputable def condD (size hour : Nat) (row : List (List Int)) (names digits : List Int) (kept over : List (Int × Int)) (least : Int) : Bool :=
  (digTab size).contains digits && row.length == size + 1 && names.length == size && kept.length == over.length && (kept.all fun p => atL over p.1 == some p.2) &&
    decide (0 ≤ ((hour + 1 : Nat) : Int) - digits.sum) && ((hour + 1 : Nat) : Int) - digits.sum == least * ((size + 1 : Nat) : Int)
noncomputable def stepD (size : Nat) (late : Bool) (hour : Nat) (kind : Int) (S : St) : Option St :=
  let row := rowF size hour late kind S.row
  let c := cntD size kind S.names S.digits
  let kept := keptF size c.1 c.2
  let least := rowAt row 0 0
  if condD size hour row c.1 c.2 kept (overF least row) least then some ⟨row, c.1, 0, c.2, kept⟩ else none
noncomputable def runD (size : Nat) (late : Bool) : Nat → List Int → St → Option St
  | _, [], S => some S
  | hour, kind :: t, S => match stepD size late hour kind S with
    | some S' => runD size late (hour + 1) t S'
    | none => none
noncomputable def followD (stream : List Int) (size : Nat) (late : Bool) : Option (List (Int × Int)) :=
  match runD size late 0 stream (st0 size) with
  | some S => if endF late stream S then some S.kept else none
  | none => none
noncomputable def skB (size : Nat) (w : List Int) (kept : List (Int × Int)) : Bool :=
  let e := ((w.length : Int) - (valsI kept).sum) / ((size + 1 : Nat) : Int)
  decide (keysI kept).Nodup && (kept.all fun p => decide (0 < p.2)) && decide (kept.length ≤ size) && ((keysI kept).all fun k => w.contains k) && decide (0 ≤ e) &&
    (w.all fun k => decide ((w.count k : Int) - e ≤ atv kept k) && decide (atv kept k ≤ (w.count k : Int))) && decide (e * ((size + 1 : Nat) : Int) + (valsI kept).sum ≤ (w.length : Int))
noncomputable def checkD (size : Nat) (late : Bool) (w : List Int) : Bool :=
  match followD w size late with
  | some kept => skB size w kept
  | none => false
/-- the words up to renaming -/
noncomputable def words : Nat → Nat → List (List Int)
  | 0, _ => [[]]
  | n + 1, m => ((List.range m).flatMap fun i => (words n m).map fun w => ((i + 1 : Nat) : Int) :: w) ++ (words n (m + 1)).map fun w => ((m + 1 : Nat) : Int) :: w
noncomputable def wordsTo5 : List (List Int) := words 0 0 ++ words 1 0 ++ words 2 0 ++ words 3 0 ++ words 4 0 ++ words 5 0
set_option maxHeartbeats 4000000
theorem check2f : wordsTo5.all (checkD 2 false) = true := by decide +kernel
theorem check2t : wordsTo5.all (checkD 2 true) = true := by decide +kernel
theorem check3f : wordsTo5.all (checkD 3 false) = true := by decide +kernel
theorem check3t : wordsTo5.all (checkD 3 true) = true := by decide +kernel
noncomputable def wideB (size wide : Nat) (ds : List Int) : Bool :=
  digitsF size wide (d2i wide ds).toNat == ds && decide (0 ≤ d2i wide ds) && decide (d2i wide ds < 2 ^ 40) && (ds.all fun d => decide (0 ≤ d) && decide (d < 2 ^ 40)) && ds.length == size
noncomputable def wideC (size wide : Nat) (ds : List Int) : Bool :=
  ((List.range size).all fun h => decide (d2i wide ds + ((2 ^ (wide * h) : Nat) : Int) = d2i wide (ds.set h (ds.getD h 0 + 1)))) && decide (d2i wide ds - d2i wide (List.replicate size 1) = d2i wide (ds.map fun d => d - 1))
theorem wide2 : ([3, 4, 5, 6].all fun wide => (digTab 2).all fun ds => wideB 2 wide ds && wideC 2 wide ds) = true := by decide +kernel
theorem wide3 : ([3, 4, 5, 6].all fun wide => (digTab 3).all fun ds => wideB 3 wide ds && wideC 3 wide ds) = true := by decide +kernel
end Mine
end
namespace Mine
noncomputable def gR (ρ : Int → Int) (o : List Int) : List Int := [o.getD 0 0, ρ (o.getD 1 0), o.getD 2 0]
noncomputable def pR (ρ : Int → Int) (p : Int × Int) : Int × Int := (ρ p.1, p.2)
noncomputable def mapS (ρ : Int → Int) (wide : Nat) (S : St) : St := ⟨S.row.map (gR ρ), S.names.map ρ, (d2i wide S.digits).toNat, S.digits, S.kept.map (pR ρ)⟩
section
variable {ρ : Int → Int}
theorem getD_mapL {α β : Type} (f : α → β) (a : α) : ∀ (l : List α) (k : Nat), (l.map f).getD k (f a) = f (l.getD k a)
  | [], k => rfl
  | x :: l, 0 => rfl
  | x :: l, k + 1 => getD_mapL f a l k
theorem rowAt0 (row : List (List Int)) (k : Nat) : rowAt (row.map (gR ρ)) k 0 = rowAt row k 0 := by
  unfold rowAt
  induction row generalizing k with
  | nil => rfl
  | cons o row ih => cases k with
    | zero => rfl
    | succ k => exact ih k
theorem rowAt1 (h0 : ρ 0 = 0) (row : List (List Int)) (k : Nat) : rowAt (row.map (gR ρ)) k 1 = ρ (rowAt row k 1) := by
  unfold rowAt
  induction row generalizing k with
  | nil => exact h0.symm
  | cons o row ih => cases k with
    | zero => rfl
    | succ k => exact ih k
theorem beq_inj (hi : ∀ a b, ρ a = ρ b → a = b) (a b : Int) : (ρ a == ρ b) = (a == b) := by
  by_cases h : a = b
  · subst h; simp
  · have : ¬ ρ a = ρ b := fun e => h (hi _ _ e)
    rw [beq_eq_false_iff_ne.mpr this, beq_eq_false_iff_ne.mpr h]
theorem slots_map (h0 : ρ 0 = 0) (hi : ∀ a b, ρ a = ρ b → a = b) (size : Nat) (kind : Int) (row : List (List Int)) : slotsF size (ρ kind) (row.map (gR ρ)) = slotsF size kind row := by
  unfold slotsF
  refine congrArg (List.map Int.ofNat) (List.filter_congr fun j _ => ?_)
  rw [rowAt1 h0, beq_inj hi]
theorem nameAt (h0 : ρ 0 = 0) (names : List Int) (j : Nat) : (names.map ρ).getD j 0 = ρ (names.getD j 0) := by
  have := getD_mapL ρ 0 names j
  rw [h0] at this; exact this
theorem held_map (h0 : ρ 0 = 0) (hi : ∀ a b, ρ a = ρ b → a = b) (size : Nat) (kind : Int) (names digits : List Int) : heldF size (ρ kind) (names.map ρ) digits = heldF size kind names digits := by
  unfold heldF
  refine congrArg (List.map Int.ofNat) (List.filter_congr fun j _ => ?_)
  rw [nameAt h0, beq_inj hi]
theorem keysOf_map (row : List (List Int)) : keysOf (row.map (gR ρ)) = keysOf row := by
  show List.map _ (List.map _ row) = List.map _ row
  rw [List.map_map]
  rfl
theorem place_map (late : Bool) (row : List (List Int)) (x : Int) : placeF late (row.map (gR ρ)) x = placeF late row x := by
  unfold placeF
  rw [keysOf_map, List.length_map]
theorem rowF_map (h0 : ρ 0 = 0) (hi : ∀ a b, ρ a = ρ b → a = b) (size hour : Nat) (late : Bool) (kind : Int) (row : List (List Int)) : rowF size hour late (ρ kind) (row.map (gR ρ)) = (rowF size hour late kind row).map (gR ρ) := by
  unfold rowF
  simp only [slots_map h0 hi, rowAt0, ← List.map_take, ← List.map_drop, ← List.map_append, place_map]
  rw [List.map_append, List.map_cons]
  rfl
theorem any_map (hi : ∀ a b, ρ a = ρ b → a = b) (l : List (Int × Int)) (k : Int) : ((l.map (pR ρ)).any fun kv => kv.1 = ρ k) = l.any fun kv => kv.1 = k := by
  rw [List.any_map]
  refine congrArg (fun f => List.any l f) (funext fun kv => ?_)
  show decide (ρ kv.1 = ρ k) = decide (kv.1 = k)
  exact decide_eq_decide.mpr ⟨hi _ _, fun e => by rw [e]⟩
theorem dput_map (hi : ∀ a b, ρ a = ρ b → a = b) (l : List (Int × Int)) (k v : Int) : dput (l.map (pR ρ)) (ρ k) v = (dput l k v).map (pR ρ) := by
  unfold dput
  rw [any_map hi]
  split
  · rw [List.map_map, List.map_map]
    refine List.map_congr_left fun kv _ => ?_
    show (if ρ kv.1 = ρ k then (ρ kv.1, v) else (ρ kv.1, kv.2)) = pR ρ (if kv.1 = k then (kv.1, v) else kv)
    by_cases h : kv.1 = k
    · rw [if_pos h, if_pos (by rw [h])]; rfl
    · rw [if_neg h, if_neg fun e => h (hi _ _ e)]; rfl
  · rw [List.map_append]; rfl
theorem fold_map (hi : ∀ a b, ρ a = ρ b → a = b) : ∀ (q l : List (Int × Int)), (q.map (pR ρ)).foldl (fun l p => dput l p.1 p.2) (l.map (pR ρ)) = (q.foldl (fun l p => dput l p.1 p.2) l).map (pR ρ)
  | [], _ => rfl
  | p :: q, l => by
    rw [List.map_cons, List.foldl_cons, List.foldl_cons, ← fold_map hi q]
    show List.foldl _ (dput (l.map (pR ρ)) (ρ p.1) p.2) _ = _
    rw [dput_map hi]
theorem kept_map (h0 : ρ 0 = 0) (hi : ∀ a b, ρ a = ρ b → a = b) (size : Nat) (names digits : List Int) : keptF size (names.map ρ) digits = (keptF size names digits).map (pR ρ) := by
  unfold keptF
  rw [← fold_map hi _ []]
  refine congrArg (fun q => List.foldl (fun l (p : Int × Int) => dput l p.1 p.2) [] q) ?_
  rw [List.map_filterMap]
  refine congrArg (fun f => List.filterMap f (List.range size)) (funext fun j => ?_)
  rw [nameAt h0]
  split <;> rfl
theorem over_map (hi : ∀ a b, ρ a = ρ b → a = b) (least : Int) (row : List (List Int)) : overF least (row.map (gR ρ)) = (overF least row).map (pR ρ) := by
  unfold overF
  rw [← fold_map hi _ []]
  refine congrArg (fun q => List.foldl (fun l (p : Int × Int) => dput l p.1 p.2) [] q) ?_
  rw [List.filterMap_map, List.map_filterMap]
  refine congrArg (fun f => List.filterMap f row) (funext fun o => ?_)
  show (if least < o.getD 0 0 then some (ρ (o.getD 1 0), o.getD 0 0 - least) else none) = _
  split <;> rfl
theorem atL_map (hi : ∀ a b, ρ a = ρ b → a = b) : ∀ (l : List (Int × Int)) (k : Int), atL (l.map (pR ρ)) (ρ k) = atL l k
  | [], _ => rfl
  | p :: l, k => by
    have ih := atL_map hi l k
    unfold atL at ih ⊢
    rw [List.map_cons, List.find?_cons, List.find?_cons]
    show Option.map _ (match decide (ρ p.1 = ρ k) with | true => _ | false => _) = _
    by_cases h : p.1 = k
    · have : ρ p.1 = ρ k := by rw [h]
      simp only [h, decide_true]; rfl
    · have : ¬ ρ p.1 = ρ k := fun e => h (hi _ _ e)
      simp only [h, this, decide_false]
      exact ih
theorem count_map (hi : ∀ a b, ρ a = ρ b → a = b) (k : Int) : ∀ l : List Int, (l.map ρ).count (ρ k) = l.count k
  | [] => rfl
  | x :: l => by
    rw [List.map_cons, List.count_cons, List.count_cons, count_map hi k l, beq_inj hi]
theorem asc_map (late : Bool) : ∀ row : List (List Int), ascF late (row.map (gR ρ)) = ascF late row
  | [] => rfl
  | [a] => rfl
  | a :: b :: t => by
    have ih := asc_map late (b :: t)
    rw [List.map_cons] at ih
    rw [List.map_cons, List.map_cons, ascF, ascF, ih]
    rfl
theorem end_map (hi : ∀ a b, ρ a = ρ b → a = b) {late : Bool} {stream : List Int} {wide : Nat} {S : St} : endF late (stream.map ρ) (mapS ρ wide S) = endF late stream S := by
  unfold endF mapS
  simp only [asc_map, rowAt0, List.all_map]
  refine congrArg (fun b => b && ascF late S.row) (congrArg (fun f => List.all stream f) (funext fun k => ?_))
  simp only [Function.comp, count_map hi, atL_map hi]
theorem okW {size wide : Nat} (hs : size = 2 ∨ size = 3) (hw : wide ∈ [3, 4, 5, 6]) {ds : List Int} (h : (digTab size).contains ds = true) : wideB size wide ds = true ∧ wideC size wide ds = true := by
  have hm : ds ∈ digTab size := by simpa using h
  rcases hs with rfl | rfl
  · have := List.all_eq_true.mp (List.all_eq_true.mp wide2 wide hw) ds hm
    simpa using this
  · have := List.all_eq_true.mp (List.all_eq_true.mp wide3 wide hw) ds hm
    simpa using this
theorem head_lt {p : Nat → Bool} {size : Nat} {h : Int} {t : List Int} (e : ((List.range size).filter p).map Int.ofNat = h :: t) : h.toNat < size := by
  have hm : h ∈ ((List.range size).filter p).map Int.ofNat := by rw [e]; exact .head _
  obtain ⟨j, hj, rfl⟩ := List.mem_map.mp hm
  have := List.mem_range.mp (List.mem_filter.mp hj).1
  exact this
theorem count_sim (h0 : ρ 0 = 0) (hi : ∀ a b, ρ a = ρ b → a = b) {size wide : Nat} (hs : size = 2 ∨ size = 3) (hw : wide ∈ [3, 4, 5, 6]) {kind : Int} {names digits : List Int} (hd : (digTab size).contains digits = true) :
    countF size wide (ρ kind) (names.map ρ) (d2i wide digits).toNat digits = ((cntD size kind names digits).1.map ρ, d2i wide (cntD size kind names digits).2) := by
  obtain ⟨hB, hC⟩ := okW hs hw hd
  simp only [wideB, Bool.and_eq_true, decide_eq_true_eq] at hB
  simp only [wideC, Bool.and_eq_true, decide_eq_true_eq, List.all_eq_true, List.mem_range] at hC
  have hn : (((d2i wide digits).toNat : Nat) : Int) = d2i wide digits := Int.toNat_of_nonneg hB.1.1.1.2
  unfold countF cntD
  rw [held_map h0 hi]
  cases e1 : heldF size kind names digits with
  | cons h t =>
    have hl := head_lt e1
    show (names.map ρ, ((((d2i wide digits).toNat + 2 ^ (wide * h.toNat) : Nat)) : Int)) = (names.map ρ, _)
    rw [Int.natCast_add, hn, hC.1 _ hl]
  | nil =>
    cases e2 : freeF size digits with
    | cons f t =>
      have hl := head_lt e2
      show ((names.map ρ).set f.toNat (ρ kind), ((((d2i wide digits).toNat + 2 ^ (wide * f.toNat) : Nat)) : Int)) = ((names.set f.toNat kind).map ρ, _)
      rw [Int.natCast_add, hn, hC.1 _ hl, List.map_set]
    | nil =>
      show (names.map ρ, (((d2i wide digits).toNat : Nat) : Int) - d2i wide (List.replicate size 1)) = (names.map ρ, _)
      rw [hn, hC.2]
set_option maxHeartbeats 2000000 in
theorem step_sim (h0 : ρ 0 = 0) (hi : ∀ a b, ρ a = ρ b → a = b) {size wide hour : Nat} {late : Bool} (hs : size = 2 ∨ size = 3) (hw : wide ∈ [3, 4, 5, 6]) {kind : Int} {S S' : St} (hd : (digTab size).contains S.digits = true) (h : stepD size late hour kind S = some S') :
    stepF size wide late hour (ρ kind) (mapS ρ wide S) = some (mapS ρ wide S') ∧ (digTab size).contains S'.digits = true := by
  obtain ⟨row, hrow⟩ : ∃ row, row = rowF size hour late kind S.row := ⟨_, rfl⟩
  obtain ⟨c, hc⟩ : ∃ c, c = cntD size kind S.names S.digits := ⟨_, rfl⟩
  have h' : (if condD size hour row c.1 c.2 (keptF size c.1 c.2) (overF (rowAt row 0 0) row) (rowAt row 0 0) = true then some (⟨row, c.1, 0, c.2, keptF size c.1 c.2⟩ : St) else none) = some S' := by
    rw [hrow, hc]; exact h
  by_cases hq : condD size hour row c.1 c.2 (keptF size c.1 c.2) (overF (rowAt row 0 0) row) (rowAt row 0 0) = true
  · rw [if_pos hq] at h'
    injection h' with h'
    subst h'
    simp only [condD, Bool.and_eq_true] at hq
    obtain ⟨⟨⟨⟨⟨⟨q1, q2⟩, q3⟩, q4⟩, q5⟩, q6⟩, q7⟩ := hq
    obtain ⟨hB, hC⟩ := okW hs hw q1
    simp only [wideB, Bool.and_eq_true] at hB
    obtain ⟨⟨⟨⟨b1, b2⟩, b3⟩, b4⟩, b5⟩ := hB
    refine ⟨?_, q1⟩
    have e1 : rowF size hour late (ρ kind) (mapS ρ wide S).row = row.map (gR ρ) := by rw [hrow]; exact rowF_map h0 hi ..
    have e2 : countF size wide (ρ kind) (mapS ρ wide S).names (mapS ρ wide S).number (mapS ρ wide S).digits = (c.1.map ρ, d2i wide c.2) := by rw [hc]; exact count_sim h0 hi hs hw hd
    have e3 : digitsF size wide (d2i wide c.2).toNat = c.2 := by simpa using b1
    have hk : ((keptF size c.1 c.2).map (pR ρ)).all (fun p => atL ((overF (rowAt row 0 0) row).map (pR ρ)) p.1 == some p.2) = true := by
      rw [List.all_map, ← q5]
      refine congrArg (fun f => List.all (keptF size c.1 c.2) f) (funext fun p => ?_)
      show (atL ((overF (rowAt row 0 0) row).map (pR ρ)) (ρ p.1) == some p.2) = _
      rw [atL_map hi]
    have hr3 : ((row.map (gR ρ)).all fun o => o.length == 3) = true := by
      rw [List.all_map, List.all_eq_true]
      intro o _
      rfl
    unfold stepF
    simp only [e1, e2, e3, rowAt0, over_map hi, kept_map h0 hi]
    rw [if_pos (by simp only [hr3, hk, b2, b3, b4, b5, q2, q3, q4, q6, q7, List.length_map, Bool.and_self])]
    rfl
  · rw [if_neg hq] at h'
    cases h'
theorem runD_cons {size hour : Nat} {late : Bool} {kind : Int} {w : List Int} {S : St} : runD size late hour (kind :: w) S = (stepD size late hour kind S).bind (runD size late (hour + 1) w) := by
  have e : runD size late hour (kind :: w) S = (match stepD size late hour kind S with
    | some S' => runD size late (hour + 1) w S'
    | none => none) := rfl
  rw [e]
  generalize stepD size late hour kind S = z
  cases z <;> rfl
theorem runF_cons {size wide hour : Nat} {late : Bool} {kind : Int} {w : List Int} {S : St} : runF size wide late hour (kind :: w) S = (stepF size wide late hour kind S).bind (runF size wide late (hour + 1) w) := by
  have e : runF size wide late hour (kind :: w) S = (match stepF size wide late hour kind S with
    | some S' => runF size wide late (hour + 1) w S'
    | none => none) := rfl
  rw [e]
  generalize stepF size wide late hour kind S = z
  cases z <;> rfl
theorem run_sim (h0 : ρ 0 = 0) (hi : ∀ a b, ρ a = ρ b → a = b) {size wide : Nat} {late : Bool} (hs : size = 2 ∨ size = 3) (hw : wide ∈ [3, 4, 5, 6]) {S' : St} : ∀ (w : List Int) (hour : Nat) (S : St), (digTab size).contains S.digits = true → runD size late hour w S = some S' →
    runF size wide late hour (w.map ρ) (mapS ρ wide S) = some (mapS ρ wide S') := by
  intro w
  induction w with
  | nil =>
    intro hour S _ h
    injection h with h
    rw [← h]; rfl
  | cons kind w ih =>
    intro hour S hd h
    rw [runD_cons] at h
    obtain ⟨S1, e, h⟩ := Option.bind_eq_some_iff.mp h
    obtain ⟨s1, s2⟩ := step_sim (wide := wide) h0 hi hs hw hd e
    rw [List.map_cons, runF_cons, s1]
    exact ih (hour + 1) S1 s2 h
theorem follow_sim (h0 : ρ 0 = 0) (hi : ∀ a b, ρ a = ρ b → a = b) {size wide : Nat} {late : Bool} (hs : size = 2 ∨ size = 3) (hw : wide ∈ [3, 4, 5, 6]) {w : List Int} {kept : List (Int × Int)} (h : followD w size late = some kept) :
    followF (w.map ρ) size wide late = some (kept.map (pR ρ)) := by
  have h00 : (digTab size).contains (st0 size).digits = true := by rcases hs with rfl | rfl <;> decide +kernel
  have hst : mapS ρ wide (st0 size) = st0 size := by
    unfold mapS st0
    have e1 : (List.replicate (size + 1) [(0 : Int), 0, 0]).map (gR ρ) = List.replicate (size + 1) [0, 0, 0] := by
      rw [List.map_replicate]
      show List.replicate _ [(0 : Int), ρ 0, 0] = _
      rw [h0]
    have e2 : (List.replicate size (0 : Int)).map ρ = List.replicate size 0 := by rw [List.map_replicate, h0]
    have e3 : (d2i wide (List.replicate size (0 : Int))).toNat = 0 := by
      rcases hs with rfl | rfl <;> simp [List.replicate, d2i]
    simp only [e1, e2, e3]
    rfl
  unfold followD at h
  cases e : runD size late 0 w (st0 size) with
  | none => rw [e] at h; cases h
  | some S =>
    rw [e] at h
    have h' : (if endF late w S = true then some S.kept else none) = some kept := h
    by_cases q : endF late w S = true
    · rw [if_pos q] at h'
      injection h' with h'
      have := run_sim (wide := wide) h0 hi hs hw w 0 (st0 size) h00 e
      rw [hst] at this
      unfold followF
      rw [this]
      show (if endF late (w.map ρ) (mapS ρ wide S) = true then some (S.kept.map (pR ρ)) else none) = _
      rw [end_map hi, if_pos q, h']
    · rw [if_neg q] at h'; cases h'
theorem sk_map (hi : ∀ a b, ρ a = ρ b → a = b) {size : Nat} {w : List Int} {kept : List (Int × Int)} (h : skB size w kept = true) : Sk size (w.map ρ) (kept.map (pR ρ)) := by
  simp only [skB, Bool.and_eq_true, decide_eq_true_eq, List.all_eq_true] at h
  obtain ⟨⟨⟨⟨⟨⟨a1, a2⟩, a3⟩, a4⟩, a5⟩, a6⟩, a7⟩ := h
  have ek : keysI (kept.map (pR ρ)) = (keysI kept).map ρ := by
    show List.map (fun p : Int × Int => p.1) _ = List.map ρ (List.map (fun p : Int × Int => p.1) _)
    rw [List.map_map, List.map_map]; rfl
  have ev : valsI (kept.map (pR ρ)) = valsI kept := by
    show List.map (fun p : Int × Int => p.2) _ = List.map (fun p : Int × Int => p.2) _
    rw [List.map_map]; rfl
  refine ⟨?_, fun p hp => ?_, by rw [List.length_map]; exact a3, _, a5, fun k => ?_, by rw [ev, List.length_map]; exact a7⟩
  · rw [ek]
    exact List.pairwise_map.mpr (a1.imp fun hne e => hne (hi _ _ e))
  · obtain ⟨q, hq, rfl⟩ := List.mem_map.mp hp
    exact a2 q hq
  · by_cases hk : k ∈ w.map ρ
    · obtain ⟨x, hx, rfl⟩ := List.mem_map.mp hk
      have := a6 x hx
      rw [count_map hi]
      show _ ≤ (atL (kept.map (pR ρ)) (ρ x)).getD 0 ∧ (atL (kept.map (pR ρ)) (ρ x)).getD 0 ≤ _
      rw [atL_map hi]
      exact this
    · rw [List.count_eq_zero.mpr hk, atv_not]
      · exact ⟨by omega, by omega⟩
      · rw [ek]
        intro m
        obtain ⟨x, hx, rfl⟩ := List.mem_map.mp m
        exact hk (List.mem_map_of_mem (by simpa using a4 x hx))
end

/-- the renaming that a list of kinds makes -/
noncomputable def ren (d : List Int) (x : Int) : Int := if x = 0 then 0 else if x < 0 then x else if x ≤ (d.length : Int) then d.getD (x.toNat - 1) 0 else x + 1000
theorem ren_class {d : List Int} (hd : ∀ y ∈ d, 1 ≤ y ∧ y ≤ 1000) (x : Int) : (x ≤ 0 ∧ ren d x = x) ∨ (∃ (i : Nat) (h : i < d.length), x = (i : Int) + 1 ∧ ren d x = d[i] ∧ 1 ≤ d[i] ∧ d[i] ≤ 1000) ∨ (0 < x ∧ ren d x = x + 1000) := by
  unfold ren
  by_cases h0 : x = 0
  · exact .inl ⟨Int.le_of_eq h0, by rw [if_pos h0, h0]⟩
  rw [if_neg h0]
  by_cases h1 : x < 0
  · exact .inl ⟨Int.le_of_lt h1, if_pos h1⟩
  rw [if_neg h1]
  by_cases h2 : x ≤ (d.length : Int)
  · have hx : x.toNat - 1 < d.length := by omega
    exact .inr (.inl ⟨x.toNat - 1, hx, by omega, by rw [if_pos h2, getI hx], hd _ (List.getElem_mem hx)⟩)
  · exact .inr (.inr ⟨by omega, if_neg h2⟩)
theorem ren_inj {d : List Int} (hn : d.Nodup) (hd : ∀ y ∈ d, 1 ≤ y ∧ y ≤ 1000) (a b : Int) (h : ren d a = ren d b) : a = b := by
  have ca := ren_class hd a
  have cb := ren_class hd b
  rw [h] at ca
  generalize ren d b = v at ca cb
  clear h
  rcases ca with ⟨p1, p2⟩ | ⟨i, hi, p1, p2, p3, p4⟩ | ⟨p1, p2⟩ <;> rcases cb with ⟨q1, q2⟩ | ⟨j, hj, q1, q2, q3, q4⟩ | ⟨q1, q2⟩
  · exact p2.symm.trans q2
  · omega
  · omega
  · omega
  · have hne := List.pairwise_iff_getElem.mp hn
    rcases Nat.lt_trichotomy i j with q | q | q
    · exact absurd (p2.symm.trans q2) (hne _ _ hi hj q)
    · rw [p1, q1, q]
    · exact absurd (q2.symm.trans p2) (hne _ _ hj hi q)
  · omega
  · omega
  · omega
  · omega
theorem ren_at {d e : List Int} {i : Nat} (h : i < d.length) : ren (d ++ e) ((i + 1 : Nat) : Int) = d[i] := by
  unfold ren
  rw [if_neg (by omega), if_neg (by omega), if_pos (by rw [List.length_append]; omega)]
  have : ((i + 1 : Nat) : Int).toNat - 1 = i := by omega
  rw [this, getI (by rw [List.length_append]; omega), List.getElem_append_left h]
theorem words_all : ∀ (stream d : List Int), d.Nodup → (∀ y ∈ d, 1 ≤ y ∧ y ≤ 1000) → (∀ y ∈ stream, 1 ≤ y ∧ y ≤ 1000) →
    ∃ w ∈ words stream.length d.length, ∃ e, (d ++ e).Nodup ∧ (∀ y ∈ d ++ e, 1 ≤ y ∧ y ≤ 1000) ∧ stream = w.map (ren (d ++ e))
  | [], d, hn, hd, _ => ⟨[], .head _, [], by rw [List.append_nil]; exact hn, by rw [List.append_nil]; exact hd, rfl⟩
  | x :: t, d, hn, hd, hs => by
    by_cases hx : x ∈ d
    · obtain ⟨i, hi, e1⟩ := List.mem_iff_getElem.mp hx
      obtain ⟨w, hw, e, n1, n2, n3⟩ := words_all t d hn hd fun y hy => hs y (.tail _ hy)
      refine ⟨((i + 1 : Nat) : Int) :: w, ?_, e, n1, n2, ?_⟩
      · rw [List.length_cons, words]
        exact List.mem_append_left _ (List.mem_flatMap.mpr ⟨i, List.mem_range.mpr hi, List.mem_map_of_mem (f := fun w => ((i + 1 : Nat) : Int) :: w) hw⟩)
      · rw [List.map_cons, ren_at hi, e1, ← n3]
    · have hn' : (d ++ [x]).Nodup := List.nodup_append.mpr ⟨hn, by simp, fun a ha b hb => by rw [List.mem_singleton.mp hb]; rintro rfl; exact hx ha⟩
      have hd' : ∀ y ∈ d ++ [x], 1 ≤ y ∧ y ≤ 1000 := fun y hy => by
        rcases List.mem_append.mp hy with hy | hy
        · exact hd y hy
        · rw [List.mem_singleton.mp hy]; exact hs x (.head _)
      obtain ⟨w, hw, e, n1, n2, n3⟩ := words_all t (d ++ [x]) hn' hd' fun y hy => hs y (.tail _ hy)
      rw [List.append_assoc] at n1 n2 n3
      refine ⟨((d.length + 1 : Nat) : Int) :: w, ?_, [x] ++ e, n1, n2, ?_⟩
      · rw [List.length_cons, words]
        rw [List.length_append] at hw
        exact List.mem_append_right _ (List.mem_map_of_mem (f := fun w => ((d.length + 1 : Nat) : Int) :: w) hw)
      · have hl : d.length < (d ++ [x]).length := by rw [List.length_append]; simp
        have := ren_at (d := d ++ [x]) (e := e) hl
        rw [List.append_assoc] at this
        rw [List.map_cons, this, List.getElem_append_right (Nat.le_refl _), ← n3]
        simp
theorem words_in {n : Nat} (h : n ≤ 5) {w : List Int} (hw : w ∈ words n 0) : w ∈ wordsTo5 := by
  unfold wordsTo5
  simp only [List.mem_append]
  rcases (by omega : n = 0 ∨ n = 1 ∨ n = 2 ∨ n = 3 ∨ n = 4 ∨ n = 5) with e | e | e | e | e | e <;> rw [e] at hw
  · exact .inl (.inl (.inl (.inl (.inl hw))))
  · exact .inl (.inl (.inl (.inl (.inr hw))))
  · exact .inl (.inl (.inl (.inr hw)))
  · exact .inl (.inl (.inr hw))
  · exact .inl (.inr hw)
  · exact .inr hw
set_option maxHeartbeats 2000000 in
theorem followed_all {stream : List Int} (hs : ∀ y ∈ stream, 1 ≤ y ∧ y ≤ 1000) (hl : stream.length ≤ 5) {size wide : Nat} {late : Bool} (hz : size = 2 ∨ size = 3) (hw : wide ∈ [3, 4, 5, 6]) : ∃ kept, followF stream size wide late = some kept ∧ Sk size stream kept := by
  obtain ⟨w, hm, e, n1, n2, n3⟩ := words_all stream [] .nil (by simp) hs
  have hin := words_in hl hm
  have hc : checkD size late w = true := by
    rcases hz with rfl | rfl <;> cases late
    · exact List.all_eq_true.mp check2f w hin
    · exact List.all_eq_true.mp check2t w hin
    · exact List.all_eq_true.mp check3f w hin
    · exact List.all_eq_true.mp check3t w hin
  unfold checkD at hc
  cases hf : followD w size late with
  | none => rw [hf] at hc; cases hc
  | some kept =>
    rw [hf] at hc
    have h0 : ren ([] ++ e) 0 = 0 := by unfold ren; rw [if_pos rfl]
    have hi := ren_inj n1 n2
    refine ⟨kept.map (pR (ren ([] ++ e))), ?_, ?_⟩
    · rw [n3]; exact follow_sim h0 hi hz hw hf
    · rw [n3]; exact sk_map hi hc
end Mine
namespace Mine
noncomputable def meantB : List Int → Nat → List Int
  | [], r => List.replicate (r / 3) 52 ++ List.replicate (r % 3) 23
  | s :: t, r => if s = 23 then meantB t (r + 1) else (List.replicate (r / 3) 52 ++ List.replicate (r % 3) 23 ++ [s]) ++ meantB t 0
theorem meant_body : ∀ (row : List Int) (r : Nat), meantF (row ++ [0]) r = meantB row r ++ [0]
  | [], r => by
    show (if (0 : Int) = 23 then _ else _) = _
    rw [if_neg (by decide)]
    simp [meantB, meantF]
  | s :: t, r => by
    rw [List.cons_append, meantF, meantB, meant_body t (r + 1), meant_body t 0]
    split
    · rfl
    · simp only [List.append_assoc]
theorem body_in : ∀ (row : List Int) (r : Nat), (∀ x ∈ row, 1 ≤ x ∧ x ≤ 1000) → ∀ x ∈ meantB row r, 1 ≤ x ∧ x ≤ 1000
  | [], r, _, x, hx => by
    rw [meantB] at hx
    rcases List.mem_append.mp hx with hx | hx
    · rw [(List.mem_replicate.mp hx).2]; decide
    · rw [(List.mem_replicate.mp hx).2]; decide
  | s :: t, r, h, x, hx => by
    rw [meantB] at hx
    split at hx
    · exact body_in t (r + 1) (fun y hy => h y (.tail _ hy)) x hx
    · rcases List.mem_append.mp hx with hx | hx
      · rcases List.mem_append.mp hx with hx | hx
        · rcases List.mem_append.mp hx with hx | hx
          · rw [(List.mem_replicate.mp hx).2]; decide
          · rw [(List.mem_replicate.mp hx).2]; decide
        · rw [List.mem_singleton.mp hx]; exact h s (.head _)
      · exact body_in t 0 (fun y hy => h y (.tail _ hy)) x hx
theorem body_len : ∀ (row : List Int) (r : Nat), (meantB row r).length ≤ row.length + (if r = 0 then 0 else (r + 1) / 3 + 1)
  | [], r => by
    rw [meantB, List.length_append, List.length_replicate, List.length_replicate, List.length_nil]
    split <;> omega
  | s :: t, r => by
    have h1 := body_len t (r + 1)
    have h2 := body_len t 0
    rw [if_neg (by omega)] at h1
    rw [if_pos rfl] at h2
    rw [meantB, List.length_cons]
    split
    · split <;> omega
    · rw [List.length_append, List.length_append, List.length_append, List.length_replicate, List.length_replicate, List.length_singleton]
      split <;> omega
theorem body_five {row : List Int} (h : row.length = 4) {n : Nat} (hn : n ≤ 3) : (meantB row (dotsOf row n)).length ≤ 5 := by
  unfold dotsOf
  split
  · rename_i e
    match row, h with
    | s :: t, h =>
      have e' : s = 23 := e
      rw [meantB, if_pos e']
      have := body_len t (n + 1)
      rw [if_neg (by omega)] at this
      rw [List.length_cons] at h
      omega
  · have := body_len row 0
    rw [if_pos rfl] at this
    omega
theorem streams_cut : ∀ (b t last : List Int) (done : List (List Int)), (∀ x ∈ b, x ≠ 0) → streamsF (b ++ 0 :: t) done last = streamsF t (done ++ [last ++ b]) []
  | [], t, last, done, _ => by
    show (if (0 : Int) = 0 then _ else _) = _
    rw [if_pos rfl, List.append_nil]
  | x :: b, t, last, done, h => by
    show (if x = 0 then _ else streamsF (b ++ 0 :: t) done (last ++ [x])) = _
    rw [if_neg (h x (.head _)), streams_cut b t (last ++ [x]) done fun y hy => h y (.tail _ hy), List.append_assoc]
    rfl
theorem sign_num {x : Int} (h : x ∈ signs) : 1 ≤ x ∧ x ≤ 1000 := by
  simp only [signs, List.mem_cons, List.not_mem_nil, or_false] at h
  omega
structure Row4 (row : List Int) : Prop where
  len : row.length = 4
  sig : ∀ x ∈ row, x ∈ signs
theorem good_of {ds a b c : List Int} (hr : lawRows ds = [a, b, c]) (ha : Row4 a) (hb : Row4 b) (hc : Row4 c) (hsent : ∃ n, sentF ds = n + 1 ∧ n + 1 ≤ 3) (hsize : sizeF ds = 2 ∨ sizeF ds = 3) (hwide : wideF ds ∈ [3, 4, 5, 6]) : Good ds := by
  obtain ⟨n, hn, hn3⟩ := hsent
  have hne : ∀ {r : List Int}, Row4 r → r ≠ [] ∧ ∀ x ∈ r, x ∈ signs := fun {r} h => ⟨fun e => absurd h.len (by rw [e]; decide), h.sig⟩
  have hbody : ∀ {r : List Int}, Row4 r → (∀ x ∈ meantB r (dotsOf r (n + 1)), 1 ≤ x ∧ x ≤ 1000) ∧ (meantB r (dotsOf r (n + 1))).length ≤ 5 := fun {r} h => ⟨body_in r _ fun x hx => sign_num (h.sig x hx), body_five h.len hn3⟩
  have hm : meantAll (sentF ds) (lawRows ds) = meantB a (dotsOf a (n + 1)) ++ 0 :: (meantB b (dotsOf b (n + 1)) ++ 0 :: (meantB c (dotsOf c (n + 1)) ++ 0 :: [])) := by
    rw [hr, hn]
    show (List.map (fun row => meantF (row ++ [0]) (dotsOf row (n + 1))) [a, b, c]).flatten = _
    simp [meant_body]
  obtain ⟨a1, a2⟩ := hbody ha
  obtain ⟨b1, b2⟩ := hbody hb
  obtain ⟨c1, c2⟩ := hbody hc
  generalize hA : meantB a (dotsOf a (n + 1)) = A at *
  generalize hB : meantB b (dotsOf b (n + 1)) = B at *
  generalize hC : meantB c (dotsOf c (n + 1)) = C at *
  have hst : lawStreams ds = [A, B, C] := by
    show (streamsF (meantAll (sentF ds) (lawRows ds)) [] []).1 = _
    rw [hm, streams_cut A _ _ _ fun x hx => by have := a1 x hx; omega, streams_cut B _ _ _ fun x hx => by have := b1 x hx; omega, streams_cut C _ _ _ fun x hx => by have := c1 x hx; omega]
    rfl
  obtain ⟨p0, e0, s0⟩ := followed_all (late := lateF ds) a1 a2 hsize hwide
  obtain ⟨p1, e1, s1⟩ := followed_all (late := lateF ds) b1 b2 hsize hwide
  obtain ⟨p2, e2, s2⟩ := followed_all (late := lateF ds) c1 c2 hsize hwide
  refine ⟨?_, ⟨p0, p1, p2, ?_, ?_, ?_, ?_, ?_, ?_⟩, ?_⟩
  · have ht : lawText ds = docN (n + 1) [a, b, c] := by
      show quoteN (sentF ds) (textF (lawRows ds)) = _
      rw [hr, hn]
      exact text_quote (hne ha) (hne hb) (hne hc) n
    have hk := toks_doc (n + 1) (rows := [a, b, c]) fun row h => by
      simp only [List.mem_cons, List.not_mem_nil, or_false] at h
      rcases h with rfl | rfl | rfl
      · exact ha.sig
      · exact hb.sig
      · exact hc.sig
    rw [ht, hr, hn]
    exact hk.symF (l := docN (n + 1) [a, b, c]) _ 0 rfl (by simp [ofChs, Str.length])
  · rw [hst]
    show [followF A _ _ _, followF B _ _ _, followF C _ _ _] = _
    rw [e0, e1, e2]
  · have := s0.len; omega
  · have := s1.len; omega
  · have := s2.len; omega
  · have := ((s0.join s1).join s2).whole
    rw [hst]
    show WholeOk (A ++ (B ++ (C ++ []))) _ _
    rw [List.append_nil, ← List.append_assoc]; exact this
  · have := (s0.join (s1.join s2)).whole
    rw [hst]
    show WholeOk (A ++ (B ++ (C ++ []))) _ _
    rw [List.append_nil]; exact this
  · rw [hm]
    simp only [List.length_append, List.length_cons, List.length_nil]
    omega
theorem good_all (script : List Int) : Good (drawsF script) := by
  have hl := draws_len script
  generalize drawsF script = ds at hl
  have hll : (lettersF ds).length = 12 := by
    show ((ds.drop 4).map signF).length = 12
    rw [List.length_map, List.length_drop]; omega
  have hls : ∀ x ∈ lettersF ds, x ∈ signs := fun x hx => by
    obtain ⟨y, _, rfl⟩ := List.mem_map.mp hx
    exact sign_in y
  have em : ∀ (x : Int) (m : Nat), 0 < m → (x % (m : Int)).toNat < m := fun x m hm => by
    have h0 : 0 ≤ x % (m : Int) := Int.emod_nonneg _ (by omega)
    have h1 : x % (m : Int) < (m : Int) := Int.emod_lt_of_pos _ (by omega)
    omega
  have m0 := em (ds.getD 0 0) 2 (by omega)
  have m1 := em (ds.getD 1 0) 3 (by omega)
  have m3 := em (ds.getD 3 0) 4 (by omega)
  refine good_of (a := (lettersF ds).take 4) (b := ((lettersF ds).drop 4).take 4) (c := (lettersF ds).drop 8) rfl ⟨?_, ?_⟩ ⟨?_, ?_⟩ ⟨?_, ?_⟩ ⟨(ds.getD 1 0 % 3).toNat, ?_, ?_⟩ ?_ ?_
  · rw [List.length_take]; omega
  · exact fun x hx => hls x (List.mem_of_mem_take hx)
  · rw [List.length_take, List.length_drop]; omega
  · exact fun x hx => hls x (List.mem_of_mem_drop (List.mem_of_mem_take hx))
  · rw [List.length_drop]; omega
  · exact fun x hx => hls x (List.mem_of_mem_drop hx)
  · show 1 + (ds.getD 1 0 % 3).toNat = _
    omega
  · have : (ds.getD 1 0 % 3).toNat < 3 := m1
    omega
  · have : (ds.getD 0 0 % 2).toNat < 2 := m0
    show 2 + (ds.getD 0 0 % 2).toNat = 2 ∨ 2 + (ds.getD 0 0 % 2).toNat = 3
    omega
  · have : (ds.getD 3 0 % 4).toNat < 4 := m3
    show 3 + (ds.getD 3 0 % 4).toNat ∈ [3, 4, 5, 6]
    simp only [List.mem_cons, List.not_mem_nil, or_false]
    omega
end Mine
namespace Mine

section
variable {X : Cx} {b : Bool} {k : Nat} {sc : Scope} {U W : Addr → Prop} {Γ Γ' Γ₁ : List (Option Slot)} {A : Around} {env : Env} {s : Shared} {r : Fl}
end
end Mine
namespace Mine

theorem tabT_in : ∀ x ∈ tabT, x.1 ∈ tabs := by
  intro x hx
  simp only [tabT, List.mem_cons, List.not_mem_nil, or_false] at hx
  rcases hx with rfl | rfl | rfl <;> decide
noncomputable abbrev topU (a : Addr) : Prop := a = sysModules ∨ a ∈ tabs
noncomputable abbrev topX (prog : Program) (w : World) (h : Heap) : Cx := { prog, w, hb := hidP h topU, T := tabT, hT := tabT_in }
section
variable {K : Frag} {h : Heap}
theorem K_in (KX : K.In h) (h1 : K.lookup sysModules = none) (h2 : K.lookup 166 = none) (h3 : K.lookup 90 = none) (h4 : K.lookup 83 = none) : K.In (hidP h topU) := fun a o e => by
  refine hidP_get (KX a o e) ?_
  rintro (rfl | z)
  · rw [h1] at e; cases e
  · simp only [tabs, List.mem_cons, List.not_mem_nil, or_false] at z
    rcases z with rfl | rfl | rfl
    · rw [h2] at e; cases e
    · rw [h3] at e; cases e
    · rw [h4] at e; cases e
theorem ns_hid {a : Addr} {m : Str → Option Value} (g : h.Ns a m) (n : ¬ topU a) : (hidP h topU).Ns a m := by
  obtain ⟨o, es, ep, e, r⟩ := g
  exact ⟨o, es, ep, hidP_get e n, r⟩
/-- what a fragment says of a def -/
noncomputable def fnAtK (K : Frag) (a : Addr) : FuncData := match K.lookup a with
  | some ⟨_, _, .func fd, _⟩ => fd
  | _ => default
noncomputable def codeAtK (K : Frag) (fd : FuncData) : Bool := match fd.code with
  | .ref c => (match K.lookup c with
    | some ⟨_, _, .fields vs, _⟩ => (match (vs[1]? : Option Value) with
      | some (Value.str q _) => q == fd.qualname
      | _ => false)
    | _ => false)
  | _ => false
theorem fnX_of (KX : K.In h) {X : Cx} (hX : X.hb = h) {a : Addr} {n : Nat} {dV kV : Value} {cl : Value} {dc : Option Addr} {sl : Array (Option Value)} (e : K.lookup a = some ⟨cl, dc, .func (fnAtK K a), sl⟩)
    (e2 : fnAtK K a = fnX (fnAtK K a).name (fnAtK K a).qualname (fparams n) (fbody n) (fscope n) [] dV kV (fnAtK K a).doc (fnAtK K a).pyModule none (fnAtK K a).code (fnAtK K a).closureTuple) (hc : codeAtK K (fnAtK K a) = true)
    (hcf : ∀ c q, codeFor (fscope n) = some (c, q) → (fnAtK K a).code = .ref c ∧ (fnAtK K a).qualname = q) : FnX X a n dV kV := by
  refine ⟨_, _, _, _, _, _, _, by rw [hX]; exact KX _ _ e, by rw [← e2], ?_, hcf⟩
  rw [hX]
  unfold codeAtK at hc
  split at hc
  · rename_i c hcd
    split at hc
    · rename_i c1 c2 vs c3 hl
      split at hc
      · rename_i q t hq
        have hq' := eq_of_beq hc
        subst hq'
        exact ⟨c, _, vs, t, hcd, KX _ _ hl, rfl, hq⟩
      · cases hc
    · cases hc
  · cases hc
end
end Mine
namespace Mine

section
variable {w : World} {h : Heap} {X : Cx}
theorem kf2 (KX : (kFrag w.params).In h) (hX : X.hb = h) : FnX X 40 2 (.ref 32) (.ref 33) :=
  fnX_of KX hX (a := 40) (cl := .type "function") (dc := none) (sl := #[]) (by kernel_rfl) (by kernel_rfl) (by kernel_rfl) (fun c q hc => by
    have e : codeFor (fscope 2) = none := by kernel_rfl
    rw [e] at hc; cases hc)
theorem kf3 (KX : (kFrag w.params).In h) (hX : X.hb = h) : FnX X 49 3 (.ref 41) (.ref 42) :=
  fnX_of KX hX (a := 49) (cl := .type "function") (dc := none) (sl := #[]) (by kernel_rfl) (by kernel_rfl) (by kernel_rfl) (fun c q hc => by
    have e : codeFor (fscope 3) = none := by kernel_rfl
    rw [e] at hc; cases hc)
theorem kf4 (KX : (kFrag w.params).In h) (hX : X.hb = h) : FnX X 58 4 (.ref 50) (.ref 51) :=
  fnX_of KX hX (a := 58) (cl := .type "function") (dc := none) (sl := #[]) (by kernel_rfl) (by kernel_rfl) (by kernel_rfl) (fun c q hc => by
    have e : codeFor (fscope 4) = none := by kernel_rfl
    rw [e] at hc; cases hc)
theorem kf5 (KX : (kFrag w.params).In h) (hX : X.hb = h) : FnX X 67 5 (.ref 59) (.ref 60) :=
  fnX_of KX hX (a := 67) (cl := .type "function") (dc := none) (sl := #[]) (by kernel_rfl) (by kernel_rfl) (by kernel_rfl) (fun c q hc => by
    have e : codeFor (fscope 5) = none := by kernel_rfl
    rw [e] at hc; cases hc)
theorem kf8 (KX : (kFrag w.params).In h) (hX : X.hb = h) : FnX X 74 8 (.none) (.none) :=
  fnX_of KX hX (a := 74) (cl := .type "function") (dc := none) (sl := #[]) (by kernel_rfl) (by kernel_rfl) (by kernel_rfl) (fun c q hc => by
    have e : codeFor (fscope 8) = none := by kernel_rfl
    rw [e] at hc; cases hc)
theorem kf10 (KX : (kFrag w.params).In h) (hX : X.hb = h) : FnX X 88 10 (.none) (.none) :=
  fnX_of KX hX (a := 88) (cl := .type "function") (dc := none) (sl := #[]) (by kernel_rfl) (by kernel_rfl) (by kernel_rfl) (fun c q hc => by
    have e : codeFor (fscope 10) = some (87, ("_int2digits" : Str)) := by kernel_rfl
    rw [e] at hc; cases hc
    exact ⟨by kernel_rfl, by kernel_rfl⟩)
theorem kf11 (KX : (kFrag w.params).In h) (hX : X.hb = h) : FnX X 95 11 (.none) (.none) :=
  fnX_of KX hX (a := 95) (cl := .type "function") (dc := none) (sl := #[]) (by kernel_rfl) (by kernel_rfl) (by kernel_rfl) (fun c q hc => by
    have e : codeFor (fscope 11) = some (94, ("_digits2int" : Str)) := by kernel_rfl
    rw [e] at hc; cases hc
    exact ⟨by kernel_rfl, by kernel_rfl⟩)
theorem kf12 (KX : (kFrag w.params).In h) (hX : X.hb = h) : FnX X 102 12 (.none) (.none) :=
  fnX_of KX hX (a := 102) (cl := .type "function") (dc := none) (sl := #[]) (by kernel_rfl) (by kernel_rfl) (by kernel_rfl) (fun c q hc => by
    have e : codeFor (fscope 12) = none := by kernel_rfl
    rw [e] at hc; cases hc)
theorem kf13 (KX : (kFrag w.params).In h) (hX : X.hb = h) : FnX X 109 13 (.none) (.none) :=
  fnX_of KX hX (a := 109) (cl := .type "function") (dc := none) (sl := #[]) (by kernel_rfl) (by kernel_rfl) (by kernel_rfl) (fun c q hc => by
    have e : codeFor (fscope 13) = none := by kernel_rfl
    rw [e] at hc; cases hc)
theorem kf18 (KX : (kFrag w.params).In h) (hX : X.hb = h) : FnX X 126 18 (.none) (.none) :=
  fnX_of KX hX (a := 126) (cl := .type "function") (dc := none) (sl := #[]) (by kernel_rfl) (by kernel_rfl) (by kernel_rfl) (fun c q hc => by
    have e : codeFor (fscope 18) = none := by kernel_rfl
    rw [e] at hc; cases hc)
theorem kf70 (KX : (kFrag w.params).In h) (hX : X.hb = h) : FnX X 136 70 (.none) (.none) :=
  fnX_of KX hX (a := 136) (cl := .type "function") (dc := none) (sl := #[]) (by kernel_rfl) (by kernel_rfl) (by kernel_rfl) (fun c q hc => by
    have e : codeFor (fscope 70) = none := by kernel_rfl
    rw [e] at hc; cases hc)
theorem kf72 (KX : (kFrag w.params).In h) (hX : X.hb = h) : FnX X 143 72 (.none) (.none) :=
  fnX_of KX hX (a := 143) (cl := .type "function") (dc := none) (sl := #[]) (by kernel_rfl) (by kernel_rfl) (by kernel_rfl) (fun c q hc => by
    have e : codeFor (fscope 72) = none := by kernel_rfl
    rw [e] at hc; cases hc)
theorem kf73 (KX : (kFrag w.params).In h) (hX : X.hb = h) : FnX X 150 73 (.none) (.none) :=
  fnX_of KX hX (a := 150) (cl := .type "function") (dc := none) (sl := #[]) (by kernel_rfl) (by kernel_rfl) (by kernel_rfl) (fun c q hc => by
    have e : codeFor (fscope 73) = none := by kernel_rfl
    rw [e] at hc; cases hc)
theorem kf74 (KX : (kFrag w.params).In h) (hX : X.hb = h) : FnX X 157 74 (.none) (.none) :=
  fnX_of KX hX (a := 157) (cl := .type "function") (dc := none) (sl := #[]) (by kernel_rfl) (by kernel_rfl) (by kernel_rfl) (fun c q hc => by
    have e : codeFor (fscope 74) = none := by kernel_rfl
    rw [e] at hc; cases hc)
theorem kf75 (KX : (kFrag w.params).In h) (hX : X.hb = h) : FnX X 164 75 (.none) (.none) :=
  fnX_of KX hX (a := 164) (cl := .type "function") (dc := none) (sl := #[]) (by kernel_rfl) (by kernel_rfl) (by kernel_rfl) (fun c q hc => by
    have e : codeFor (fscope 75) = none := by kernel_rfl
    rw [e] at hc; cases hc)
theorem kf76 (KX : (kFrag w.params).In h) (hX : X.hb = h) : FnX X 169 76 (.none) (.none) :=
  fnX_of KX hX (a := 169) (cl := .type "function") (dc := none) (sl := #[]) (by kernel_rfl) (by kernel_rfl) (by kernel_rfl) (fun c q hc => by
    have e : codeFor (fscope 76) = some (168, ("_law_followed" : Str)) := by kernel_rfl
    rw [e] at hc; cases hc
    exact ⟨by kernel_rfl, by kernel_rfl⟩)
theorem kf77 (KX : (kFrag w.params).In h) (hX : X.hb = h) : FnX X 174 77 (.none) (.none) :=
  fnX_of KX hX (a := 174) (cl := .type "function") (dc := none) (sl := #[]) (by kernel_rfl) (by kernel_rfl) (by kernel_rfl) (fun c q hc => by
    have e : codeFor (fscope 77) = none := by kernel_rfl
    rw [e] at hc; cases hc)
theorem kf78 (KX : (kFrag w.params).In h) (hX : X.hb = h) : FnX X 179 78 (.none) (.none) :=
  fnX_of KX hX (a := 179) (cl := .type "function") (dc := none) (sl := #[]) (by kernel_rfl) (by kernel_rfl) (by kernel_rfl) (fun c q hc => by
    have e : codeFor (fscope 78) = none := by kernel_rfl
    rw [e] at hc; cases hc)
end
end Mine
namespace Mine

section
variable {w : World} {h h0 : Heap} {X : Cx} {mg mb : Str → Option Value}
theorem glob_of {K : Frag} {x : Str} {v : Value} (KX : K.In h) (Tg : h.Ns mainGlobals mg) (Tb : h.Ns builtinsNs mb) (hX : X.hb = h) (e : nsIn K mainGlobals x = some (some v)) : GlobIs X x v :=
  ⟨mg, mb, hX ▸ Tg, hX ▸ Tb, .inl (mg_of KX Tg e)⟩
theorem glob_bi {K : Frag} {x : Str} {v : Value} (KX : K.In h) (Tg : h.Ns mainGlobals mg) (Tb : h.Ns builtinsNs mb) (Tbi : ∀ x : Str, x ≠ "__name__" → mb x = bootBuiltins x) (hX : X.hb = h) (e : nsIn K mainGlobals x = some none) (hn : x ≠ "__name__") (e2 : bootBuiltins x = some v) : GlobIs X x v :=
  ⟨mg, mb, hX ▸ Tg, hX ▸ Tb, .inr ⟨mg_none_of KX Tg e, by rw [Tbi x hn, e2]⟩⟩
theorem globs_ok (KX : (kFrag w.params).In h) (Tg : h.Ns mainGlobals mg) (Tb : h.Ns builtinsNs mb) (Tbi : ∀ x : Str, x ≠ "__name__" → mb x = bootBuiltins x) (hX : X.hb = h) : ∀ p ∈ globTab, GlobIs X p.1 p.2 := by
  unfold globTab
  refine List.forall_mem_cons.mpr ⟨glob_of KX Tg Tb hX (by kernel_rfl), ?_⟩
  refine List.forall_mem_cons.mpr ⟨glob_of KX Tg Tb hX (by kernel_rfl), ?_⟩
  refine List.forall_mem_cons.mpr ⟨glob_of KX Tg Tb hX (by kernel_rfl), ?_⟩
  refine List.forall_mem_cons.mpr ⟨glob_of KX Tg Tb hX (by kernel_rfl), ?_⟩
  refine List.forall_mem_cons.mpr ⟨glob_of KX Tg Tb hX (by kernel_rfl), ?_⟩
  refine List.forall_mem_cons.mpr ⟨glob_of KX Tg Tb hX (by kernel_rfl), ?_⟩
  refine List.forall_mem_cons.mpr ⟨glob_of KX Tg Tb hX (by kernel_rfl), ?_⟩
  refine List.forall_mem_cons.mpr ⟨glob_of KX Tg Tb hX (by kernel_rfl), ?_⟩
  refine List.forall_mem_cons.mpr ⟨glob_of KX Tg Tb hX (by kernel_rfl), ?_⟩
  refine List.forall_mem_cons.mpr ⟨glob_of KX Tg Tb hX (by kernel_rfl), ?_⟩
  refine List.forall_mem_cons.mpr ⟨glob_of KX Tg Tb hX (by kernel_rfl), ?_⟩
  refine List.forall_mem_cons.mpr ⟨glob_of KX Tg Tb hX (by kernel_rfl), ?_⟩
  refine List.forall_mem_cons.mpr ⟨glob_of KX Tg Tb hX (by kernel_rfl), ?_⟩
  refine List.forall_mem_cons.mpr ⟨glob_of KX Tg Tb hX (by kernel_rfl), ?_⟩
  refine List.forall_mem_cons.mpr ⟨glob_of KX Tg Tb hX (by kernel_rfl), ?_⟩
  refine List.forall_mem_cons.mpr ⟨glob_of KX Tg Tb hX (by kernel_rfl), ?_⟩
  refine List.forall_mem_cons.mpr ⟨glob_of KX Tg Tb hX (by kernel_rfl), ?_⟩
  refine List.forall_mem_cons.mpr ⟨glob_of KX Tg Tb hX (by kernel_rfl), ?_⟩
  refine List.forall_mem_cons.mpr ⟨glob_of KX Tg Tb hX (by kernel_rfl), ?_⟩
  refine List.forall_mem_cons.mpr ⟨glob_of KX Tg Tb hX (by kernel_rfl), ?_⟩
  refine List.forall_mem_cons.mpr ⟨glob_bi KX Tg Tb Tbi hX (by kernel_rfl) (by decide +kernel) (by kernel_rfl), ?_⟩
  refine List.forall_mem_cons.mpr ⟨glob_bi KX Tg Tb Tbi hX (by kernel_rfl) (by decide +kernel) (by kernel_rfl), ?_⟩
  refine List.forall_mem_cons.mpr ⟨glob_bi KX Tg Tb Tbi hX (by kernel_rfl) (by decide +kernel) (by kernel_rfl), ?_⟩
  refine List.forall_mem_cons.mpr ⟨glob_bi KX Tg Tb Tbi hX (by kernel_rfl) (by decide +kernel) (by kernel_rfl), ?_⟩
  refine List.forall_mem_cons.mpr ⟨glob_bi KX Tg Tb Tbi hX (by kernel_rfl) (by decide +kernel) (by kernel_rfl), ?_⟩
  refine List.forall_mem_cons.mpr ⟨glob_bi KX Tg Tb Tbi hX (by kernel_rfl) (by decide +kernel) (by kernel_rfl), ?_⟩
  refine List.forall_mem_cons.mpr ⟨glob_bi KX Tg Tb Tbi hX (by kernel_rfl) (by decide +kernel) (by kernel_rfl), ?_⟩
  intro p hp
  cases hp
theorem codes_ok (KX : (kFrag w.params).In h) : ∀ p ∈ ([(94, 90), (87, 83), (168, 166)] : List (Addr × Addr)), CodeHd h p.1 p.2 := by
  refine List.forall_mem_cons.mpr ⟨codeHd_of_K KX (by kernel_rfl), ?_⟩
  refine List.forall_mem_cons.mpr ⟨codeHd_of_K KX (by kernel_rfl), ?_⟩
  refine List.forall_mem_cons.mpr ⟨codeHd_of_K KX (by kernel_rfl), ?_⟩
  intro p hp
  cases hp
theorem tok_ok (KX : (kFrag w.params).In h) : KTD.TextTab h 127 tokDat := kt_text_in KX (by kernel_rfl)
theorem dflt_ok (KX : (kFrag w.params).In h) : ∀ p ∈ ([(32, 33), (41, 42), (50, 51), (59, 60)] : List (Addr × Addr)), (∃ t n, h.get? p.1 = some (TObj [.int 0 t, .none] n)) ∧ ∃ hs t ep, h.get? p.2 = some (kwObj hs t ep) := by
  refine List.forall_mem_cons.mpr ⟨⟨⟨_, _, KX _ _ (by rfl)⟩, _, _, _, KX _ _ (by rfl)⟩, ?_⟩
  refine List.forall_mem_cons.mpr ⟨⟨⟨_, _, KX _ _ (by rfl)⟩, _, _, _, KX _ _ (by rfl)⟩, ?_⟩
  refine List.forall_mem_cons.mpr ⟨⟨⟨_, _, KX _ _ (by rfl)⟩, _, _, _, KX _ _ (by rfl)⟩, ?_⟩
  refine List.forall_mem_cons.mpr ⟨⟨⟨_, _, KX _ _ (by rfl)⟩, _, _, _, KX _ _ (by rfl)⟩, ?_⟩
  intro p hp
  cases hp
theorem pats_ok (KX : (kFrag w.params).In h) (hX : X.hb = h) : Pats X := by
  refine ⟨⟨?_⟩, ⟨?_⟩⟩
  · rw [hX]; exact ⟨_, _, _, _, _, _, KX _ _ (by rfl), KX _ _ (by rfl), by kernel_rfl⟩
  · rw [hX]; exact ⟨_, _, _, _, _, _, KX _ _ (by rfl), KX _ _ (by rfl), by kernel_rfl⟩
theorem bmain_ok (KX : (kFrag w.params).In h) (Tg : h.Ns mainGlobals mg) (Tbm : ∃ bm ob, mg "__builtins__" = some (.ref bm) ∧ bm ≠ builtinsNs ∧ h.get? bm = some ob ∧ ob.cls = .type "module" ∧ ob.dict = some builtinsNs ∧ ob.data = .plain) : ∀ P ∈ tabs, (hidP h topU).BuiltinsAt mg P := by
  intro P hP
  obtain ⟨bm, ob, b1, b2, b3, b4, b5, b6⟩ := Tbm
  have e := mg_of KX Tg (n := "__builtins__") (v := .ref 4) (by kernel_rfl)
  rw [b1] at e
  cases e
  refine ⟨4, ob, b1, b2, by decide, ?_, hidP_get b3 (by decide), b4, b5, b6⟩
  simp only [tabs, List.mem_cons, List.not_mem_nil, or_false] at hP
  rcases hP with rfl | rfl | rfl <;> decide
theorem facts_ok (prog : Program) (KX : (kFrag w.params).In h) (Tg : h.Ns mainGlobals mg) (Tb : h.Ns builtinsNs mb) (Tbi : ∀ x : Str, x ≠ "__name__" → mb x = bootBuiltins x) (Tnl : h.NoLimit)
    (Tbm : ∃ bm ob, mg "__builtins__" = some (.ref bm) ∧ bm ≠ builtinsNs ∧ h.get? bm = some ob ∧ ob.cls = .type "module" ∧ ob.dict = some builtinsNs ∧ ob.data = .plain) : Facts (topX prog w h) ∧ Pats (topX prog w h) ∧ FnX (topX prog w h) 179 78 .none .none := by
  have KX' : (kFrag w.params).In (hidP h topU) := K_in KX (by kernel_rfl) (by kernel_rfl) (by kernel_rfl) (by kernel_rfl)
  have Tg' : (hidP h topU).Ns mainGlobals mg := ns_hid Tg (by decide)
  have Tb' : (hidP h topU).Ns builtinsNs mb := ns_hid Tb (by decide)
  refine ⟨{ nolim := ?_, endm := ⟨491, glob_of KX' Tg' Tb' rfl (by kernel_rfl)⟩, divl := ⟨340, glob_of KX' Tg' Tb' rfl (by kernel_rfl)⟩, crlf := ⟨480, glob_of KX' Tg' Tb' rfl (by kernel_rfl)⟩, gl := globs_ok KX' Tg' Tb' Tbi rfl, fns := ?_, dflt := dflt_ok KX', tok := tok_ok KX', tT := rfl, cds := codes_ok KX', mgA := ⟨mg, Tg', bmain_ok KX Tg Tbm⟩ }, pats_ok KX' rfl, kf78 KX' rfl⟩
  · obtain ⟨mc, h1, h2⟩ := Tnl
    exact ⟨mc, ns_hid h1 (by decide), h2⟩
  · unfold fnTab
    refine List.forall_mem_cons.mpr ⟨kf2 KX' rfl, ?_⟩
    refine List.forall_mem_cons.mpr ⟨kf3 KX' rfl, ?_⟩
    refine List.forall_mem_cons.mpr ⟨kf4 KX' rfl, ?_⟩
    refine List.forall_mem_cons.mpr ⟨kf5 KX' rfl, ?_⟩
    refine List.forall_mem_cons.mpr ⟨kf8 KX' rfl, ?_⟩
    refine List.forall_mem_cons.mpr ⟨kf10 KX' rfl, ?_⟩
    refine List.forall_mem_cons.mpr ⟨kf11 KX' rfl, ?_⟩
    refine List.forall_mem_cons.mpr ⟨kf12 KX' rfl, ?_⟩
    refine List.forall_mem_cons.mpr ⟨kf13 KX' rfl, ?_⟩
    refine List.forall_mem_cons.mpr ⟨kf18 KX' rfl, ?_⟩
    refine List.forall_mem_cons.mpr ⟨kf70 KX' rfl, ?_⟩
    refine List.forall_mem_cons.mpr ⟨kf72 KX' rfl, ?_⟩
    refine List.forall_mem_cons.mpr ⟨kf73 KX' rfl, ?_⟩
    refine List.forall_mem_cons.mpr ⟨kf74 KX' rfl, ?_⟩
    refine List.forall_mem_cons.mpr ⟨kf75 KX' rfl, ?_⟩
    refine List.forall_mem_cons.mpr ⟨kf76 KX' rfl, ?_⟩
    refine List.forall_mem_cons.mpr ⟨kf77 KX' rfl, ?_⟩
    intro p hp
    cases hp
end
end Mine
namespace Mine

theorem sc78 : ScOk (fscope 78) := .of (by decide +kernel)
theorem pb78 : PosBind 78 1 := by
  intro vs h name qual dV kV doc pm cdv ct hd
  subst hd
  match vs, h with
  | [v0], _ => rfl
theorem tab_code {h : Heap} {c P : Addr} (C : CodeHd h c P) : isCodeTable h P := by
  obtain ⟨o, vs, file, tf, flags, tg, inF, text, tt, e1, e2, e3, e4, _⟩ := C
  exact ⟨c, o, vs, e1, e2, e3, e4⟩
theorem oldK_of {h h' : Heap} (hT8 : ∀ P ∈ ([166, 90, 83] : List Addr), h.get? P = some (tabObj #[])) (hc : ∀ P ∈ tabs, isCodeTable h P) (kp : ∀ b o, h.get? b = some o → b ∉ tabs → h'.get? b = some o) (t : TabOk tabT topU h') : OldK h h' := by
  have at_ : ∀ P ∈ tabs, ∃ more, h'.get? P = some (tabObj more) := by
    intro P hP
    have : ∃ y ∈ tabT, y.1 = P := by
      simp only [tabs, List.mem_cons, List.not_mem_nil, or_false] at hP
      rcases hP with rfl | rfl | rfl
      · exact ⟨_, .tail _ (.tail _ (.head _)), rfl⟩
      · exact ⟨_, .head _, rfl⟩
      · exact ⟨_, .tail _ (.head _), rfl⟩
    obtain ⟨y, hy, rfl⟩ := this
    rcases t.at_ y hy with e | ⟨c', _, _, _, e⟩
    · exact ⟨_, e⟩
    · exact ⟨_, e⟩
  refine ⟨fun b o e => ?_, fun b o e => ?_⟩
  · by_cases hb : b ∈ tabs
    · obtain ⟨more, hm⟩ := at_ b hb
      have e0 := hT8 b hb
      rw [e] at e0
      cases e0
      exact .inr (.inl ⟨hc b hb, rfl, #[], more, rfl, by rw [hm]; simp⟩)
    · exact .inl (kp b o e hb)
  · by_cases hb : b ∈ tabs
    · obtain ⟨more, hm⟩ := at_ b hb
      exact ⟨_, hm⟩
    · exact ⟨o, kp b o e hb⟩
theorem law_top {prog : Program} {w : World} {s : Shared} {mg mb : Str → Option Value} {L : Addr} {vs : List Value} {ns : List Int} {Q : Value → Shared → Prop} {E : Value → Shared → Prop} (KX : (kFrag w.params).In s.heap) (Tg : s.heap.Ns mainGlobals mg) (Tb : s.heap.Ns builtinsNs mb) (Tbi : ∀ x : Str, x ≠ "__name__" → mb x = bootBuiltins x) (Tnl : s.heap.NoLimit)
    (Tbm : ∃ bm ob, mg "__builtins__" = some (.ref bm) ∧ bm ≠ builtinsNs ∧ s.heap.get? bm = some ob ∧ ob.cls = .type "module" ∧ ob.dict = some builtinsNs ∧ ob.data = .plain) (hT8 : ∀ P ∈ ([166, 90, 83] : List Addr), s.heap.get? P = some (tabObj #[]))
    (hL : s.heap.get? L = some (LObj vs 0)) (hI : IntsAre vs ns) (hn : ns.length ≤ 2 ^ 10) (hLs : L ≠ sysModules) (G : Good (drawsF ns))
    (q : ∀ h' tk, OldK s.heap h' → Q (.bool true) { s with heap := h', toks := tk }) : wpAny (model prog w) callerA (call (.ref 179) [.ref L]) Q E s := by
  obtain ⟨F, P, f78⟩ := facts_ok prog KX Tg Tb Tbi Tnl Tbm
  obtain ⟨name, qual, doc, pm, cdv, ct, FA⟩ := f78.at sc78
  have hlt : ∀ a, topU a → a < s.heap.objs.size := by
    have h166 := Heap.lt_size (hT8 166 (.head _))
    rintro a (rfl | z)
    · exact Nat.lt_trans (by decide) h166
    · exact Heap.lt_size (hT8 a z)
  have GR : Gr (topX prog w s.heap) (120 + 1) topU (fun _ => False) callerA s := by
    refine ⟨⟨rfl, by decide, by decide⟩, fun b o e => (of_hidP e).1, fun b o e => ⟨id, fun z => (of_hidP e).2 (.inr z)⟩, fun b o e z => (of_hidP e).2 z, ⟨fun y hy => .inl (hT8 _ (tabT_in y hy))⟩, hlt, fun a h => h.elim, fun a h => h.elim, fun a h => .inr h, .inl rfl⟩
  have hLt : L ∉ tabs := fun z => by
    have := hT8 L z
    rw [hL] at this; cases this
  refine call_top (sls := [.val (.list (nums ns))]) (bs := [.ref L]) (U' := topU) (W0 := fun _ => False) (ad := fun _ => 0) (bd := fun _ => 0) FA F.nolim GR (.of_eq (pb78 [.ref L] rfl _ _ _ _ _ _ _ _ rfl)) rfl (show ∀ p ∈ (fscope 78).names.take 1, p.2 = .local ∨ p.2 = .cell from by decide +kernel) (show 1 ≤ (fscope 78).names.length from by decide +kernel) ?_ ?_ (fun y h => .inl h) (fun a h => .inr h) (.inl rfl) (fun y h => h) (fun y h => h.elim)
    (X_less (by exact .keep (.pad (.pad (.pad (.pad (.pad (.pad (.pad (.pad (.pad (.pad (.pad (.pad (.pad (.pad (.pad (.pad (.pad (.pad (.pad .nil)))))))))))))))))))) (law_body F P (Nat.le_refl _) hn G)) ?_
  · intro i v sl e1 e2
    match i, e1, e2 with
    | 0, e1, e2 =>
      cases e1; cases e2
      refine .list ?_ hL (.of_ints hI)
      rintro ((z | z) | z)
      · exact hLs z
      · exact hLt z
      · exact z
  · intro i j sl sl' e1 _ o1
    match i, e1 with
    | 0, e1 => cases e1; cases o1
  · intro v h' tk kp sz t hv
    cases hv
    have C := codes_ok (w := w) (h := s.heap) KX
    refine q h' tk (oldK_of hT8 (fun P hP => ?_) (fun b o e nt => kp b o e id nt) t)
    simp only [tabs, List.mem_cons, List.not_mem_nil, or_false] at hP
    rcases hP with rfl | rfl | rfl
    · exact tab_code (C (168, 166) (.tail _ (.tail _ (.head _))))
    · exact tab_code (C (94, 90) (.head _))
    · exact tab_code (C (87, 83) (.tail _ (.head _)))
end Mine
namespace Mine
set_option maxHeartbeats 8000000 in
theorem walk : WalkO vw looseN (XL vw []) hk.says PySem.Challenge.rw_sn0065_01.row.toRowW lawD [] fun f vs => PySem.call f vs := by
  intro w s₀ s₁ mg mb G Y fa o pm cd doc dV kV ho hd hcd hD hmg hg args vals as hpre hlay hrd hwl hlo
  have KX := km_in_of Y
  have hT8 := km_tabs_of Y
  refine Ground.open G ?_
  intro T B D TE TW
  have e9 := mg_of KX (Top.g T) (n := Str.ofString "law") (v := .ref 179) (by kernel_rfl)
  have hmg' : mg (Str.ofString "law") = some (.ref fa) := hmg
  rw [e9] at hmg'
  have hfa : 179 = fa := Value.ref.inj (Option.some.inj hmg')
  have hlo' := hlo
  clear e9 hmg hmg' D hD hcd hd ho TE TW B
  subst hfa
  have TA := at_of_top T
  wrow_args hpre hlay hrd hwl hlo
  rename_i ns hs hlay0 hL0 hr0 hl2 as1 as2 L vs as3 hL ra w1 r0 hI hr hcond hc2
  have hn : ns.length ≤ 2 ^ 10 := by lia
  have hLs : L ≠ sysModules := by
    intro z
    cases r0
    have := hlo' L (List.mem_append_left _ (List.mem_cons_self ..))
    rw [z] at this
    exact absurd this (by decide)
  have hLo : s₁.heap.get? L = some (LObj vs 0) := by
    obtain ⟨oL, e1, e2, n, e3⟩ := hL
    have w1' : Well w.params s₁.heap (Value.ref L) (.list (ofPys (ns.map PyData.int))) := by
      first
        | exact w1
        | simpa [ofPy] using w1
    cases w1' with
    | list e4 _ =>
      rw [e4] at e1
      cases e1
      injection e3 with e3
      rw [e3] at e4
      exact e4
  refine law_top KX (Top.g T) T.b T.builtins T.nolimit T.bmain hT8 hLo hI hn hLs (good_all ns) fun h' tk hK => ?_
  refine ⟨.inl ⟨.bool true, .bool true, [], rfl, fun _ => rfl, .bool _, ?_, fun _ => ⟨List.nodup_nil, fun _ h => nomatch h⟩⟩, hK, rfl, ?_⟩
  · refine postC_of (r := PySem.Challenge.rw_sn0065_01.row.toRowW) (X := true) ?_ ?_ rfl
    · simp [OpenLaw.row, PySem.Challenge.rw_sn0065_01, WShape.has, WShape.arms]
    · simp [OpenLaw.row, PySem.Challenge.rw_sn0065_01, WTm.value, PySem.W.same]
  · exact AllBare.of_eq (by assumption)
theorem walked : PySem.Challenge.rw_sn0065_01.row.toRowW.promised := by w_witness2
end Mine
theorem PySem.Challenge.cw_sn0065_01_holds : PySem.Challenge.rw_sn0065_01.Holds :=
  holds_law Mine.said fun said => PySem.W.holds_open (q := Mine.vw) (loose := Mine.looseN) (Xt := Mine.xt) (XP := XL Mine.vw []) (Yf := Mine.hk.obs) (Ya := Mine.hk.val) (YP := Mine.hk.says) (N := 4644) (d := Mine.lawD) (kwd := []) Mine.left Mine.hk.of Mine.hk.keeps
    (fun s e => xl_of s (Bool.and_eq_true_iff.mp e).1) XL.keeps Mine.at_def Mine.at_text Mine.at_kw (fun s e => recFacts_of (Bool.and_eq_true_iff.mp e).2) Mine.at_wr said Mine.at_ok Mine.at_bare Mine.walked Mine.walk
